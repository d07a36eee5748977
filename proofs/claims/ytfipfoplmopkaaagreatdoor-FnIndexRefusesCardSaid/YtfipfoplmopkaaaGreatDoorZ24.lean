/- Writer.writeLabelIndex. Conditions: bounds on lengths. -/
import Derived.Test.YtfipfoplmopkaaaGreatDoorZ23
import Derived.Deep.CutRange
import Derived.Deep.RegionLaw

namespace Go.Proofs.YtfipfoplmopkaaaGreatDoor
open Go.RowKit Go.Maps

/-- An entry of w.labelIndexes: where its key lies, the key, the offset. -/
def liV (e : Nat × ByteArray × Nat) : List Value := [.slice (some ⟨e.1, 0, none⟩) 1 1, .int .u64 (e.2.2 : Nat)]
def liVs (es : List (Nat × ByteArray × Nat)) : List Value := (es.map liV).flatten
theorem liVs_len (es : List (Nat × ByteArray × Nat)) : (liVs es).length = es.length * 2 := by
  unfold liVs
  induction es with
  | nil => rfl
  | cons x r ih => simp [liV] at ih ⊢; omega
theorem liVs_snoc (es : List (Nat × ByteArray × Nat)) (e : Nat × ByteArray × Nat) : liVs (es ++ [e]) = liVs es ++ liV e := by simp [liVs]

/-- w.labelIndexes in memory: all its blocks are in A. -/
structure LI (A : Nat → Prop) (w : World) (v : Value) (es : List (Nat × ByteArray × Nat)) : Prop where
  row : w.ownsRow 0 224 2 v es.length (liVs es)
  blk : ∀ k, v.ownBlock = some k → A k
  key : ∀ e ∈ es, A e.1 ∧ w.cell? ⟨e.1, 0, none⟩ = some (.string e.2.1) ∧ e.2.1.size < 256 ∧ e.2.2 < 100000000

theorem LI.nil (A : Nat → Prop) (w : World) : LI A w (.slice none 0 0) [] := ⟨World.ownsRow_nil _ _ _ _, (fun k e => by cases e), (fun e h => by cases h)⟩
theorem LI.kept {A B P : Nat → Prop} {w w' : World} {v : Value} {es : List (Nat × ByteArray × Nat)} (h : LI A w v es) (hk : Kept (fun k _ => P k) w w') (hA : ∀ k, k < w.heap.size → A k → ¬ P k) (hB : ∀ k, k < w.heap.size → A k → B k) : LI B w' v es := by
  refine ⟨ownsRow_block h.row (fun k e => hk.block k (h.row.lt k e).2 (fun _ => hA k (h.row.lt k e).2 (h.blk k e))), fun k e => hB k (h.row.lt k e).2 (h.blk k e), fun e he => ?_⟩
  obtain ⟨h1, h2, h3⟩ := h.key e he
  have hb := World.block_lt_of_cell? _ _ h2
  exact ⟨hB _ hb h1, (hk.cell _ _ hb (hA _ hb h1)).trans h2, h3⟩

theorem und115 : Tryz.prog.underlying 115 = some (.slice 224) := by kernel_rfl
theorem info224 : (Tryz.prog.info? 224).map (fun i => (i.zero, i.size, i.bytes)) = some (some (.agg #[.slice none 0 0, .int .u64 0]), 2, 32) := by kernel_rfl

theorem LI.ne {A : Nat → Prop} {w : World} {v : Value} {es : List (Nat × ByteArray × Nat)} (h : LI A w v es) : ∀ e ∈ es, v.ownBlock ≠ some e.1 := by
  intro e he hb
  obtain ⟨_, h2, _⟩ := h.key e he
  cases es with
  | nil => cases he
  | cons x r =>
    have := h.row.cells hb 0 (.slice (some ⟨x.1, 0, none⟩) 1 1) (by simp [liVs, liV])
    rw [Addr.add_lit, Nat.zero_add, h2] at this
    cases this
theorem LI.reach {B : Nat → Prop} {w w' : World} {G G' : Gh} {v : Value} {es : List (Nat × ByteArray × Nat)} (h : LI (fun i => G.T i = 0 ∧ B i) w v es) (S : Reach w G w' G') : LI (fun i => G'.T i = 0 ∧ B i) w' v es :=
  h.kept (P := fun k => G.T k ≠ 0) (S.kp.mono (fun _ _ _ h => h)) (fun _ _ ha hp => hp ha.1) (fun k hk ha => ⟨(S.nx.T k hk).trans ha.1, ha.2⟩)

theorem Reach.stvs {w0 w : World} {G0 G : Gh} {V : Vw} (R : Reach w0 G0 w G) (hV : G.v = V) (i : Nat) (x : Value) (hi : i < 47) (hr : i < 12 ∨ 33 < i) (h0 : i ≠ 0) (h1 : i ≠ 44) (h2 : i ≠ 38) (h3 : i ≠ 40) :
    ∃ G', Reach w0 G0 (w.setCell ⟨G0.wb, i, none⟩ x) G' ∧ G'.v = { V with cs := upd V.cs i x } ∧ Reach w G (w.setCell ⟨G0.wb, i, none⟩ x) G' ∧ G'.T = G.T := by
  subst hV; exact ⟨_, R.set i x hi hr h0 h1 h2 h3, rfl, by rw [← R.nx.wb]; exact R.wi.setr i x hi hr h0 h1 h2 h3, rfl⟩
theorem U32s.kept {P : Nat → Prop} {w w' : World} {G G' : Gh} {ao : Option Addr} {xs : List Nat} (h : U32s w G ao xs) (hk : Kept (fun k _ => P k) w w') (hP : ∀ a, ao = some a → ¬ P a.block) (hT : ∀ k, k < w.heap.size → G'.T k = G.T k) : U32s w' G' ao xs := fun j x hj => by
  obtain ⟨k, off, e, h0, hc, hx⟩ := h j x hj
  have hb := World.block_lt_of_cell? _ _ hc
  exact ⟨k, off, e, (hT k hb).trans h0, (hk.cell _ _ hb (hP ⟨k, off, none⟩ e)).trans hc, hx⟩

def alenL : List UInt8 := [97, 108, 101, 110]

theorem two_new (w : World) (x y : Value) (t : TypeId) : ∀ ad, some (⟨w.heap.size, 0, none⟩ : Addr) = some ad → ∀ (j : Nat) u, [x, y][j]? = some u → (w.alloc (.cells #[x, y] t)).cell? (ad.add j) = some u := by
  intro ad e j u hj
  cases e
  match j, hj with
  | 0, hj => simp at hj; subst hj; rw [Addr.add_lit, Nat.zero_add, World.cell?_alloc_new]; rfl
  | 1, hj => simp at hj; subst hj; rw [Addr.add_lit, Nat.zero_add, World.cell?_alloc_new]; rfl

/-- What writeLabelIndex leaves. -/
def WLI (w0 : World) (G0 : Gh) (w : World) (G : Gh) (V : Vw) (A : Nat → Prop) (es : List (Nat × ByteArray × Nat)) (nm : ByteArray) (n : Nat) (e : Ending) (w' : World) : Prop :=
  e = .returned .nilIface ∧ ∃ G' l1 g k39 k, Reach w0 G0 w' G' ∧ G'.v = { V with l1 := l1, gf := g, lf := V.lf ++ k, cs := upd V.cs 39 k39 } ∧ k.length = padN V.lf.length 4 + 4 + (8 + 4 * n) + 4 ∧
    (∃ kb off, LI (fun i => G'.T i = 0 ∧ (A i ∨ w.heap.size ≤ i)) w' k39 (es ++ [(kb, nm, off)])) ∧ (∀ i, i < w.heap.size → G'.T i = G.T i) ∧ Kept (fun i o => wiZ G i o ∨ A i) w w'

set_option maxRecDepth 100000 in
set_option maxHeartbeats 8000000 in
theorem writeLabelIndex_any (w0 w : World) (G0 G : Gh) (V : Vw) (hR : Reach w0 G0 w G) (hV : G.v = V) (A : Nat → Prop) (es : List (Nat × ByteArray × Nat)) (hLI : LI A w (V.cs 39) es) (hA : ∀ i, i < w.heap.size → A i → w0.heap.size ≤ i ∧ G.T i = 0) (nm : ByteArray)
    (ao : Option Addr) (n c : Nat) (xs : List Nat) (hn : n = xs.length) (hx : U32s w G ao xs) (hxA : ∀ a, ao = some a → ¬ A a.block) (hnm : nm.size < 256) (hl : V.lf.length < 80000000) (hes : es.length < 1000000) (hn9 : n < 1000000) (hwn : V.wn ≤ V.lf.length) (hfm : V.zm = false) :
    Calls Tryz.prog 144 #[.pointer (some ⟨G0.wb, 0, none⟩), .string nm, .slice ao n c] w (WLI w0 G0 w G V A es nm n) := by
  have R0 := Lib.hid hR
  have V0 := Lib.hid hV
  have HX := Lib.hid hx
  have HN := Lib.hid hn
  have HL0 := Lib.hid hLI
  have HA := Lib.hid hA
  have HW := Lib.hid hwn
  have HXA := Lib.hid hxA
  obtain ⟨N0, hN0⟩ : ∃ N0, N0 = V.lf.length := ⟨_, rfl⟩
  rw [← hN0] at hl
  have HN0 := Lib.hid hN0
  clear hR hV hx hn hLI hA hN0 hwn hxA
  go_enter Tryz.func144, Tryz.ntmps144
  go_wp2_with fail
  refine (R0.out.padWs V0.out 4 (by decide) (by decide) (by have := HN0.out; omega) hfm).mono ?_
  rintro e w1 ⟨g1, rfl, G1, r1, v1, s1⟩
  obtain ⟨N, hN⟩ : ∃ N, N = N0 + padN N0 4 := ⟨_, rfl⟩
  have hN9 : N < 80000004 := by have := padN_lt N0 4 (by decide); omega
  obtain ⟨lf1, hlf1⟩ : ∃ lf1, lf1 = V.lf ++ zeros (padN V.lf.length 4) := ⟨_, rfl⟩
  have hlf1N : lf1.length = N := by rw [hlf1, hN, HN0.out]; simp
  have v1' : G1.v = { V with lf := lf1, gf := g1 } := by rw [v1, hlf1]
  have R1 := Lib.hid r1
  have V1 := Lib.hid v1'
  have S1 := Lib.hid s1
  have HLF1 := Lib.hid hlf1
  have HLN := Lib.hid hlf1N
  have HNN := Lib.hid hN
  have hsz1 : w.heap.size ≤ w1.heap.size := s1.kp.size
  have f0 := R1.out.f0
  have fp := R1.out.posv V1.out (n := N) hlf1N
  obtain ⟨ao9, c9, h39⟩ := own_slice HL0.out.row
  have f39 := R1.out.cv V1.out 39 h39 (by decide) (by decide)
  have g39 := R1.out.fr 39 (by decide)
  have hli1 : LI A w1 (.slice ao9 es.length c9) es := by
    rw [← h39]
    exact HL0.out.kept (P := fun k => G.T k ≠ 0) (s1.kp.mono (fun _ _ _ h => h)) (fun k hk ha h => h (HA.out k hk ha).2) (fun _ _ h => h)
  have L1 := Lib.hid hli1
  have H39 := Lib.hid h39
  clear r1 v1 v1' s1 hlf1 hlf1N hN hli1 h39
  obtain ⟨i0, hi, hz0, hz1, hz2⟩ := info_parts info224
  obtain ⟨m, hm⟩ : ∃ m, m = es.length := ⟨_, rfl⟩
  rw [← hm] at hes f39
  have HM := Lib.hid hm
  clear hm
  have hwb : G0.wb < w1.heap.size := World.block_lt_of_cell? _ _ f39
  have hfb : G0.fb < w1.heap.size := World.block_lt_of_cell? _ _ fp
  go_wp2_with fail
  obtain ⟨wa, hwa⟩ : ∃ wa, wa = ((w1.alloc (.cells #[.string nm] 9)).alloc (.cells #[.slice (some ⟨w1.heap.size, 0, none⟩) 1 1, .int .u64 N] 224)).drew := ⟨_, rfl⟩
  have ka : Kept (fun _ _ => False) w1 wa := by
    rw [hwa]; exact ((Kept.alloc _ _ _).trans (Kept.alloc _ _ _) (fun _ _ _ => id)).trans (Kept.drew _ _) (fun _ _ _ => id)
  have HWA := Lib.hid hwa
  have KA := Lib.hid ka
  have RWA : Hid (wa.ownsRow 0 224 2 (.slice ao9 m c9) m (liVs es)) := by
    have := L1.out.row
    rw [← HM.out] at this
    exact Lib.hid (ownsRow_block this (fun k hk => KA.out.block k (this.lt k hk).2 (fun _ => id)))
  have hnb : (Value.slice ao9 m c9).ownBlock ≠ some G0.wb := fun e => by
    have e' : (Value.slice ao9 es.length c9).ownBlock = some G0.wb := by cases ao9 <;> exact e
    have ha := L1.out.blk _ e'
    have hlt : G0.wb < w.heap.size := by rw [← R0.out.nx.wb]; exact R0.out.wi.e1.lt
    have := (HA.out _ hlt ha).2
    rw [← R0.out.nx.wb, R0.out.wi.t1] at this
    cases this
  have HNB := Lib.hid hnb
  clear hwa ka hnb
  go_cut [] from 21 to 39 (fun wx => ∃ ao' c3 w2, App wa w2 224 2 (.slice ao9 m c9) (.slice ao' (m + 1) c3) (m + 1) (liVs es ++ [.slice (some ⟨w1.heap.size, 0, none⟩) 1 1, .int .u64 N]) ∧ wx = w2.setCell ⟨G0.wb, 39, none⟩ (.slice ao' (m + 1) c3))
  case first =>
    have HR1 : Hid (∀ o o', (((w1.alloc o).alloc o').drew).ownsRow 0 224 2 (.slice ao9 m c9) m (liVs es)) := by
      refine Lib.hid (fun o o' => ?_)
      have k : Kept (fun _ _ => False) w1 (((w1.alloc o).alloc o').drew) := ((Kept.alloc _ _ _).trans (Kept.alloc _ _ _) (fun _ _ _ => id)).trans (Kept.drew _ _) (fun _ _ _ => id)
      have := L1.out.row
      rw [← HM.out] at this
      exact ownsRow_block this (fun i hi => k.block i (this.lt i hi).2 (fun _ => id))
    have C1 : Hid (∀ (o : Obj) (x y : Value) (t : TypeId), ∀ ad, some (⟨w1.heap.size + 1, 0, none⟩ : Addr) = some ad → ∀ (j : Nat) u, [x, y][j]? = some u → (((w1.alloc o).alloc (.cells #[x, y] t)).drew).cell? (ad.add j) = some u) :=
      Lib.hid (fun o x y t => by
        have := two_new (w1.alloc o) x y t
        rw [show (w1.alloc o).heap.size = w1.heap.size + 1 by simp] at this
        exact this)
    go_region_law ((refine step_app _ rfl _ _ 115 rfl 224 i0 (.agg #[.slice none 0 0, .int .u64 0]) 2 32 und115 hi hz0 hz1 hz2 rfl (by decide) (.slice ao9 m c9) m (liVs es) rfl (HR1.out _ _) (some ⟨w1.heap.size + 1, 0, none⟩) 1 1 [_, _] rfl rfl (fun e => by cases e) (C1.out _ _ _ _) (by simp [Value.oneCell']) (by unfold maxLen; omega) (by omega) (fun v' w2 ha => ?_); obtain ⟨ao', c3, rfl⟩ := own_slice ha.own; rw [← HWA.out] at ha; have hka := ha.kept RWA.out; have x39 : w2.cell? ⟨G0.wb, 39, none⟩ = some (.slice ao9 m c9) := ((hka.cell G0.wb 39 (Nat.lt_of_lt_of_le hwb KA.out.size) HNB.out).trans (KA.out.cell G0.wb 39 hwb id)).trans f39; have x39f : w2.frozen? ⟨G0.wb, 39, none⟩ = false := ((hka.fr G0.wb 39 (Nat.lt_of_lt_of_le hwb KA.out.size)).trans (KA.out.fr G0.wb 39 hwb)).trans g39; clear hka; have HAA := Lib.hid ha; clear ha))
    all_goals
      go_wp2_with fail
      go_meet
      exact ⟨_, _, _, HAA.out, rfl⟩
  case rest =>
    obtain ⟨ao', c3, w2, hap, hwx⟩ := hcut
    subst hwx
    have hkw := hap.kept RWA.out
    have hk12 : Kept (fun k _ => (Value.slice ao9 m c9).ownBlock = some k) w1 w2 := (KA.out.mono (fun _ _ _ => False.elim)).trans hkw (fun _ _ _ h => h)
    have hold : ∀ k, (Value.slice ao9 m c9).ownBlock = some k → k < w.heap.size ∧ A k := fun k e => by
      have e' : (V.cs 39).ownBlock = some k := by rw [H39.out]; cases ao9 <;> exact e
      exact ⟨(HL0.out.row.lt k e').2, HL0.out.blk k e'⟩
    obtain ⟨Ga, ra, va, ta, toa⟩ := R1.out.locv V1.out hk12 (fun k o hk hp => by
      have h1 := hold k hp
      have h2 := HA.out k h1.1 h1.2
      exact ⟨h2.1, (S1.out.nx.T k h1.1).trans h2.2⟩)
    have hwb2 : G0.wb < w2.heap.size := Nat.lt_of_lt_of_le hwb hk12.size
    obtain ⟨G2, r2, v2, s2, hT2⟩ := ra.stvs va 39 (.slice ao' (m + 1) c3) (by decide) (by decide) (by decide) (by decide) (by decide) (by decide)
    have k2 : Kept (fun k _ => k = G0.wb) w2 (w2.setCell ⟨G0.wb, 39, none⟩ (.slice ao' (m + 1) c3)) := Kept.setCell _ _ _ _ rfl
    have hTo : ∀ k, k < w1.heap.size → G2.T k = G1.T k := fun k hk => by rw [hT2]; exact toa k hk
    have hTn : ∀ k, w1.heap.size ≤ k → G2.T k = 0 := fun k hk => by rw [hT2]; exact ta k hk
    have hT1 : ∀ k, k < w.heap.size → G1.T k = G.T k := S1.out.nx.T
    have hwT : G1.T G0.wb = 1 := by rw [← R1.out.nx.wb]; exact R1.out.wi.t1
    have hnew : ∀ k, (Value.slice ao' (m + 1) c3).ownBlock = some k → G2.T k = 0 ∧ (A k ∨ w.heap.size ≤ k) := fun k e => by
      rcases hap.mv with h | ⟨g, h, hg⟩
      · have h1 := hold k (h.symm.trans e)
        exact ⟨by rw [hTo k (by omega), hT1 k h1.1]; exact (HA.out k h1.1 h1.2).2, .inl h1.2⟩
      · obtain rfl : g = k := Option.some.inj (h.symm.trans e)
        have := KA.out.size
        exact ⟨hTn _ (by omega), .inr (by omega)⟩
    have L2 : LI (fun i => G2.T i = 0 ∧ (A i ∨ w.heap.size ≤ i)) (w2.setCell ⟨G0.wb, 39, none⟩ (.slice ao' (m + 1) c3)) (.slice ao' (m + 1) c3) (es ++ [(w1.heap.size, nm, N)]) := by
      refine ⟨?_, hnew, fun e he => ?_⟩
      · have := hap.own
        rw [show (es ++ [(w1.heap.size, nm, N)]).length = m + 1 by simp [HM.out], liVs_snoc]
        refine ownsRow_setCell_other this (fun e => ?_) _
        have := (hnew _ e).1
        rw [hTo _ hwb, hwT] at this; cases this
      · rcases List.mem_append.1 he with he | he
        · obtain ⟨h1, h2, h3⟩ := L1.out.key e he
          have hb := World.block_lt_of_cell? _ _ h2
          obtain ⟨_, h2', _⟩ := HL0.out.key e he
          have hb' := World.block_lt_of_cell? _ _ h2'
          have hT0 : G2.T e.1 = 0 := by rw [hTo _ hb, hT1 _ hb']; exact (HA.out _ hb' h1).2
          refine ⟨⟨hT0, .inl h1⟩, ?_, h3⟩
          rw [k2.cell _ _ (Nat.lt_of_lt_of_le hb hk12.size) (fun e' => by have e'' : e.1 = G0.wb := e'; rw [e'', hTo _ hwb, hwT] at hT0; cases hT0), hk12.cell _ _ hb (fun e' => L1.out.ne e he (by rw [← HM.out]; exact e'))]
          exact h2
        · obtain rfl := List.mem_singleton.1 he
          have hlt : w1.heap.size < wa.heap.size := by rw [HWA.out]; simp; omega
          refine ⟨⟨hTn _ (Nat.le_refl _), .inr hsz1⟩, ?_, hnm, (by show N < 100000000; omega)⟩
          rw [k2.cell _ _ (Nat.lt_of_lt_of_le hlt hkw.size) (fun e' : w1.heap.size = G0.wb => by omega), hkw.cell _ _ hlt (fun e' => by have := (hold _ e').1; omega), HWA.out]
          show World.cell? (World.alloc _ _) _ = _
          rw [World.cell?_alloc_lt _ _ _ (by simp), World.cell?_alloc_new]
          rfl
    have hX2 : U32s (w2.setCell ⟨G0.wb, 39, none⟩ (.slice ao' (m + 1) c3)) G2 ao xs :=
      ((HX.out.reach S1.out).kept hk12 (fun a e hp => HXA.out a e (hold _ hp).2) toa).reach s2
    have hTT : ∀ i, i < w.heap.size → G2.T i = G.T i := fun i hi => (hTo i (by omega)).trans (hT1 i hi)
    have hKK : Kept (fun i o => wiZ G i o ∨ A i) w (w2.setCell ⟨G0.wb, 39, none⟩ (.slice ao' (m + 1) c3)) := by
      refine ((S1.out.kz.mono (Q := fun i o => wiZ G i o ∨ A i) (fun _ _ _ h => .inl h)).trans hk12 (fun i o hi h => .inr (hold i h).2)).trans k2 (fun i o hi (h : i = G0.wb) => .inl ?_)
      subst h
      unfold wiZ
      rw [← hT1 _ hi, hwT]
      exact ⟨by decide, fun _ => by decide, fun _ => by decide⟩
    have hzm2 : G2.zm = G.zm := by rw [show G2.zm = V.zm from congrArg Vw.zm v2, show G.zm = V.zm from congrArg Vw.zm V0.out]
    have hzo2 : G2.zo = G.zo := by rw [show G2.zo = V.zo from congrArg Vw.zo v2, show G.zo = V.zo from congrArg Vw.zo V0.out]
    have HZM := Lib.hid hzm2
    have HZO := Lib.hid hzo2
    have R2 := Lib.hid r2
    have V2 : Hid (G2.v = { V with lf := lf1, gf := g1, cs := upd V.cs 39 (.slice ao' (m + 1) c3) }) := Lib.hid v2
    have HL2 := Lib.hid L2
    have HX2 := Lib.hid hX2
    have HTT := Lib.hid hTT
    have HKK := Lib.hid hKK
    clear r2 v2 L2 hX2 hTT hKK hzm2 hzo2 hnew hold hTo hTn hT1 hwT s2 hT2 hwb2 hap hkw hk12 ra va ta toa k2 f0 fp f39 g39 KA RWA HWA HNB
    obtain ⟨wx, hwx⟩ : ∃ wx, wx = w2.setCell ⟨G0.wb, 39, none⟩ (.slice ao' (m + 1) c3) := ⟨_, rfl⟩
    rw [← hwx] at R2 HL2 HX2 HKK ⊢
    clear hwx
    have f0 := R2.out.f0
    have fp := R2.out.posv V2.out (n := N) HLN.out
    have hcv := fun (w : World) (C : Array Value) (n c : Nat) => Lib.run_convert_bytes_const (P := Tryz.prog) w 27 5 C n c Tryz.underlying27 Tryz.underlying5
    have mr1 := method_reset
    have mr2 := ahead_reset
    go_wp2_with fail
    have hwl := R2.out.writeLits V2.out alenL (4, 5) (by simp [alenL]; rw [HLN.out]; omega) hfm
    rw [show (bVs alenL).toArray = #[.int .u8 97, .int .u8 108, .int .u8 101, .int .u8 110] from rfl, show alenL.length = 4 from rfl] at hwl
    refine hwl.mono ?_
    clear hwl
    rintro e w3 ⟨g3, rfl, G3, r3, v3, s3⟩
    have R3 := Lib.hid r3
    have V3 := Lib.hid v3
    have S3 := Lib.hid s3
    clear r3 v3 s3 fp
    have f44 := R3.out.c44
    go_wp2_with fail
    refine (R3.out.dresets V3.out).mono ?_
    rintro e w4 ⟨rfl, G4, r4, v4, s4⟩
    have R4 := Lib.hid r4
    have V4 := Lib.hid v4
    have S4 := Lib.hid (S3.out.trans s4)
    clear r4 v4 s4 f44
    go_wp2_with fail
    refine (R4.out.reset1s V4.out).mono ?_
    rintro e w5 ⟨rfl, G5, r5, v5, s5⟩
    have R5 := Lib.hid r5
    have V5 := Lib.hid v5
    have S5 := Lib.hid (S4.out.trans s5)
    clear r5 v5 s5
    go_wp2_with fail
    refine (R5.out.be32i_1s V5.out 1 (by simp) (by decide)).mono ?_
    rintro e w6 ⟨rfl, G6, r6, v6, s6⟩
    have R6 := Lib.hid r6
    have V6 := Lib.hid v6
    have S6 := Lib.hid (S5.out.trans s6)
    clear r6 v6 s6
    go_wp2_with fail
    refine (R6.out.be32i_1s V6.out n (by simp [be32]) (by omega)).mono ?_
    rintro e w7 ⟨rfl, G7, r7, v7, s7⟩
    have R7 := Lib.hid r7
    have V7 := Lib.hid v7
    have S7 := Lib.hid (S6.out.trans s7)
    clear r7 v7 s7
    have f44 := R7.out.c44
    go_wp2_with fail
    go_still_tail 7, (by kernel_rfl)
    go_wp2_with fail
    refine (R7.out.drew.wth1s V7.out (by simp [be32])).mono ?_
    rintro e w8 ⟨rfl, G8, r8, v8, s8⟩
    have R8 := Lib.hid r8
    have V8 := Lib.hid v8
    have S8 := Lib.hid (S7.out.drew.trans s8)
    clear r8 v8 s8 f44
    obtain ⟨ao1, m1, c1, HV1, _⟩ := R8.out.v1
    go_wp2_with (go_at_call 49; refine (get_any G0.wb 12 _ w8 HV1).mono ?_; rintro e w' ⟨rfl, rfl⟩)
    refine (R8.out.write1s V8.out HV1 (by simp [be32, alenL]; rw [HLN.out]; omega) hfm).mono ?_
    rintro e w9 ⟨g9, rfl, G9, r9, v9, s9⟩
    have R9 := Lib.hid r9
    have v9' : G9.v = { V with l1 := be32 1 ++ be32 n, lf := lf1 ++ (alenL ++ (be32 1 ++ (be32 n ++ raw32 (xs.take 0)))), gf := g9, cs := upd V.cs 39 (.slice ao' (m + 1) c3) } := by rw [v9]; simp [raw32]
    have V9 := Lib.hid v9'
    have S9 := Lib.hid (S8.out.trans s9)
    clear r9 v9 v9' s9 HV1
    go_wp2_with fail
    go_loopw [94] (fun i wr => ∃ j : Nat, j ≤ n ∧ i = .int .i64 j ∧ Hid (∃ Gr l g, Reach w0 G0 wr Gr ∧ Reach wx G2 wr Gr ∧ Gr.v = { V with l1 := l, lf := lf1 ++ (alenL ++ (be32 1 ++ (be32 n ++ raw32 (xs.take j)))), gf := g, cs := upd V.cs 39 (.slice ao' (m + 1) c3) })) (fun i _ => n - (intOf i).toNat)
    case atStart => exact ⟨0, Nat.zero_le _, rfl, Lib.hid ⟨_, _, _, R9.out, S9.out, V9.out⟩⟩
    case round =>
      obtain ⟨j, hj, rfl, HR⟩ := hrel
      obtain ⟨Gr, lr, gr, rr, sr, vr⟩ := HR.out
      have RR := Lib.hid rr
      have SR := Lib.hid sr
      have VR := Lib.hid vr
      clear rr sr vr HR R9 S9 V9
      by_cases hlt : j < n
      · obtain ⟨x, hxj⟩ : ∃ x, xs[j]? = some x := ⟨xs[j]'(by rw [← HN.out]; exact hlt), by simp [← HN.out, hlt]⟩
        obtain ⟨k, off, rfl, hT, hc, hx32⟩ := (HX2.out.reach SR.out) j x hxj
        have HXJ := Lib.hid hxj
        clear hxj hT
        go_wp2_with fail
        refine (RR.out.reset1s VR.out).mono ?_
        rintro e wa ⟨rfl, Ga, ra, va, sa⟩
        have RA := Lib.hid ra
        have VA := Lib.hid va
        have SA := Lib.hid (SR.out.trans sa)
        clear ra va sa hc
        go_wp2_with fail
        refine (RA.out.be32_1s VA.out x (by simp) hx32).mono ?_
        rintro e wb ⟨rfl, Gb, rb, vb, sb⟩
        have RB := Lib.hid rb
        have VB := Lib.hid vb
        have SB := Lib.hid (SA.out.trans sb)
        clear rb vb sb
        have f44 := RB.out.c44
        go_wp2_with fail
        go_still_tail 7, (by kernel_rfl)
        go_wp2_with fail
        refine (RB.out.drew.wth1s VB.out (by simp [be32])).mono ?_
        rintro e wc ⟨rfl, Gc, rc, vc, sc⟩
        have RC := Lib.hid rc
        have VC := Lib.hid vc
        have SC := Lib.hid (SB.out.drew.trans sc)
        clear rc vc sc f44
        obtain ⟨ao1, m1, c1, HV1, _⟩ := RC.out.v1
        go_wp2_with (go_at_call 49; refine (get_any G0.wb 12 _ wc HV1).mono ?_; rintro e w' ⟨rfl, rfl⟩)
        refine (RC.out.write1s VC.out HV1 (by simp [be32, alenL, raw32_len]; rw [HLN.out]; have := HN.out; omega) hfm).mono ?_
        rintro e wd ⟨gd, rfl, Gd, rd, vd, sd⟩
        have RD := Lib.hid rd
        have vd' : Gd.v = { V with l1 := be32 x, lf := lf1 ++ (alenL ++ (be32 1 ++ (be32 n ++ raw32 (xs.take (j + 1))))), gf := gd, cs := upd V.cs 39 (.slice ao' (m + 1) c3) } := by rw [vd, raw32_snoc HXJ.out]; simp
        have VD := Lib.hid vd'
        have SD := Lib.hid (SC.out.trans sd)
        clear rd vd vd' sd HV1
        go_wp2
        go_roundw
        case rel => exact ⟨j + 1, by omega, by go_num, Lib.hid ⟨_, _, _, RD.out, SD.out, VD.out⟩⟩
        case measure => simp [intOf]; omega
      · obtain rfl : j = n := by omega
        obtain ⟨body, hbody⟩ : ∃ body, body = be32 1 ++ (be32 j ++ raw32 (xs.take j)) := ⟨_, rfl⟩
        have hbl : body.length = 8 + 4 * j := by rw [hbody]; simp [be32, raw32_len]; have := HN.out; omega
        have VR' : Hid (Gr.v = { V with l1 := lr, lf := lf1 ++ (alenL ++ body), gf := gr, cs := upd V.cs 39 (.slice ao' (m + 1) c3) }) := Lib.hid (by rw [VR.out, hbody])
        have HBL := Lib.hid hbl
        clear hbody hbl VR
        go_wp2_with fail
        refine (RR.out.reset1s VR'.out).mono ?_
        rintro e wa ⟨rfl, Ga, ra, va, sa⟩
        have RA := Lib.hid ra
        have VA := Lib.hid va
        have SA := Lib.hid (SR.out.trans sa)
        clear ra va sa
        obtain ⟨N2, hN2⟩ : ∃ N2, N2 = N + 4 + (8 + 4 * j) := ⟨_, rfl⟩
        have f0 := RA.out.f0
        have fp := RA.out.posv VA.out (n := N2) (by simp [alenL]; rw [HLN.out, HBL.out, hN2]; omega)
        obtain ⟨q, hq⟩ : ∃ q, q = 8 + 4 * j := ⟨_, rfl⟩
        have i1 : (N2 : Int) - N - 4 = q := by omega
        have i2 : q < 90000000 := by omega
        have i3 : N + 4 ≤ N2 := by omega
        have i4 : N2 < 90000000 := by omega
        have HQ := Lib.hid hq
        clear hN2 hq
        go_wp2_with fail
        clear fp f0 i1
        refine (RA.out.be32i_1s VA.out q (by simp) (by omega)).mono ?_
        rintro e wb ⟨rfl, Gb, rb, vb, sb⟩
        have RB := Lib.hid rb
        have VB := Lib.hid vb
        have SB := Lib.hid (SA.out.trans sb)
        clear rb vb sb
        obtain ⟨ao1, m1, c1, HV1, _⟩ := RB.out.v1
        go_wp2_with (go_at_call 49; refine (get_any G0.wb 12 _ wb HV1).mono ?_; rintro e w' ⟨rfl, rfl⟩)
        refine (RB.out.writeAt1s VB.out N HV1 (by simp [be32]) (by simp [be32, alenL]; rw [HLN.out]; omega) (by simp [alenL]; rw [HLN.out, HBL.out]; omega) (by have := HW.out; have := HNN.out; have := HN0.out; simp; omega) hfm).mono ?_
        rintro e wc ⟨rfl, Gc, rc, vc, sc⟩
        have RC := Lib.hid rc
        have vc' : Gc.v = { V with l1 := be32 q, lf := lf1 ++ (be32 q ++ body), gf := gr, cs := upd V.cs 39 (.slice ao' (m + 1) c3) } := by
          rw [vc]; simp only [List.nil_append]; rw [spl_mid lf1 alenL body (be32 q) N HLN.out rfl]
        have VC := Lib.hid vc'
        have SC := Lib.hid (SB.out.trans sc)
        clear rc vc vc' sc HV1
        go_wp2_with fail
        refine (RC.out.reset1s VC.out).mono ?_
        rintro e wd ⟨rfl, Gd, rd, vd, sd⟩
        have RD := Lib.hid rd
        have VD := Lib.hid vd
        have SD := Lib.hid (SC.out.trans sd)
        clear rd vd sd
        have f44 := RD.out.c44
        go_wp2_with fail
        go_still_tail 7, (by kernel_rfl)
        go_wp2_with fail
        refine (RD.out.drew.sum1s VD.out (by simp)).mono ?_
        rintro e we ⟨k4, hk4, rfl, Ge, re, ve, se⟩
        have RE := Lib.hid re
        have VE := Lib.hid ve
        have SE := Lib.hid (SD.out.drew.trans se)
        have HK4 := Lib.hid hk4
        clear re ve se f44 hk4
        obtain ⟨ao1, m1, c1, HV1, _⟩ := RE.out.v1
        go_wp2_with (go_at_call 49; refine (get_any G0.wb 12 _ we HV1).mono ?_; rintro e w' ⟨rfl, rfl⟩)
        refine (RE.out.write1s VE.out HV1 (by simp [be32]; rw [HLN.out, HBL.out, HK4.out]; omega) hfm).mono ?_
        rintro e wf ⟨gf, rfl, Gf, rf, vf, sf⟩
        have RF := Lib.hid rf
        have VF := Lib.hid vf
        have SF := Lib.hid (SE.out.trans sf)
        clear rf vf sf HV1
        go_wp2
        go_ret
        refine ⟨rfl, Gf, k4, gf, .slice ao' (m + 1) c3, zeros (padN V.lf.length 4) ++ ((be32 q ++ body) ++ k4), RF.out, ?_, ?_, ⟨w1.heap.size, N, HL2.out.reach SF.out⟩, fun i hi => ?_, ?_⟩
        · rw [VF.out, HLF1.out]; simp
        · simp [be32]; rw [HBL.out, HK4.out]; omega
        · have := HKK.out.size
          exact (SF.out.nx.T i (by omega)).trans (HTT.out i hi)
        · refine HKK.out.trans SF.out.kz (fun i o hi (h : wiZ G2 i o) => .inl ?_)
          unfold wiZ at h ⊢
          rw [← HTT.out i hi, ← HZM.out, ← HZO.out]; exact h

end Go.Proofs.YtfipfoplmopkaaaGreatDoor
