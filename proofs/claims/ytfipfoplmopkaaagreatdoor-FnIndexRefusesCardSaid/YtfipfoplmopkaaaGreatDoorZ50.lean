/- BuildIndex's closure (20). Conditions: bounds on counts and sizes. From the row's reading of the arguments to slices of strings, labels, chunks, series in memory. No condition. impl.safe(19) at BuildIndex's closure. No condition. impl.BuildIndex(9). Conditions: bounds on counts and sizes. laws.indexFew(7). Conditions: lengths; the numbers fit 64 bits. -/
import Derived.Test.YtfipfoplmopkaaaGreatDoorZ48
import Derived.Test.YtfipfoplmopkaaaGreatDoorZ49
import Derived.Test.YtfipfoplmopkaaaGreatDoorZ02
import Derived.Test.YtfipfoplmopkaaaGreatDoorZ03
import Derived.Test.YtfipfoplmopkaaaGreatDoorZ04
import Derived.Test.YtfipfoplmopkaaaGreatDoorZ05
import Derived.Test.YtfipfoplmopkaaaGreatDoorZ06
import Derived.Test.YtfipfoplmopkaaaGreatDoorZ07
import Derived.Test.YtfipfoplmopkaaaGreatDoorZ08
import Derived.Test.YtfipfoplmopkaaaGreatDoorZ09
import Derived.Deep.Strs
import Derived.Deep.SlicePairs
import Derived.Recover

namespace Go.Proofs.YtfipfoplmopkaaaGreatDoor
open Go.RowKit Go.Maps

/-- What BuildIndex's closure may turn. -/
def PB (n rb ab bb : Nat) (k _o : Nat) : Prop := k = rb ∨ k = ab ∨ k = bb ∨ n ≤ k
/-- What BuildIndex's closure leaves. -/
def BPost (w : World) (rb ab bb : Nat) (ss : List ByteArray) (xs : List Sr) (e : Ending) (w' : World) : Prop :=
  e = .returned (.tuple #[]) ∧ (∃ r : Int, RefR ss xs r ∧ w'.cell? ⟨rb, 0, none⟩ = some (.int .i64 r)) ∧ (∃ v, w'.cell? ⟨bb, 0, none⟩ = some v ∧ ∃ ao n c, v = .slice ao n c) ∧ Kept (PB w.heap.size rb ab bb) w w'

theorem take_last {ss : List ByteArray} {i : Nat} (h : i < ss.length) (h0 : 0 < i) : (ss.take i).getLast? = some (ss.getD (i - 1) ⟨#[]⟩) := by
  rw [List.getLast?_take, if_neg (by omega), List.getD_eq_getElem?_getD, List.getElem?_eq_getElem (show i - 1 < ss.length by omega)]; rfl
theorem good_notbad {ss : List ByteArray} {i : Nat} (h : i < ss.length) {s : ByteArray} (hs : s = ss.getD i ⟨#[]⟩) (hc : ss.take i = [] ∨ ∃ z, (ss.take i).getLast? = some z ∧ leB s z = false) : ¬ badS ss i := by
  rintro ⟨h0, hb⟩
  rcases hc with e | ⟨z, hz, hl⟩
  · have := congrArg List.length e
    simp at this
    rcases this with h1 | h1
    · omega
    · rw [h1] at h; simp at h
  · rw [take_last h h0] at hz; cases hz
    rw [← hs, hl] at hb; cases hb
theorem bad_bad {ss : List ByteArray} {i : Nat} (h : i < ss.length) {s : ByteArray} (hs : s = ss.getD i ⟨#[]⟩) (hc : ∃ z, (ss.take i).getLast? = some z ∧ leB s z = true) : badS ss i := by
  obtain ⟨z, hz, hl⟩ := hc
  by_cases h0 : 0 < i
  · rw [take_last h h0] at hz; cases hz
    exact ⟨h0, by rw [← hs]; exact hl⟩
  · obtain rfl : i = 0 := by omega
    simp at hz

theorem BX.fin {nb : Nat} {w w3 : World} {G : Gh} {rb sb ab xb bb i : Nat} {sv xv : Value} {ss : List ByteArray} {xs : List Sr} (h : BX nb w3 G rb sb ab xb bb sv xv i) (hne : rb ≠ bb) (hk : Kept (PB w.heap.size rb ab bb) w w3) {r : Int} (hr : RefR ss xs r) :
    BPost w rb ab bb ss xs (.returned (.tuple #[])) (w3.setCell ⟨rb, 0, none⟩ (.int .i64 r)) := by
  refine ⟨rfl, ⟨r, hr, World.cell?_setCell_same _ _ _ h.r⟩, ?_, hk.trans (Kept.setCell (P := PB w.heap.size rb ab bb) _ _ _ _ (by first | exact Or.inl rfl | exact Or.inr (Or.inr (Or.inl rfl)))) (fun _ _ _ => id)⟩
  rw [World.cell?_setCell_other _ _ _ _ (by first | (simp; done) | (simp; exact hne) | (simp; exact hne.symm))]
  exact h.b
theorem BX.done {nb : Nat} {w w3 : World} {G : Gh} {rb sb ab xb bb i : Nat} {sv xv : Value} {ss : List ByteArray} {xs : List Sr} (h : BX nb w3 G rb sb ab xb bb sv xv i) (hne : rb ≠ bb) (hk : Kept (PB w.heap.size rb ab bb) w w3) (hr : RefR ss xs (-1)) (ao : Option Addr) (n c : Nat) :
    BPost w rb ab bb ss xs (.returned (.tuple #[])) (w3.setCell ⟨bb, 0, none⟩ (.slice ao n c)) := by
  obtain ⟨v, hv, _⟩ := h.b
  refine ⟨rfl, ⟨-1, hr, ?_⟩, ⟨_, World.cell?_setCell_same _ _ _ hv, ao, n, c, rfl⟩, hk.trans (Kept.setCell (P := PB w.heap.size rb ab bb) _ _ _ _ (by first | exact Or.inl rfl | exact Or.inr (Or.inr (Or.inl rfl)))) (fun _ _ _ => id)⟩
  rw [World.cell?_setCell_other _ _ _ _ (by first | (simp; done) | (simp; exact hne) | (simp; exact hne.symm))]
  exact h.r
def encK (c : Ck) : List Value := [.int .u64 (c.r : Int), .nilIface, .int .i64 c.a, .int .i64 c.z]
def rowKV (cs : List Ck) : List Value := (cs.map encK).flatten
theorem rowKV_snoc (ls : List Ck) (x : Ck) : rowKV (ls ++ [x]) = rowKV ls ++ [.int .u64 (x.r : Int), .nilIface, .int .i64 x.a, .int .i64 x.z] := by simp [rowKV, encK]
theorem rowKV_cons (x : Ck) (ls : List Ck) : rowKV (x :: ls) = .int .u64 (x.r : Int) :: .nilIface :: .int .i64 x.a :: .int .i64 x.z :: rowKV ls := by simp [rowKV, encK]
theorem rowKV_get : ∀ (ls : List Ck) (i : Nat) (h : i < ls.length), (rowKV ls)[i * 4]? = some (.int .u64 ((ls[i]'h).r : Int)) ∧ (rowKV ls)[i * 4 + 1]? = some .nilIface ∧ (rowKV ls)[i * 4 + 2]? = some (.int .i64 (ls[i]'h).a) ∧ (rowKV ls)[i * 4 + 3]? = some (.int .i64 (ls[i]'h).z)
  | [], i, h => by simp at h
  | x :: t, 0, _ => by rw [rowKV_cons]; exact ⟨rfl, rfl, rfl, rfl⟩
  | x :: t, i + 1, h => by
    have := rowKV_get t i (by simpa using h)
    rw [rowKV_cons, show (i + 1) * 4 = i * 4 + 4 by omega]
    exact this
theorem four_newK (w : World) (a b c d : Value) (t : TypeId) : ∀ ad, some (⟨w.heap.size, 0, none⟩ : Addr) = some ad → ∀ (j : Nat) u, [a, b, c, d][j]? = some u → (w.alloc (.cells #[a, b, c, d] t)).cell? (ad.add j) = some u := by
  intro ad e j u hj
  cases e
  match j, hj with
  | 0, hj => simp at hj; subst hj; rw [Addr.add_lit, Nat.zero_add, World.cell?_alloc_new]; rfl
  | 1, hj => simp at hj; subst hj; rw [Addr.add_lit, Nat.zero_add, World.cell?_alloc_new]; rfl
  | 2, hj => simp at hj; subst hj; rw [Addr.add_lit, Nat.zero_add, World.cell?_alloc_new]; rfl
  | 3, hj => simp at hj; subst hj; rw [Addr.add_lit, Nat.zero_add, World.cell?_alloc_new]; rfl
theorem info69 : (Tryz.prog.info? 69).map (fun i => (i.zero, i.size, i.bytes)) = some (some (.agg #[.int .u64 0, .nilIface, .int .i64 0, .int .i64 0]), 4, 40) := by kernel_rfl
theorem getD_of {α : Type} {l : List α} {i : Nat} (h : i < l.length) (d : α) : l.getD i d = l[i]'h := by rw [List.getD_eq_getElem?_getD, List.getElem?_eq_getElem h]; rfl

theorem lastR_lt {xs : List Sr} (j : Nat) : lAt xs (j + 1) = fsL (xs.getD j default).ls ∧ rAt xs (j + 1) = (xs.getD j default).r := ⟨rfl, rfl⟩
/-- AddSeries in the closure's round. -/
theorem add_round {nb : Nat} {w wj w5 : World} {G : Gh} {ss : List ByteArray} {xs : List Sr} {j i : Nat} {D0 : ByteArray} {rb sb ab xb bb : Nat} {sv xv : Value} (pw : PWr nb wj G ss j D0 (lAt xs j) (rAt xs j) (cAt xs j)) (bx : BX nb wj G rb sb ab xb bb sv xv i) (kn : Kept (PB w.heap.size rb ab bb) w wj) (hNnb : w.heap.size ≤ nb)
    (k5 : Kept (fun k _ => wj.heap.size ≤ k) wj w5) (xo : XOK xs) (hj : j < xs.length) (D : ByteArray) (hD : LD D (fsL (xs.getD j default).ls)) (g cc m : Nat) (ao : Option Addr) (hm : m = (xs.getD j default).ck.length) (hv3 : 0 < m → ao = some ⟨g, 0, none⟩ ∧ m ≤ cc ∧ RowC w5 g 0 (xs.getD j default).ck ∧ g < w5.heap.size ∧ wj.heap.size ≤ g) :
    Calls Tryz.prog 23 #[.pointer (some ⟨G.wb, 0, none⟩), .int .u64 ((xs.getD j default).r : Int), .agg #[.string D], .slice ao m cc] w5 (fun e w6 =>
      (¬ okX ss xs j ∧ (∃ t v, e = .returned (.iface t v)) ∧ ∃ G', BX nb w6 G' rb sb ab xb bb sv xv i ∧ Kept (PB w.heap.size rb ab bb) w w6 ∧ ∀ k o, wj.heap.size ≤ k → k < w5.heap.size → w6.cell? ⟨k, o, none⟩ = w5.cell? ⟨k, o, none⟩) ∨
      (okX ss xs j ∧ e = .returned .nilIface ∧ ∃ G', G.wb = G'.wb ∧ PWr nb w6 G' ss (j + 1) D (lAt xs (j + 1)) (rAt xs (j + 1)) (cAt xs (j + 1)) ∧ BX nb w6 G' rb sb ab xb bb sv xv i ∧ Kept (PB w.heap.size rb ab bb) w w6 ∧ ∀ k o, wj.heap.size ≤ k → k < w5.heap.size → w6.cell? ⟨k, o, none⟩ = w5.cell? ⟨k, o, none⟩)) := by
  have r5 := pw.wi.newsr k5
  have pw5 := pw.go r5 rfl
  have bx5 := bx.go r5
  have hn20 := xo.n
  obtain ⟨l1, l2, l3, l4⟩ := xo.l j hj
  have kn5 : Kept (PB w.heap.size rb ab bb) w w5 := kn.trans k5 (fun k _ _ e => Or.inr (Or.inr (Or.inr (by have := bx.n; omega))))
  have hwN := bx5.T
  have key := addSeries_any nb w5 (G.news wj.heap.size) ss j D0 (lAt xs j) (rAt xs j) (cAt xs j) pw5 (by omega) D _ hD l1 l3 l2 (xs.getD j default).r g 0 cc m (xs.getD j default).ck ao hm
    (fun h0 => by obtain ⟨a1, a2, a3, a4, a5⟩ := hv3 h0; exact ⟨a1, a2, a3, a4, Gh.news_T _ a5⟩) (xo.r j hj).1 (xo.k j hj)
  refine key.mono ?_
  have kk : ∀ {w6 : World}, Kept (wiP (G.news wj.heap.size)) w5 w6 → Kept (PB w.heap.size rb ab bb) w w6 := fun h => kn5.trans h (fun k _ _ e => Or.inr (Or.inr (Or.inr (Nat.le_trans hNnb (Nat.le_of_not_lt (fun hlt => wiP_nb hwN k 0 hlt e))))))
  have kc : ∀ {w6 : World}, Kept (wiP (G.news wj.heap.size)) w5 w6 → ∀ k o, wj.heap.size ≤ k → k < w5.heap.size → w6.cell? ⟨k, o, none⟩ = w5.cell? ⟨k, o, none⟩ := fun h k o h1 h2 => h.cell k o h2 (fun hne => hne (Gh.news_T _ h1))
  rintro e w6 (⟨hc, he, G', r⟩ | ⟨⟨hc1, hc2⟩, he, G', r, hp⟩)
  · refine Or.inl ⟨fun ho => ?_, he, G', bx5.go r, kk r.kp, kc r.kp⟩
    rcases hc with hc | hc
    · exact absurd ho.1 (by omega)
    · exact hc ho.2
  · exact Or.inr ⟨⟨hc1, hc2⟩, he, G', r.nx.wb.symm, hp, bx5.go r, kk r.kp, kc r.kp⟩

set_option maxRecDepth 100000 in
set_option maxHeartbeats 4000000 in
theorem cl20_any (N : Nat) (w : World) (ss : List ByteArray) (xs : List Sr) (rb sb ab xb bb : Nat) (sv xv : Value) (hs : AtS N w sv ss) (hx : AtX N w xv xs) (so : SOK ss) (xo : XOK xs)
    (hN : N ≤ rb ∧ N ≤ sb ∧ N ≤ ab ∧ N ≤ xb ∧ N ≤ bb) (hlt : rb < w.heap.size ∧ sb < w.heap.size ∧ ab < w.heap.size ∧ xb < w.heap.size ∧ bb < w.heap.size) (hne : rb ≠ ab ∧ sb ≠ ab ∧ xb ≠ ab ∧ bb ≠ ab) (hne2 : rb ≠ sb ∧ rb ≠ xb ∧ rb ≠ bb)
    (cr : ∃ v, w.cell? ⟨rb, 0, none⟩ = some v) (cs : w.cell? ⟨sb, 0, none⟩ = some sv) (ca : w.cell? ⟨ab, 0, none⟩ = some (.int .i64 0)) (cx : w.cell? ⟨xb, 0, none⟩ = some xv) (cb : ∃ v, w.cell? ⟨bb, 0, none⟩ = some v ∧ ∃ ao n c, v = .slice ao n c)
    (fr : w.frozen? ⟨rb, 0, none⟩ = false) (fa : w.frozen? ⟨ab, 0, none⟩ = false) (fb : w.frozen? ⟨bb, 0, none⟩ = false) :
    Calls Tryz.prog 20 #[.pointer (some ⟨rb, 0, none⟩), .pointer (some ⟨sb, 0, none⟩), .pointer (some ⟨ab, 0, none⟩), .pointer (some ⟨xb, 0, none⟩), .pointer (some ⟨bb, 0, none⟩)] w (BPost w rb ab bb ss xs) := by
  obtain ⟨vr, cr⟩ := cr
  obtain ⟨w1, hw1⟩ : ∃ w1, w1 = w.setCell ⟨rb, 0, none⟩ (.int .i64 (-1)) := ⟨_, rfl⟩
  have k1 : Kept (fun k _ => k = rb) w w1 := by rw [hw1]; exact Kept.setCell _ _ _ _ rfl
  obtain ⟨h1, h2, h3, h4, h5⟩ := hlt
  have c1 : ∀ {b}, b < w.heap.size → rb ≠ b → w1.cell? ⟨b, 0, none⟩ = w.cell? ⟨b, 0, none⟩ := fun hb hne => k1.cell _ 0 hb (fun e => hne e.symm)
  have kN1 : Kept (PB w.heap.size rb ab bb) w w1 := k1.mono (fun k _ _ e => Or.inl e)
  have BX1 : ∀ G : Gh, (∀ k, k < w1.heap.size → G.T k = 0) → BX w1.heap.size w1 G rb sb ab xb bb sv xv 0 := fun G hT => by
    have hs1 := k1.size
    exact ⟨⟨by omega, by omega, by omega, by omega, by omega⟩, Nat.le_refl _, hne, hT, by rw [hw1]; exact World.cell?_setCell_same _ _ _ cr, (c1 h2 hne2.1).trans cs, (c1 h3 hne.1).trans ca, (c1 h4 hne2.2.1).trans cx, by rw [c1 h5 hne2.2.2]; exact cb, (k1.fr _ 0 h1).trans fr, (k1.fr _ 0 h3).trans fa, (k1.fr _ 0 h5).trans fb⟩
  have hN1 : N ≤ w.heap.size := by omega
  have HPN : Hid (∀ k j, k < N → ¬ PB w.heap.size rb ab bb k j) := Lib.hid (fun k j h e => by unfold PB at e; omega)
  have NE2 := Lib.hid hne2.2.2
  have AS := Lib.hid hs
  have AX := Lib.hid hx
  have SO := Lib.hid so
  have XO := Lib.hid xo
  have HN := Lib.hid hN
  have HN1 := Lib.hid hN1
  have HB1 := Lib.hid BX1
  have KN1 := Lib.hid kN1
  have HW1 := Lib.hid hw1
  have HZ := Lib.hid (zzWriter_any w1)
  clear hs hx so xo hN hne hne2 cs ca cx cb fa fb k1 c1 kN1 BX1 h1 h2 h3 h4 h5 hw1 hN1
  go_enter Tryz.func20, Tryz.ntmps20
  go_wp2_with fail
  rw [← HW1.out]
  (with_reducible refine HZ.out.mono ?_)
  rintro e w2 ⟨G, rfl, hp, hk, hT⟩
  obtain ⟨wb, hwb⟩ : ∃ wb, wb = G.wb := ⟨_, rfl⟩
  rw [← hwb]
  have hbx2 : BX w1.heap.size w2 G rb sb ab xb bb sv xv 0 := (HB1.out G hT).kept hk (fun _ _ _ e => e) (fun _ _ => rfl)
  obtain ⟨nb, hnb⟩ : ∃ nb, nb = w1.heap.size := ⟨_, rfl⟩
  rw [← hnb] at hbx2
  have hKN : Kept (PB w.heap.size rb ab bb) w w2 := KN1.out.trans hk (fun _ _ _ e => e.elim)
  have hNnb : w.heap.size ≤ nb := by rw [hnb]; exact KN1.out.size
  have HWB := Lib.hid hwb
  have HP := Lib.hid hp
  have HBX := Lib.hid hbx2
  have KN := Lib.hid hKN
  have HNB := Lib.hid hNnb
  clear hwb hp hk hT hbx2 hnb hKN hNnb HW1 HB1 HZ KN1 cr fr
  obtain ⟨sao, sc, hsv, hsc, hrow⟩ := AS.out
  have cs2 := HBX.out.s
  obtain ⟨ns, hns⟩ : ∃ n, n = ss.length := ⟨_, rfl⟩
  rw [hsv, ← hns] at cs2
  have HSV := Lib.hid hsv
  have HNS := Lib.hid hns
  have HROW := Lib.hid hrow
  rw [← hns] at hsc
  clear hsv hns hrow AS
  have cr2 := HBX.out.r
  go_wp2_with fail
  have hwN : ∀ wr : World, Kept (PB w.heap.size rb ab bb) w wr → N ≤ wr.heap.size := fun wr h => Nat.le_trans HN1.out h.size
  go_loopw [22] (fun v wr => ∃ i G, i ≤ ns ∧ v = .int .i64 (i : Nat) ∧ Hid (wb = G.wb) ∧ Hid (∀ j, j < i → ¬ badS ss j) ∧ Hid (P1 wr G (ss.take i)) ∧ Hid (BX nb wr G rb sb ab xb bb sv xv i) ∧ Hid (Kept (PB w.heap.size rb ab bb) w wr)) (fun v _ => ns - (intOf v).toNat)
  case atStart => exact ⟨0, G, Nat.zero_le _, rfl, HWB, Lib.hid (fun j h => by omega), HP, HBX, KN⟩
  case round =>
    clear HP HBX KN HWB cs2 cr2
    obtain ⟨i, G, hi, rfl, HWB, HJ, HP, HBX, KN⟩ := hrel
    by_cases hlt : i < ns
    · have hil : i < ss.length := by rw [← HNS.out]; exact hlt
      obtain ⟨b, o, rfl, hbN, hcell⟩ := HROW.out (by omega)
      have hc0 := (kcell KN.out HPN.out HN1.out hbN (o + i)).trans (hcell i hil)
      obtain ⟨s, hs⟩ : ∃ s, s = ss[i]'hil := ⟨_, rfl⟩
      rw [← hs] at hc0
      have hsD : s = ss.getD i ⟨#[]⟩ := by rw [hs, List.getD_eq_getElem?_getD, List.getElem?_eq_getElem hil]; rfl
      have hmem : s ∈ ss := by rw [hs]; exact List.getElem_mem hil
      have hadd := addSymbol_any wr G (ss.take i) s HP.out (SO.out.s s hmem) (by have := SO.out.n; simp; omega)
      rw [← HWB.out] at hadd
      have HA := Lib.hid hadd
      have HS := Lib.hid hs
      have HSD := Lib.hid hsD
      have HIL := Lib.hid hil
      have hiI : (i : Int) < ns := by omega
      have hi9 : i < 1000 := by have := SO.out.n; omega
      clear hcell hs hsD hmem hadd
      go_wp2_with fail
      (with_reducible refine HA.out.mono ?_)
      rintro e w3 (⟨hc, rfl, G', r, hp⟩ | ⟨hc, ⟨t, v, rfl⟩, hk⟩)
      · have hbx := HBX.out.go r
        have ca3 := hbx.a
        have fa3 := hbx.fa
        have hkk : Kept (PB w.heap.size rb ab bb) w w3 := KN.out.trans r.kp (fun k _ _ e => Or.inr (Or.inr (Or.inr (Nat.le_trans HNB.out (Nat.le_of_not_lt (fun hlt => wiP_nb HBX.out.T k 0 hlt e))))))
        have hnot := good_notbad HIL.out HSD.out hc
        have hsn : ss.take i ++ [s] = ss.take (i + 1) := by rw [HS.out, List.take_succ_eq_append_getElem HIL.out]
        rw [hsn] at hp
        have HWB' := Lib.hid (HWB.out.trans r.nx.wb.symm)
        have HP' := Lib.hid hp
        have HBX' := Lib.hid hbx
        have KN' := Lib.hid hkk
        have HJ' := Lib.hid hnot
        clear hc r hp hbx hkk hnot hsn HA HP HBX KN HWB
        go_wp2_with fail
        go_roundw
        case rel => exact ⟨i + 1, G', by omega, by go_num, HWB', Lib.hid (fun j hj => by
            by_cases e : j = i
            · rw [e]; exact HJ'.out
            · exact HJ.out j (by omega)), Lib.hid (HP'.out.set (k0 := ab) (Kept.setCell _ _ _ _ rfl) (HBX'.out.T _ HBX'.out.lt.2.2.1)), Lib.hid (HBX'.out.seta (by go_num)), Lib.hid (KN'.out.trans (Kept.setCell (P := PB w.heap.size rb ab bb) _ _ _ _ (Or.inr (Or.inl rfl))) (fun _ _ _ => id))⟩
        case measure => simp only [intOf]; omega
      · have hbx := HBX.out.kept hk (wiP_nb HBX.out.T) (fun _ _ => rfl)
        have ca3 := hbx.a
        have cr3 := hbx.r
        have fr3 := hbx.fr
        have hkk : Kept (PB w.heap.size rb ab bb) w w3 := KN.out.trans hk (fun k _ _ e => Or.inr (Or.inr (Or.inr (Nat.le_trans HNB.out (Nat.le_of_not_lt (fun hlt => wiP_nb HBX.out.T k 0 hlt e))))))
        have hbad := Lib.hid (bad_bad HIL.out HSD.out hc)
        have HBX' := Lib.hid hbx
        have KN' := Lib.hid hkk
        clear hc hk hbx hkk HA HP HBX KN HWB
        go_wp2_with fail
        (try simp only [Exit.inBlock, Exit.then]); refine bodyPost_ret (results_none rfl _ _ _) rfl ?_
        exact HBX'.out.fin NE2.out KN'.out (Or.inl ⟨i, HIL.out, HJ.out, hbad.out, rfl⟩)
    · obtain rfl : i = ns := by omega
      have hp := HP.out
      rw [show ss.take i = ss by rw [HNS.out, List.take_length]] at hp
      have HPW : Hid (PWr nb wr G ss 0 ⟨#[]⟩ (lAt xs 0) (rAt xs 0) (cAt xs 0)) := Lib.hid (Or.inl ⟨hp, rfl, rfl, rfl, rfl, rfl, HBX.out.n⟩)
      have HJS : Hid (∀ j, j < ss.length → ¬ badS ss j) := by rw [HNS.out] at HJ; exact HJ
      have HBX0 : Hid (BX nb wr G rb sb ab xb bb sv xv (i + 0)) := HBX
      obtain ⟨xao, xc, hxv, hxc, hrow⟩ := AX.out
      have cx := HBX.out.x
      obtain ⟨nx, hnx⟩ : ∃ n, n = xs.length := ⟨_, rfl⟩
      rw [hxv, ← hnx] at cx
      have HXV := Lib.hid hxv
      have HNX := Lib.hid hnx
      have HXROW := Lib.hid hrow
      rw [← hnx] at hxc
      clear hxv hnx hrow hp HP HJ HBX HROW AX HSV hlt hsc
      go_wp2_with fail
      go_loopw [36] (fun v wr => ∃ j G D0, j ≤ nx ∧ v = .int .i64 (j : Nat) ∧ Hid (wb = G.wb) ∧ Hid (∀ q, q < j → okX ss xs q) ∧ Hid (PWr nb wr G ss j D0 (lAt xs j) (rAt xs j) (cAt xs j)) ∧ Hid (BX nb wr G rb sb ab xb bb sv xv (i + j)) ∧ Hid (Kept (PB w.heap.size rb ab bb) w wr)) (fun v _ => nx - (intOf v).toNat)
      case atStart => exact ⟨0, G, _, Nat.zero_le _, rfl, HWB, Lib.hid (fun j h => by omega), HPW, HBX0, KN⟩
      case round =>
        clear HPW HBX0 KN HWB cx
        obtain ⟨j, G, D0, hj, rfl, HWB, HJ, HP, HBX, KN⟩ := hrel
        obtain ⟨wj, hwj⟩ : ∃ wj, wj = wr := ⟨_, rfl⟩
        subst hwj
        by_cases hlt : j < nx
        · have hjl : j < xs.length := by rw [← HNX.out]; exact hlt
          obtain ⟨b, o, rfl, hbN, hcell⟩ := HXROW.out (by omega)
          obtain ⟨vl, vk, d0, d1, d2, dl, dk⟩ := hcell j hjl
          rw [← getD_of hjl default] at d0 dl dk
          obtain ⟨x, hx⟩ : ∃ x, x = xs.getD j default := ⟨_, rfl⟩
          rw [← hx] at d0 dl dk
          have kb := fun q => kcell KN.out HPN.out HN1.out hbN q
          have e0 := (kb _).trans d0
          have e1 := (kb _).trans d1
          have e2 := (kb _).trans d2
          have dl' := dl.kept KN.out HPN.out HN1.out
          have dk' := dk.kept KN.out HPN.out HN1.out
          obtain ⟨lao, lc, rfl, hlc, hlrow⟩ := dl'
          obtain ⟨kao, kc, rfl, hkc, hkrow⟩ := dk'
          obtain ⟨nl, hnl⟩ : ∃ n, n = x.ls.length := ⟨_, rfl⟩
          obtain ⟨nk, hnk⟩ : ∃ n, n = x.ck.length := ⟨_, rfl⟩
          rw [← hnl] at e1 hlc
          rw [← hnk] at e2 hkc
          have HX := Lib.hid hx
          have HNL := Lib.hid hnl
          have HNK := Lib.hid hnk
          have HLR := Lib.hid hlrow
          have HKR := Lib.hid hkrow
          have hiI : (j : Int) < nx := by omega
          have hi9 : j < 1000 := by have := XO.out.n; omega
          clear hcell hx hnl hnk hlrow hkrow dl dk d0 d1 d2 kb
          go_wp2_with fail
          obtain ⟨gb, hgb⟩ : ∃ gb, gb = wj.heap.size := ⟨_, rfl⟩
          obtain ⟨w4, hw4⟩ : ∃ w4, w4 = wj.alloc (.cells #[.int .u64 (x.r : Int), .slice lao nl lc, .slice kao nk kc] 36) := ⟨_, rfl⟩
          rw [← hw4]
          simp only [← hgb]
          have k4 : Kept (fun k _ => gb ≤ k) wj w4 := by rw [hw4]; exact Kept.alloc _ _ _
          have g0 : w4.cell? ⟨gb, 0, none⟩ = some (.int .u64 (x.r : Int)) := by rw [hw4, hgb, World.cell?_alloc_new]; rfl
          have g1 : w4.cell? ⟨gb, 1, none⟩ = some (.slice lao nl lc) := by rw [hw4, hgb, World.cell?_alloc_new]; rfl
          have s4 : w4.heap.size = gb + 1 := by rw [hw4, World.size_alloc, hgb]
          have HGB := Lib.hid hgb
          have K4 := Lib.hid k4
          have GC := Lib.hid (And.intro g0 g1)
          have S4 := Lib.hid s4
          clear hw4 hgb k4 g0 g1 s4 e0 e1 e2 hbN
          obtain ⟨i69, hi, hz0, hz1, hz2⟩ := info_parts info69
          go_loopw [11, 43] (fun s y wz => ∃ (q : Nat) (ao : Option Addr) (cc : Nat), q ≤ nk ∧ y = .int .i64 q ∧ s = .slice ao q cc ∧ Hid (wz.ownsRow 0 69 4 (.slice ao q cc) q (rowKV (x.ck.take q))) ∧ Hid (∀ k, (Value.slice ao q cc).ownBlock = some k → w4.heap.size ≤ k) ∧ Hid (Kept (fun k _ => w4.heap.size ≤ k) w4 wz)) (fun _ y _ => nk - (intOf y).toNat)
          case atStart => exact ⟨0, none, 0, Nat.zero_le _, rfl, rfl, Lib.hid (World.ownsRow_nil _ _ _ _), Lib.hid (fun k e => by cases e), Lib.hid (Kept.refl _ _)⟩
          case round =>
            obtain ⟨q, ao, cc, hq, rfl, rfl, HO, HG, HR⟩ := hrel
            by_cases hlq : q < nk
            · have hql : q < x.ck.length := by rw [← HNK.out]; exact hlq
              obtain ⟨kb, ko, rfl, hkN, hkr⟩ := HKR.out (by omega)
              have KR : Kept (fun k _ => gb ≤ k) wj wr := K4.out.trans HR.out (fun k _ _ e => by have := S4.out; omega)
              have hgN : N ≤ gb := by rw [HGB.out]; exact hwN _ KN.out
              have kk := fun p => kcell KR (fun _ _ h e => by omega) (hwN _ KN.out) hkN p
              obtain ⟨y0, y1, y2⟩ := hkr q hql
              obtain ⟨c, hc⟩ : ∃ c, c = x.ck[q]'hql := ⟨_, rfl⟩
              rw [← hc] at y0 y1 y2
              have hrv : rowKV (x.ck.take (q + 1)) = rowKV (x.ck.take q) ++ [.int .u64 (c.r : Int), .nilIface, .int .i64 c.a, .int .i64 c.z] := by
                rw [List.take_succ_eq_append_getElem hql, rowKV_snoc, hc]
              replace y0 := (kk _).trans y0
              replace y1 := (kk _).trans y1
              replace y2 := (kk _).trans y2
              have HRV := Lib.hid hrv
              have hqI : (q : Int) < nk := by omega
              have hq9 : q < 1000 := by have := (XO.out.k j (by rw [← HNX.out]; exact hlt)).n; rw [← HX.out, ← HNK.out] at this; omega
              have hrow : ∀ o1 o2 : Obj, ((wr.alloc o1).alloc o2).ownsRow 0 69 4 (.slice ao q cc) q (rowKV (x.ck.take q)) := fun o1 o2 => by
                have h1 := ownsRow_block (w' := wr.alloc o1) HO.out (fun k e => heap_alloc_old _ _ (HO.out.lt k e).2)
                exact ownsRow_block h1 (fun k e => heap_alloc_old _ _ (h1.lt k e).2)
              have HROW := Lib.hid hrow
              clear hrv hc hrow kk hkr KR hgN hql hkN
              go_wp2_with (at_builtin; refine wpList_app _ rfl _ _ 64 rfl 69 i69 (.agg #[.int .u64 0, .nilIface, .int .i64 0, .int .i64 0]) 4 40 Tryz.underlying64 hi hz0 hz1 hz2 rfl (by decide) (.slice ao q cc) q (rowKV (x.ck.take q)) rfl (HROW.out _ _) (some ⟨wr.heap.size + 1, 0, none⟩) 1 1 [.int .u64 (c.r : Int), .nilIface, .int .i64 c.a, .int .i64 c.z] rfl rfl (fun e => by cases e) (by have := four_newK (wr.alloc (.cells #[.int .u64 (c.r : Int), .int .i64 c.a, .int .i64 c.z] 39)) (.int .u64 (c.r : Int)) .nilIface (.int .i64 c.a) (.int .i64 c.z) 69; rw [World.size_alloc] at this; exact this) (by intro u hu; simp at hu; rcases hu with rfl | rfl | rfl | rfl <;> rfl) (by unfold maxLen; omega) (by omega) ?_)
              intro v' wy ha
              obtain ⟨ao', c', rfl⟩ := own_slice ha.own
              have hk := (((HR.out.trans (Kept.alloc _ _ _) (fun _ _ _ => id)).trans (Kept.alloc _ _ _) (fun _ _ _ => id)).trans ((ha.kept (HROW.out _ _)).mono (fun k _ _ e => HG.out k e)) (fun _ _ _ => id))
              have HK := Lib.hid hk
              have hg : ∀ k, (Value.slice ao' (q + 1) c').ownBlock = some k → w4.heap.size ≤ k := fun k e => by
                rcases ha.mv with h | ⟨g', h1, h2⟩
                · exact HG.out k (h.symm.trans e)
                · rw [e] at h1; cases h1
                  have := HR.out.size
                  simp only [World.size_alloc] at h2; omega
              have HG' := Lib.hid hg
              have HO' := Lib.hid ha.own
              clear ha hk hg
              go_wp2_with fail
              go_roundw
              case rel => exact ⟨q + 1, ao', c', by omega, by go_num, rfl, Lib.hid (by rw [HRV.out]; exact HO'.out), HG', HK⟩
              case measure => simp only [intOf]; omega
            · obtain rfl : q = nk := by omega
              go_wp2_with fail
              have hnl0 : 0 < nl := by rw [HNL.out, HX.out]; exact (XO.out.l j (by rw [← HNX.out]; exact hlt)).2.2.2
              obtain ⟨lb, lo, rfl, hlN, hlr⟩ := HLR.out (by rw [← HNL.out]; exact hnl0)
              have hgN : N ≤ gb := by rw [HGB.out]; exact hwN _ KN.out
              have KR : Kept (fun k _ => gb ≤ k) wj wr := K4.out.trans HR.out (fun k _ _ e => by have := S4.out; omega)
              have KRD : Kept (fun k _ => gb ≤ k) wj wr.drew := KR.trans (Kept.drew _ _) (fun _ _ _ => id)
              have hszr : gb + 1 ≤ wr.heap.size := by rw [← S4.out]; exact HR.out.size
              have x0 : wr.cell? ⟨gb, 0, none⟩ = some (.int .u64 (x.r : Int)) := (HR.out.cell _ _ (by have := S4.out; omega) (fun e => by have := S4.out; omega)).trans GC.out.1
              have x1 : wr.cell? ⟨gb, 1, none⟩ = some (.slice (some ⟨lb, lo, none⟩) nl lc) := (HR.out.cell _ _ (by have := S4.out; omega) (fun e => by have := S4.out; omega)).trans GC.out.2
              have hrl : RowL wr.drew lb lo x.ls := hlr.kept KRD (fun _ e => by omega) (by have := hwN _ KN.out; omega)
              have hXL := XO.out.l j (by rw [← HNX.out]; exact hlt)
              rw [← HX.out] at hXL
              have MD := Lib.hid (made_any lb lo lc nl x.ls HNL.out hnl0 hXL.1 hXL.2.1 wr.drew hrl (by show lb < wr.heap.size; omega))
              have ho := HO.out
              rw [show x.ck.take q = x.ck by rw [HNK.out, List.take_length]] at ho
              have hv : ∀ w5 : World, Kept (fun k _ => wr.heap.size ≤ k) wr w5 → 0 < q → ∃ g, ao = some ⟨g, 0, none⟩ ∧ q ≤ cc ∧ RowC w5 g 0 x.ck ∧ g < w5.heap.size ∧ wj.heap.size ≤ g := fun w5 k5 h0 => by
                have hle : q ≤ cc := by
                  rcases ho.2 with ⟨_, h⟩ | ⟨g', cap', cur, e', _, _, h, _⟩
                  · omega
                  · cases e'; exact h
                obtain ⟨g, cap, he, _, hglt⟩ := ho.form h0
                cases he
                have hg0 := HG.out g rfl
                have hrow : RowC wr g 0 x.ck := fun p hp => by
                  obtain ⟨r0, r1, r2, r3⟩ := rowKV_get x.ck p hp
                  rw [Nat.zero_add]
                  exact ⟨by have := ho.cells rfl _ _ r0; rwa [Addr.add_lit, Nat.zero_add] at this, by have := ho.cells rfl _ _ r1; rwa [Addr.add_lit, Nat.zero_add] at this, by have := ho.cells rfl _ _ r2; rwa [Addr.add_lit, Nat.zero_add] at this, by have := ho.cells rfl _ _ r3; rwa [Addr.add_lit, Nat.zero_add] at this⟩
                exact ⟨g, rfl, hle, hrow.kept k5 (fun _ e => by omega) hglt, Nat.lt_of_lt_of_le hglt k5.size, by have := S4.out; have := HGB.out; omega⟩
              have ADD : Hid (∀ (D : ByteArray) (w5 : World), LD D (fsL x.ls) → Kept (fun k _ => wr.drew.heap.size ≤ k) wr.drew w5 → Calls Tryz.prog 23 #[.pointer (some ⟨wb, 0, none⟩), .int .u64 (x.r : Int), .agg #[.string D], .slice ao q cc] w5 (fun e w6 =>
                  (¬ okX ss xs j ∧ (∃ t v, e = .returned (.iface t v)) ∧ ∃ G', BX nb w6 G' rb sb ab xb bb sv xv (i + j) ∧ Kept (PB w.heap.size rb ab bb) w w6 ∧ ∀ k o, wj.heap.size ≤ k → k < w5.heap.size → w6.cell? ⟨k, o, none⟩ = w5.cell? ⟨k, o, none⟩) ∨
                  (okX ss xs j ∧ e = .returned .nilIface ∧ ∃ G', wb = G'.wb ∧ PWr nb w6 G' ss (j + 1) D (lAt xs (j + 1)) (rAt xs (j + 1)) (cAt xs (j + 1)) ∧ BX nb w6 G' rb sb ab xb bb sv xv (i + j) ∧ Kept (PB w.heap.size rb ab bb) w w6 ∧ ∀ k o, wj.heap.size ≤ k → k < w5.heap.size → w6.cell? ⟨k, o, none⟩ = w5.cell? ⟨k, o, none⟩))) := Lib.hid (fun D w5 hD k5 => by
                have hjl : j < xs.length := by rw [← HNX.out]; exact hlt
                have k5' : Kept (fun k _ => wr.heap.size ≤ k) wr w5 := (Kept.drew _ _).trans k5 (fun _ _ _ => id)
                have kj5 : Kept (fun k _ => wj.heap.size ≤ k) wj w5 := by
                  have := HGB.out
                  exact (KR.trans k5' (fun k _ _ e => by omega)).mono (fun k _ _ e => by omega)
                have hh := hv w5 k5'
                obtain ⟨g, hg⟩ : ∃ g, 0 < q → ao = some ⟨g, 0, none⟩ ∧ q ≤ cc ∧ RowC w5 g 0 x.ck ∧ g < w5.heap.size ∧ wj.heap.size ≤ g := by
                  by_cases h0 : 0 < q
                  · obtain ⟨g, hg⟩ := hh h0; exact ⟨g, fun _ => hg⟩
                  · exact ⟨0, fun h => absurd h h0⟩
                have hres := add_round HP.out HBX.out KN.out HNB.out kj5 XO.out hjl D (by rw [← HX.out]; exact hD) g cc q ao (by rw [← HX.out]; exact HNK.out) (by rw [← HX.out]; exact hg)
                rw [← HX.out, ← HWB.out] at hres
                exact hres)
              have S4R := Lib.hid hszr
              clear ho hv hrl hXL hlr KR KRD hgN hszr hnl0 hlN HO HG HP GC
              by_cases hok : okX ss xs j
              · have ADDG := Lib.hid (fun D w5 hD k5 => (ADD.out D w5 hD k5).mono (fun e w6 h => h.elim (fun h => absurd hok h.1) (fun h => h.2)))
                have HOK := Lib.hid hok
                clear ADD hok
                go_region_held3 (fun w' => w'.cell? ⟨gb, 0, none⟩ = some (.int .u64 (x.r : Int)) ∧ w'.cell? ⟨gb, 1, none⟩ = some (.slice (some ⟨lb, lo, none⟩) nl lc)) (first | exact ⟨x0, x1⟩ | exact ⟨z0, z1⟩ | exact ⟨y0, y1⟩)
                  (first | (go_at_call 24; (with_reducible refine MD.out.mono ?_); rintro e w5 ⟨D, rfl, hD, hk5⟩; have y0 := (hk5.cell gb 0 S4R.out (fun h => absurd S4R.out (Nat.not_lt_of_le h))).trans x0; have y1 := (hk5.cell gb 1 S4R.out (fun h => absurd S4R.out (Nat.not_lt_of_le h))).trans x1; have HD := Lib.hid hD; have HK5 := Lib.hid hk5; clear hD hk5) |
                    (go_at_call 23; (with_reducible refine (ADDG.out _ _ HD.out HK5.out).mono ?_); rintro e w6 ⟨rfl, G', hwb', hpw, hbx, hkn, hcc⟩; have z0 := (hcc gb 0 (Nat.le_of_eq HGB.out.symm) (Nat.lt_of_lt_of_le S4R.out HK5.out.size)).trans y0; have z1 := (hcc gb 1 (Nat.le_of_eq HGB.out.symm) (Nat.lt_of_lt_of_le S4R.out HK5.out.size)).trans y1; have HWB' := Lib.hid hwb'; have HPW' := Lib.hid hpw; have HBX' := Lib.hid hbx; have HKN := Lib.hid hkn; clear hwb' hpw hbx hkn hcc))
                all_goals
                  have ca6 := HBX'.out.a
                  have fa6 := HBX'.out.fa
                  clear HBX
                  have hi200 : i ≤ 200 := by have := HNS.out; have := SO.out.n; omega
                  go_wp2_with fail
                  go_roundw
                  case rel => exact ⟨j + 1, G', D, by omega, by go_num, HWB', Lib.hid (fun p hp => by
                      by_cases e : p = j
                      · rw [e]; exact HOK.out
                      · exact HJ.out p (by omega)), Lib.hid (HPW'.out.set (k0 := ab) (Kept.setCell _ _ _ _ rfl) HBX'.out.lt.2.2.1 (HBX'.out.T _ HBX'.out.lt.2.2.1)), Lib.hid (HBX'.out.seta (by go_num)), Lib.hid (HKN.out.trans (Kept.setCell (P := PB w.heap.size rb ab bb) _ _ _ _ (Or.inr (Or.inl rfl))) (fun _ _ _ => id))⟩
                  case measure => simp only [intOf]; omega
              · have ADDB := Lib.hid (fun D w5 hD k5 => (ADD.out D w5 hD k5).mono (fun e w6 h => h.elim (fun h => h.2) (fun h => absurd h.1 hok)))
                have HOK := Lib.hid hok
                clear ADD hok
                go_region_held3 (fun w' => w'.cell? ⟨gb, 0, none⟩ = some (.int .u64 (x.r : Int)) ∧ w'.cell? ⟨gb, 1, none⟩ = some (.slice (some ⟨lb, lo, none⟩) nl lc)) (first | exact ⟨x0, x1⟩ | exact ⟨z0, z1⟩ | exact ⟨y0, y1⟩)
                  (first | (go_at_call 24; (with_reducible refine MD.out.mono ?_); rintro e w5 ⟨D, rfl, hD, hk5⟩; have y0 := (hk5.cell gb 0 S4R.out (fun h => absurd S4R.out (Nat.not_lt_of_le h))).trans x0; have y1 := (hk5.cell gb 1 S4R.out (fun h => absurd S4R.out (Nat.not_lt_of_le h))).trans x1; have HD := Lib.hid hD; have HK5 := Lib.hid hk5; clear hD hk5) |
                    (go_at_call 23; (with_reducible refine (ADDB.out _ _ HD.out HK5.out).mono ?_); rintro e w6 ⟨⟨t, v, rfl⟩, G', hbx, hkn, hcc⟩; have z0 := (hcc gb 0 (Nat.le_of_eq HGB.out.symm) (Nat.lt_of_lt_of_le S4R.out HK5.out.size)).trans y0; have z1 := (hcc gb 1 (Nat.le_of_eq HGB.out.symm) (Nat.lt_of_lt_of_le S4R.out HK5.out.size)).trans y1; have HBX' := Lib.hid hbx; have HKN := Lib.hid hkn; clear hbx hkn hcc))
                all_goals
                  clear HBX
                  have ca6 := HBX'.out.a
                  have cr6 := HBX'.out.r
                  have fr6 := HBX'.out.fr
                  go_wp2_with fail
                  (try simp only [Exit.inBlock, Exit.then]); refine bodyPost_ret (results_none rfl _ _ _) rfl ?_
                  exact HBX'.out.fin NE2.out HKN.out (Or.inr (Or.inl ⟨HJS.out, j, by rw [← HNX.out]; exact hlt, HJ.out, HOK.out, by rw [← HNS.out]⟩))
        · obtain rfl : j = nx := by omega
          have CL := Lib.hid (closeW_any HP.out)
          rw [← HWB.out] at CL
          go_wp2_with fail
          (with_reducible refine CL.out.mono ?_)
          rintro e w7 ⟨rfl, G7, r⟩
          have hbx7 := HBX.out.go r
          have hkn7 : Kept (PB w.heap.size rb ab bb) w w7 := KN.out.trans r.kp (fun k _ _ e => Or.inr (Or.inr (Or.inr (Nat.le_trans HNB.out (Nat.le_of_not_lt (fun hlt => wiP_nb HBX.out.T k 0 hlt e))))))
          have ZB := Lib.hid (zzBytesW_any w7 G7 r.wi)
          rw [r.nx.wb, ← HWB.out] at ZB
          obtain ⟨vb, cb7, _⟩ := hbx7.b
          have fb7 := hbx7.fb
          have HBX7 := Lib.hid hbx7
          have HKN7 := Lib.hid hkn7
          clear hbx7 hkn7 r CL HBX KN HP
          go_wp2_with fail
          (with_reducible refine ZB.out.mono ?_)
          rintro e w8 ⟨⟨ao, n8, c8, rfl⟩, rfl⟩
          go_wp2_with fail
          (try simp only [Exit.inBlock, Exit.then]); refine bodyPost_ret (results_none rfl _ _ _) rfl ?_
          exact HBX7.out.done NE2.out HKN7.out (Or.inr (Or.inr ⟨HJS.out, by rw [← HNX.out]; exact HJ.out, rfl⟩)) ao n8 c8

end Go.Proofs.YtfipfoplmopkaaaGreatDoor

namespace Go.Proofs.YtfipfoplmopkaaaGreatDoor
open Go.ChangeShapes Go.WideShapes Go.Deep

theorem addr_of {w : World} {a : Addr} {v : Value} (h : w.cell? a = some v) : ∃ b o, a = ⟨b, o, none⟩ ∧ b < w.heap.size := by
  have hb := World.block_lt_of_cell? _ _ h
  obtain ⟨b, o, s⟩ := a
  cases s with
  | none => exact ⟨b, o, rfl, hb⟩
  | some s =>
    unfold World.cell? at h
    simp only [Option.isSome_some, if_true] at h
    split at h <;> cases h

theorem add_plain2 (b o k : Nat) : (⟨b, o, none⟩ : Addr).add k = ⟨b, o + k, none⟩ := by
  unfold Addr.add
  by_cases h : k = 0
  · subst h; rfl
  · rw [if_neg h]

section
variable {H : Type} {enc : TypeId × Value → H} {w : World} {sp : Nat → Bool} {held : Bool}
theorem u22 : Tryz.prog.underlying 22 = some (.slice 9) := by kernel_rfl
theorem u9 : Tryz.prog.underlying 9 = some .string := by kernel_rfl
theorem c9 : Tryz.prog.cellsOf 9 = 1 := by kernel_rfl

theorem openS {fuel : Nat} {cs : List Value} {x : DataW H × List MemPlace} (h : DataW.trod enc Tryz.prog w 0 sp held fuel 22 cs = some x) :
    ∃ ao n c ss, cs = [.slice ao n c] ∧ AtS w.heap.size w (.slice ao n c) ss ∧ n ≤ maxLen := by
  rcases open_strs u22 u9 c9 h with ⟨rfl, _⟩ | ⟨a, len, cap, m, Sx, rfl, _, hl, hm, hmm, _, hx⟩
  · exact ⟨none, 0, 0, [], rfl, ⟨none, 0, rfl, Nat.le_refl _, fun h => absurd h (by simp)⟩, Nat.zero_le _⟩
  · have hlm : len ≤ m := by rw [hmm]; split <;> omega
    refine ⟨some a, len, cap, (List.range len).map Sx, rfl, ⟨some a, cap, by simp, by simpa using hl, fun h0 => ?_⟩, Nat.le_trans hl hm⟩
    have h0' : 0 < len := by simpa using h0
    have hz := (hx 0 (by omega)).1
    have ha0 : a.add 0 = a := by unfold Addr.add; rw [if_pos rfl]
    rw [ha0] at hz
    obtain ⟨b, o, rfl, hb⟩ := addr_of hz
    refine ⟨b, o, rfl, hb, fun i hi => ?_⟩
    have hi' : i < len := by simpa using hi
    have := (hx i (by omega)).1
    rw [add_plain2] at this
    simpa using this

theorem u33 : Tryz.prog.underlying 33 = some (.slice 79) := by kernel_rfl
theorem c79 : Tryz.prog.cellsOf 79 = 2 := by kernel_rfl
theorem openL {fuel : Nat} {cs : List Value} {x : DataW H × List MemPlace} (h : DataW.trod enc Tryz.prog w 0 sp held fuel 33 cs = some x) :
    ∃ ao n c ls, cs = [.slice ao n c] ∧ AtL w.heap.size w (.slice ao n c) ls ∧ n ≤ maxLen := by
  rcases open_slice_pairs u33 Tryz.underlying79 c79 rfl rfl c9 c9 h with ⟨rfl, _⟩ | ⟨a, len, cap, m, n, V0, V1, D0, D1, P0, P1, rfl, _, hl, hm, hmm, _, hx⟩
  · exact ⟨none, 0, 0, [], rfl, ⟨none, 0, rfl, Nat.le_refl _, fun h => absurd h (by simp)⟩, Nat.zero_le _⟩
  · have hlm : len ≤ m := by rw [hmm]; split <;> omega
    have hs : ∀ i, i < len → ∃ p : Lab, V0 i = .string p.1 ∧ V1 i = .string p.2 := fun i hi => by
      obtain ⟨_, _, e0, e1⟩ := hx i (by omega)
      obtain ⟨s, h1, _⟩ := DataW.trod_string u9 e0
      obtain ⟨s', h2, _⟩ := DataW.trod_string u9 e1
      exact ⟨(s, s'), by simpa using h1, by simpa using h2⟩
    obtain ⟨F, hF⟩ := choose_lt (α := Lab) hs
    refine ⟨some a, len, cap, (List.range len).map F, rfl, ⟨some a, cap, by simp, by simpa using hl, fun h0 => ?_⟩, Nat.le_trans hl hm⟩
    have h0' : 0 < len := by simpa using h0
    have hz := (hx 0 (by omega)).1
    have ha0 : a.add (0 * 2) = a := by unfold Addr.add; rw [if_pos (by rfl)]
    rw [ha0] at hz
    obtain ⟨b, o, rfl, hb⟩ := addr_of hz
    refine ⟨b, o, rfl, hb, fun i hi => ?_⟩
    have hi' : i < len := by simpa using hi
    obtain ⟨q0, q1, _, _⟩ := hx i (by omega)
    rw [add_plain2] at q0 q1
    rw [(hF i hi').1] at q0
    rw [(hF i hi').2] at q1
    constructor
    · simpa using q0
    · simpa [Nat.add_assoc] using q1

theorem c32 : Tryz.prog.cellsOf 32 = 1 := by kernel_rfl
theorem c2' : Tryz.prog.cellsOf 2 = 1 := by kernel_rfl
theorem c33 : Tryz.prog.cellsOf 33 = 1 := by kernel_rfl
theorem c34 : Tryz.prog.cellsOf 34 = 1 := by kernel_rfl
theorem c36 : Tryz.prog.cellsOf 36 = 3 := by kernel_rfl
theorem c39 : Tryz.prog.cellsOf 39 = 3 := by kernel_rfl
theorem u34 : Tryz.prog.underlying 34 = some (.slice 39) := by kernel_rfl
theorem u32 : Tryz.prog.underlying 32 = some (.int .u64) := by kernel_rfl
theorem u2 : Tryz.prog.underlying 2 = some (.int .i64) := by kernel_rfl

theorem nat_u64 {n : Int} (h : (Lit.int .u64 n).wf = true) : ∃ k : Nat, n = (k : Int) ∧ k < 18446744073709551616 := by
  simp only [Lit.wf, Bool.and_eq_true, decide_eq_true_eq] at h
  rw [show IntKind.u64.min = 0 from rfl, show IntKind.u64.max = 18446744073709551615 from rfl] at h
  exact ⟨n.toNat, by omega, by omega⟩

set_option maxRecDepth 100000 in
theorem openK {fuel : Nat} {cs : List Value} {x : DataW H × List MemPlace} (h : DataW.trod enc Tryz.prog w 0 sp held fuel 34 cs = some x) :
    ∃ ao n c ls, cs = [.slice ao n c] ∧ AtK w.heap.size w (.slice ao n c) ls ∧ n ≤ maxLen ∧ ∀ k ∈ ls, k.r < 18446744073709551616 := by
  rcases open_slice u34 h with ⟨rfl, _⟩ | ⟨a, len, cap, m, n, D, Pl, rfl, _, hl, hm, hmm, _, hx⟩
  · exact ⟨none, 0, 0, [], rfl, ⟨none, 0, rfl, Nat.le_refl _, fun h => absurd h (by simp)⟩, Nat.zero_le _, fun k h => by simp at h⟩
  · have hlm : len ≤ m := by rw [hmm]; split <;> omega
    have hs : ∀ i, i < len → ∃ p : Ck, w.cell? (a.add (i * 3)) = some (.int .u64 (p.r : Int)) ∧ w.cell? ((a.add (i * 3)).add 1) = some (.int .i64 p.a) ∧ w.cell? ((a.add (i * 3)).add 2) = some (.int .i64 p.z) ∧ p.r < 18446744073709551616 := fun i hi => by
      obtain ⟨cs', h1, h2⟩ := hx i (by omega)
      rw [c39] at h1
      obtain ⟨_, hlen, hcell⟩ := World.cells?_some h1
      obtain ⟨y0, y1, y2, n', _, _, g0, g1, g2⟩ := trod_struct3 Tryz.underlying39 h2
      match cs', hlen with
      | [v0, v1, v2], _ =>
        have e0 := hcell 0 (by omega)
        have e1 := hcell 1 (by omega)
        have e2 := hcell 2 (by omega)
        obtain ⟨n0, q0, _, wf⟩ := DataW.trod_int u32 (by simpa [c32] using g0)
        obtain ⟨n1, q1, _, _⟩ := DataW.trod_int u2 (by simpa [c2'] using g1)
        obtain ⟨n2, q2, _, _⟩ := DataW.trod_int u2 (by simpa [c2'] using g2)
        obtain ⟨k, rfl, hk⟩ := nat_u64 wf
        have z0 : v0 = .int .u64 (k : Int) := by simpa using q0
        have z1 : v1 = .int .i64 n1 := by simpa using q1
        have z2 : v2 = .int .i64 n2 := by simpa using q2
        subst z0 z1 z2
        exact ⟨⟨k, n1, n2⟩, by simpa [Addr.add] using e0, by simpa using e1, by simpa using e2, hk⟩
    haveI : Inhabited Ck := ⟨⟨0, 0, 0⟩⟩
    obtain ⟨F, hF⟩ := choose_lt (α := Ck) hs
    refine ⟨some a, len, cap, (List.range len).map F, rfl, ⟨some a, cap, by simp, by simpa using hl, fun h0 => ?_⟩, Nat.le_trans hl hm, fun k hk => ?_⟩
    · have h0' : 0 < len := by simpa using h0
      have hz := (hF 0 h0').1
      have ha0 : a.add (0 * 3) = a := by unfold Addr.add; rw [if_pos (by rfl)]
      rw [ha0] at hz
      obtain ⟨b, o, rfl, hb⟩ := addr_of hz
      refine ⟨b, o, rfl, hb, fun i hi => ?_⟩
      have hi' : i < len := by simpa using hi
      obtain ⟨q0, q1, q2, _⟩ := hF i hi'
      rw [add_plain2] at q0 q1 q2
      rw [add_plain2] at q1 q2
      refine ⟨by simpa using q0, by simpa using q1, by simpa using q2⟩
    · obtain ⟨i, hi, rfl⟩ := List.mem_map.1 hk
      exact (hF i (List.mem_range.1 hi)).2.2.2

set_option maxRecDepth 100000 in
theorem openX {fuel : Nat} {cs : List Value} {x : DataW H × List MemPlace} (h : DataW.trod enc Tryz.prog w 0 sp held fuel 23 cs = some x) :
    ∃ ao n c xs, cs = [.slice ao n c] ∧ AtX w.heap.size w (.slice ao n c) xs ∧ n ≤ maxLen ∧ (∀ s ∈ xs, s.ls.length ≤ maxLen ∧ s.ck.length ≤ maxLen) ∧ ∀ s ∈ xs, s.r < 18446744073709551616 ∧ ∀ k ∈ s.ck, k.r < 18446744073709551616 := by
  rcases open_slice Tryz.underlying23 h with ⟨rfl, _⟩ | ⟨a, len, cap, m, n, D, Pl, rfl, _, hl, hm, hmm, _, hx⟩
  · exact ⟨none, 0, 0, [], rfl, ⟨none, 0, rfl, Nat.le_refl _, fun h => absurd h (by simp)⟩, Nat.zero_le _, fun k h => by simp at h, fun k h => by simp at h⟩
  · have hlm : len ≤ m := by rw [hmm]; split <;> omega
    have hs : ∀ i, i < len → ∃ p : Sr, (∃ vl vk, w.cell? (a.add (i * 3)) = some (.int .u64 (p.r : Int)) ∧ w.cell? ((a.add (i * 3)).add 1) = some vl ∧ w.cell? ((a.add (i * 3)).add 2) = some vk ∧ AtL w.heap.size w vl p.ls ∧ AtK w.heap.size w vk p.ck) ∧ (p.ls.length ≤ maxLen ∧ p.ck.length ≤ maxLen) ∧ p.r < 18446744073709551616 ∧ ∀ k ∈ p.ck, k.r < 18446744073709551616 := fun i hi => by
      obtain ⟨cs', h1, h2⟩ := hx i (by omega)
      rw [c36] at h1
      obtain ⟨_, hlen, hcell⟩ := World.cells?_some h1
      obtain ⟨y0, y1, y2, n', _, _, g0, g1, g2⟩ := trod_struct3 Tryz.underlying36 h2
      match cs', hlen with
      | [v0, v1, v2], _ =>
        have e0 := hcell 0 (by omega)
        have e1 := hcell 1 (by omega)
        have e2 := hcell 2 (by omega)
        obtain ⟨n0, q0, _, wf⟩ := DataW.trod_int u32 (by simpa [c32] using g0)
        obtain ⟨lao, nl, lc, ls, q1, hL, hnl⟩ := openL (by simpa [c33] using g1)
        obtain ⟨kao, nk, kc, ks, q2, hK, hnk, hr⟩ := openK (by simpa [c34] using g2)
        obtain ⟨k, rfl, hk⟩ := nat_u64 wf
        have z0 : v0 = .int .u64 (k : Int) := by simpa using q0
        have z1 : v1 = .slice lao nl lc := by simpa using q1
        have z2 : v2 = .slice kao nk kc := by simpa using q2
        subst z0 z1 z2
        have hll : ls.length = nl := by obtain ⟨_, _, he, _⟩ := hL; cases he; rfl
        have hkl : ks.length = nk := by obtain ⟨_, _, he, _⟩ := hK; cases he; rfl
        exact ⟨⟨k, ls, ks⟩, ⟨_, _, by simpa [Addr.add] using e0, by simpa using e1, by simpa using e2, hL, hK⟩, ⟨by rw [hll]; exact hnl, by rw [hkl]; exact hnk⟩, hk, hr⟩
    obtain ⟨F, hF⟩ := choose_lt (α := Sr) hs
    refine ⟨some a, len, cap, (List.range len).map F, rfl, ⟨some a, cap, by simp, by simpa using hl, fun h0 => ?_⟩, Nat.le_trans hl hm, fun s hs => ?_, fun s hs => ?_⟩
    · have h0' : 0 < len := by simpa using h0
      obtain ⟨_, _, hz, _⟩ := (hF 0 h0').1
      have ha0 : a.add (0 * 3) = a := by unfold Addr.add; rw [if_pos (by rfl)]
      rw [ha0] at hz
      obtain ⟨b, o, rfl, hb⟩ := addr_of hz
      refine ⟨b, o, rfl, hb, fun i hi => ?_⟩
      have hi' : i < len := by simpa using hi
      obtain ⟨vl, vk, q0, q1, q2, qL, qK⟩ := (hF i hi').1
      rw [add_plain2] at q0 q1 q2
      rw [add_plain2] at q1 q2
      refine ⟨vl, vk, by simpa using q0, by simpa using q1, by simpa using q2, by simpa using qL, by simpa using qK⟩
    · obtain ⟨i, hi, rfl⟩ := List.mem_map.1 hs
      exact (hF i (List.mem_range.1 hi)).2.1
    · obtain ⟨i, hi, rfl⟩ := List.mem_map.1 hs
      exact (hF i (List.mem_range.1 hi)).2.2
end

end Go.Proofs.YtfipfoplmopkaaaGreatDoor

namespace Go.Proofs.YtfipfoplmopkaaaGreatDoor
open Go.RowKit Go.Maps

theorem catch_idle (b : Nat) (w : World) (v : Value) (hc : w.cell? ⟨b, 0, none⟩ = some v) (hz : w.frozen? ⟨b, 0, none⟩ = false) :
    CallsD Tryz.prog 50 #[.pointer (some ⟨b, 0, none⟩)] .returning w fun e u' w' => e = .returned (.tuple #[]) ∧ u' = .returning ∧ w' = w.setCell ⟨b, 0, none⟩ (.bool true) := by
  refine callsD_of_wpS Tryz.func50 rfl fun c₀ cs hu => ?_
  apply wpS_region
  have hnil : ∀ w : World, (binOp BinOp.eql 20 .nilIface .nilIface).run Tryz.prog w = .ok (.bool true) w := fun _ => by kernel_rfl
  simp [wpOpsS, go_sem, recoverD, hu, Tryz.ntmps50, hnil, hc, hz]
  have hr : Tryz.f50.results = #[] := by kernel_rfl
  cases c₀
  simp_all [bodyPostS, results]

set_option maxHeartbeats 1000000 in
theorem safe20 (caps : Array Value) (w : World) (Q : World → Prop) (h : Calls Tryz.prog 20 caps (w.alloc (.cells #[.bool false] 4)) (fun e w' => e = .returned (.tuple #[]) ∧ Q w'))
    (hQ : ∀ w', Q w' → (∃ v, w'.cell? ⟨w.heap.size, 0, none⟩ = some v) ∧ w'.frozen? ⟨w.heap.size, 0, none⟩ = false) :
    Calls Tryz.prog 19 #[.func (.func 20) #[] caps] w fun e w' => e = .returned (.bool true) ∧ ∃ w1, Q w1 ∧ w' = (w1.setCell ⟨w.heap.size, 0, none⟩ (.bool true)).setCell ⟨w.heap.size, 0, none⟩ (.bool true) := by
  have hmf : ∀ (fn : Fn) (first cap : Array Value) (w : World), (Instr.makeFunc fn first cap).run Tryz.prog w = .ok (.func fn first cap) w := fun _ _ _ _ => rfl
  have H := Lib.hid h
  have HQ := Lib.hid hQ
  clear h hQ
  go_enter_defers Tryz.func19, Tryz.ntmps19
  go_wp2_with fail
  (with_reducible refine H.out.mono ?_)
  rintro e w1 ⟨rfl, hq⟩
  obtain ⟨⟨v, hv⟩, hf⟩ := HQ.out w1 hq
  have Q1 := Lib.hid hq
  clear hq
  go_wp2_with fail
  refine leaves_cons (f := 50) (args := #[.pointer (some ⟨w.heap.size, 0, none⟩)]) (by simp) (by simp [go_sem]) ?_
  refine (catch_idle w.heap.size _ (.bool true) (World.cell?_setCell_same _ _ _ hv) (by rw [World.frozen?_setCell]; exact hf)).mono ?_
  rintro e u' w2 ⟨rfl, rfl, rfl⟩
  have hres : Tryz.f19.results = #[.cell 2 4] := by kernel_rfl
  have hc2 := World.cell?_setCell_same (w1.setCell ⟨w.heap.size, 0, none⟩ (.bool true)) ⟨w.heap.size, 0, none⟩ (.bool true) (World.cell?_setCell_same _ _ (.bool true) hv)
  refine ⟨.bool true, ?_, rfl, w1, Q1.out, rfl⟩
  simp only [results, hres]
  go_simp

end Go.Proofs.YtfipfoplmopkaaaGreatDoor

namespace Go.Proofs.YtfipfoplmopkaaaGreatDoor
open Go.RowKit Go.Maps

set_option maxRecDepth 100000 in
set_option maxHeartbeats 4000000 in
theorem build_any (w : World) (ss : List ByteArray) (xs : List Sr) (sv xv : Value) (hs : AtS w.heap.size w sv ss) (hx : AtX w.heap.size w xv xs) (so : SOK ss) (xo : XOK xs) :
    Calls Tryz.prog 9 #[sv, xv] w fun e w' => ∃ v r, e = .returned (.tuple #[v, .int .i64 r]) ∧ RefR ss xs r ∧ Kept (fun _ _ => False) w w' := by
  have hmf : ∀ (fn : Fn) (first cap : Array Value) (w : World), (Instr.makeFunc fn first cap).run Tryz.prog w = .ok (.func fn first cap) w := fun _ _ _ _ => rfl
  obtain ⟨n, hn⟩ : ∃ n, n = w.heap.size := ⟨_, rfl⟩
  obtain ⟨w5, hw5⟩ : ∃ w5, w5 = ((((w.alloc (.cells #[sv] 22)).alloc (.cells #[xv] 23)).alloc (.cells #[.slice none 0 0] 27)).alloc (.cells #[.int .i64 0] 3)).alloc (.cells #[.int .i64 0] 3) := ⟨_, rfl⟩
  have z5 : w5.heap.size = n + 5 := by rw [hw5, hn]; simp only [World.size_alloc]
  obtain ⟨a1, a2, a3, a4, a5', _⟩ := a5 w (.cells #[sv] 22) (.cells #[xv] 23) (.cells #[.slice none 0 0] 27) (.cells #[.int .i64 0] 3) (.cells #[.int .i64 0] 3)
  rw [← hw5, ← hn] at a1 a2 a3 a4 a5'
  obtain ⟨w6, hw6⟩ : ∃ w6, w6 = w5.alloc (.cells #[.bool false] 4) := ⟨_, rfl⟩
  have z6 : w6.heap.size = n + 6 := by rw [hw6, World.size_alloc, z5]
  have o6 : ∀ k, k < n + 5 → w6.heap[k]? = w5.heap[k]? := fun k hk => by rw [hw6]; exact heap_alloc_old _ _ (by rw [z5]; exact hk)
  have b1 := (o6 n (by omega)).trans a1
  have b2 := (o6 (n + 1) (by omega)).trans a2
  have b3 := (o6 (n + 1 + 1) (by omega)).trans a3
  have b4 := (o6 (n + 1 + 1 + 1) (by omega)).trans a4
  have b5 := (o6 (n + 1 + 1 + 1 + 1) (by omega)).trans a5'
  have k5 : Kept (fun _ _ => False) w w5 := by rw [hw5]; exact kept5 _ _ _ _ _ _
  have k6 : Kept (fun _ _ => False) w w6 := by rw [hw6]; exact k5.trans (Kept.alloc _ _ _) (fun _ _ _ => id)
  have h6c : w6.cell? ⟨n + 5, 0, none⟩ = some (.bool false) := by rw [hw6, ← z5, World.cell?_alloc_new]; rfl
  have h6f : w6.frozen? ⟨n + 5, 0, none⟩ = false := by rw [hw6, ← z5]; simp
  have key := cl20_any n w6 ss xs (n + 1 + 1 + 1) n (n + 1 + 1 + 1 + 1) (n + 1) (n + 1 + 1) sv xv (by rw [hn]; exact hs.kept k6 (fun _ _ _ => id) (Nat.le_refl _)) (by rw [hn]; exact hx.kept k6 (fun _ _ _ => id) (Nat.le_refl _)) so xo
    (by omega) (by omega) (by omega) (by omega) ⟨_, (heap_cell b4 0).trans rfl⟩ ((heap_cell b1 0).trans rfl) ((heap_cell b5 0).trans rfl) ((heap_cell b2 0).trans rfl) ⟨_, (heap_cell b3 0).trans rfl, _, _, _, rfl⟩ (heap_frz b4 0) (heap_frz b5 0) (heap_frz b3 0)
  have KEY : Hid (Calls Tryz.prog 19 #[.func (.func 20) #[] #[.pointer (some ⟨n + 1 + 1 + 1, 0, none⟩), .pointer (some ⟨n, 0, none⟩), .pointer (some ⟨n + 1 + 1 + 1 + 1, 0, none⟩), .pointer (some ⟨n + 1, 0, none⟩), .pointer (some ⟨n + 1 + 1, 0, none⟩)]] w5 (fun e w' =>
      e = .returned (.bool true) ∧ ∃ r v ao p q, RefR ss xs r ∧ w'.cell? ⟨n + 1 + 1 + 1, 0, none⟩ = some (.int .i64 r) ∧ w'.cell? ⟨n + 1 + 1, 0, none⟩ = some v ∧ v = .slice ao p q ∧ w'.frozen? ⟨n + 1 + 1 + 1, 0, none⟩ = false ∧ w'.frozen? ⟨n + 1 + 1, 0, none⟩ = false ∧ Kept (fun _ _ => False) w w')) := Lib.hid (by
    have hs := safe20 _ w5 (fun w' => (∃ r : Int, RefR ss xs r ∧ w'.cell? ⟨n + 1 + 1 + 1, 0, none⟩ = some (.int .i64 r)) ∧ (∃ v, w'.cell? ⟨n + 1 + 1, 0, none⟩ = some v ∧ ∃ ao n c, v = .slice ao n c) ∧ Kept (PB w6.heap.size (n + 1 + 1 + 1) (n + 1 + 1 + 1 + 1) (n + 1 + 1)) w6 w') (by rw [← hw6]; exact key)
      (fun w' hq => by
        rw [z5]
        exact ⟨⟨_, (hq.2.2.cell (n + 5) 0 (by omega) (fun e => by unfold PB at e; omega)).trans h6c⟩, (hq.2.2.fr (n + 5) 0 (by omega)).trans h6f⟩)
    refine hs.mono ?_
    rintro e w' ⟨he, w1, ⟨⟨r, hr, c1⟩, ⟨v, c2, ao, p, q, c3⟩, hk⟩, rfl⟩
    rw [z5]
    have cc : ∀ k, k ≠ n + 5 → ((w1.setCell ⟨n + 5, 0, none⟩ (.bool true)).setCell ⟨n + 5, 0, none⟩ (.bool true)).cell? ⟨k, 0, none⟩ = w1.cell? ⟨k, 0, none⟩ := fun k hk => by
      rw [World.cell?_setCell_other _ _ _ _ (by first | (simp; done) | (simp; exact hk) | (simp; exact hk.symm)), World.cell?_setCell_other _ _ _ _ (by first | (simp; done) | (simp; exact hk) | (simp; exact hk.symm))]
    refine ⟨he, r, v, ao, p, q, hr, (cc _ (by omega)).trans c1, (cc _ (by omega)).trans c2, c3, ?_, ?_, ?_⟩
    · rw [World.frozen?_setCell, World.frozen?_setCell]; exact (hk.fr _ 0 (by omega)).trans (heap_frz b4 0)
    · rw [World.frozen?_setCell, World.frozen?_setCell]; exact (hk.fr _ 0 (by omega)).trans (heap_frz b3 0)
    · exact ((k6.trans hk (fun k _ hlt e => by unfold PB at e; omega)).trans (Kept.setCell (P := fun k _ => k = n + 5) w1 (n + 5) 0 (.bool true) rfl) (fun k _ hlt e => by omega)).trans (Kept.setCell (P := fun k _ => k = n + 5) _ (n + 5) 0 (.bool true) rfl) (fun k _ hlt e => by omega))
  have HW5 := Lib.hid hw5
  clear key k5 k6 o6 b1 b2 b3 b4 b5 a1 a2 a3 a4 a5' z6 h6c h6f hw6 so xo z5
  subst hn
  obtain ⟨sao, sc, hsv, hsc, _⟩ := id hs
  obtain ⟨xao, xc, hxv, hxc, _⟩ := id hx
  obtain ⟨ns, hns⟩ : ∃ n, n = ss.length := ⟨_, rfl⟩
  obtain ⟨nx, hnx⟩ : ∃ n, n = xs.length := ⟨_, rfl⟩
  rw [← hns] at hsv
  rw [← hnx] at hxv
  subst hsv
  subst hxv
  rename_i hz1 hz2
  clear hs hx hsc hxc hns hnx hz1 hz2 hw5
  have hres : Tryz.f9.results = #[.cell 4 27, .cell 5 3] := by kernel_rfl
  go_enter Tryz.func9, Tryz.ntmps9
  go_wp2_with fail
  rw [← HW5.out]
  (with_reducible refine KEY.out.mono ?_)
  rintro e w7 ⟨rfl, r, v, ao, p, q, hr, c1, c2, rfl, f1, f2, hk⟩
  have FIN := Lib.hid (And.intro hr hk)
  clear hr hk KEY HW5
  go_wp2_with fail
  go_region_with fail
  all_goals
    go_wp2_with fail
    refine bodyPost_ret (v := .tuple #[.slice ao p q, .int .i64 r]) ?_ rfl ⟨_, r, rfl, FIN.out.1, ?_⟩
    · simp only [results, hres]
      go_simp
    · exact ((FIN.out.2.trans (Kept.setCell (P := fun k _ => w.heap.size ≤ k) _ _ _ _ (by show _ ≤ _; omega)) (fun k _ hlt (e : w.heap.size ≤ k) => by omega)).trans (Kept.setCell (P := fun k _ => w.heap.size ≤ k) _ _ _ _ (by show _ ≤ _; omega)) (fun k _ hlt (e : w.heap.size ≤ k) => by omega)).trans (Kept.drew _ _) (fun _ _ _ => id)

end Go.Proofs.YtfipfoplmopkaaaGreatDoor

namespace Go.Proofs.YtfipfoplmopkaaaGreatDoor
open Go.RowKit Go.Maps

theorem fixb {f : Nat} {args : Array Value} {w : World} {Q : Prop} {K : World → Prop} (h : Calls Tryz.prog f args w (fun e w' => (∃ b, e = .returned (.bool b) ∧ (b = true ↔ Q)) ∧ K w')) {b : Bool} (hq : b = true ↔ Q) : Calls Tryz.prog f args w (fun e w' => e = .returned (.bool b) ∧ K w') :=
  h.mono (fun e w' ⟨⟨b', he, hb⟩, hk⟩ => ⟨by
    rw [he]
    cases b <;> cases b'
    · rfl
    · exact absurd (hq.2 (hb.1 rfl)) (by simp)
    · exact absurd (hb.2 (hq.1 rfl)) (by simp)
    · rfl, hk⟩)

set_option maxRecDepth 100000 in
set_option maxHeartbeats 8000000 in
theorem indexFew_any (N : Nat) (w : World) (ao : Option Addr) (n c : Nat) (xs : List Sr) (h : AtX N w (.slice ao n c) xs) (hN : N ≤ w.heap.size)
    (hl : ∀ x ∈ xs, x.ls.length < 9223372036854775808 ∧ x.ck.length < 9223372036854775808) :
    Calls Tryz.prog 7 #[.slice ao n c] w fun e w' => (∃ b, e = .returned (.bool b) ∧ (b = true → xs.length ≤ 20 ∧ ∀ j, j < xs.length → FX xs j)) ∧ Kept (fun _ _ => False) w w' := by
  have H := Lib.hid h
  have HN := Lib.hid hN
  have HL := Lib.hid hl
  clear h hN hl
  go_enter Tryz.func7, Tryz.ntmps7
  by_cases h20 : 20 < n
  · have d1 : decide ((20 : Int) < (n : Int)) = true := decide_eq_true (by omega)
    have d1' : decide (20 < n) = true := decide_eq_true h20
    clear h20
    go_wp2
    go_ret
    exact ⟨⟨_, rfl, by simp⟩, Kept.refl _ _⟩
  · have d1 : decide ((20 : Int) < (n : Int)) = false := decide_eq_false (by omega)
    have d1' : decide (20 < n) = false := decide_eq_false h20
    go_wp2
    clear d1 d1'
    go_loopw [3, 4] (fun u v wr => ∃ (i l : Nat), i ≤ n ∧ u = .int .u64 (l : Nat) ∧ v = .int .i64 (i : Nat) ∧ Hid (l = cAt xs i) ∧ Hid (∀ j, j < i → FX xs j) ∧ Hid (Kept (fun _ _ => False) w wr)) (fun _ v _ => n - (intOf v).toNat)
    case atStart => exact ⟨0, 0, Nat.zero_le _, rfl, rfl, Lib.hid rfl, Lib.hid (fun j h => by omega), Lib.hid (Kept.refl _ _)⟩
    case round =>
      obtain ⟨i, l, hi, rfl, rfl, HLL, HJ, HK⟩ := hrel
      obtain ⟨wj, hwj⟩ : ∃ wj, wj = wr := ⟨_, rfl⟩
      subst hwj
      by_cases hlt : i < n
      · obtain ⟨b, o, r, lao, nl, lc, kao, nk, kc, rfl, hc, hc1, hc2, HAL, HAK, HE⟩ := H.out.at HN.out HK.out hlt
        have hiI : (i : Int) < n := by omega
        obtain ⟨R, hR⟩ : ∃ R : Int, R = (r : Int) := ⟨_, rfl⟩
        rw [← hR] at hc
        have HR := Lib.hid hR
        clear hR
        go_wp2
        obtain ⟨gb, hgb⟩ : ∃ gb, gb = wj.heap.size := ⟨_, rfl⟩
        obtain ⟨w4, hw4⟩ : ∃ w4, w4 = wj.alloc (.cells #[.int .u64 R, .slice lao nl lc, .slice kao nk kc] 36) := ⟨_, rfl⟩
        rw [← hw4]
        simp only [← hgb]
        have k4 : Kept (fun _ _ => False) w w4 := by rw [hw4]; exact HK.out.trans (Kept.alloc _ _ _) (fun _ _ _ => id)
        have g0 : w4.cell? ⟨gb, 0, none⟩ = some (.int .u64 R) := by rw [hw4, hgb, World.cell?_alloc_new]; rfl
        have g1 : w4.cell? ⟨gb, 1, none⟩ = some (.slice lao nl lc) := by rw [hw4, hgb, World.cell?_alloc_new]; rfl
        have g2 : w4.cell? ⟨gb, 2, none⟩ = some (.slice kao nk kc) := by rw [hw4, hgb, World.cell?_alloc_new]; rfl
        have s4 : gb < w4.heap.size := by rw [hw4, World.size_alloc, hgb]; omega
        have K4 := Lib.hid k4
        have S4 := Lib.hid s4
        clear hw4 hgb k4 s4 hc hc1 hc2
        have hk18 := Lib.hid (HL.out (xs.getD i default) (by rw [AtS.at.getD_of' HE.out.2]; exact List.getElem_mem _))
        go_loopw [3, 6] (fun u v wr => ∃ (q l2 : Nat), q ≤ nk ∧ u = .int .u64 (l2 : Nat) ∧ v = .int .i64 (q : Nat) ∧ Hid (l2 = lastR (cAt xs i) ((xs.getD i default).ck.take q)) ∧ Hid (∀ p, p < q → lastR (cAt xs i) ((xs.getD i default).ck.take p) ≤ ((xs.getD i default).ck.getD p default).r) ∧ wr = w4) (fun _ v _ => nk - (intOf v).toNat)
        case atStart => exact ⟨0, l, Nat.zero_le _, rfl, rfl, Lib.hid HLL.out, Lib.hid (fun p h => by omega), rfl⟩
        case round =>
          obtain ⟨q, l2, hq, rfl, rfl, HQ, HP, rfl⟩ := hrel
          by_cases hqk : q < nk
          · obtain ⟨kb, ko, kr, ka, kz, rfl, hc, hc1, hc2, HKE⟩ := HAK.out.at HN.out K4.out hqk
            have hqI : (q : Int) < nk := by omega
            have hnk : nk < 9223372036854775808 := by have := HAK.out.len; have := hk18.out.2; omega
            by_cases hb : kr < l2
            · have d1 : decide ((kr : Int) < (l2 : Int)) = true := decide_eq_true (by omega)
              have d1' : decide (kr < l2) = true := decide_eq_true hb
              clear hb
              go_wp2
              go_ret
              exact ⟨⟨_, rfl, by simp⟩, K4.out⟩
            · have d1 : decide ((kr : Int) < (l2 : Int)) = false := decide_eq_false (by omega)
              have d1' : decide (kr < l2) = false := decide_eq_false hb
              have HB := Lib.hid hb
              clear hb
              go_wp2
              go_roundw
              case rel => exact ⟨q + 1, kr, by omega, rfl, by go_num, Lib.hid (by rw [List.take_succ_eq_append_getElem HKE.out.2.2.2, lastR_snoc]; exact HKE.out.1.trans (congrArg Ck.r (AtS.at.getD_of' HKE.out.2.2.2 _))), Lib.hid (fun p hp => by
                by_cases e : p = q
                · rw [e, ← HKE.out.1, ← HQ.out]; have := HB.out; omega
                · exact HP.out p (by omega)), (by first | rfl | trivial)⟩
              case measure => simp only [intOf]; omega
          · obtain rfl : q = nk := by omega
            go_wp2_with fail
            have hlL := Lib.hid HAL.out.len
            have hlK := Lib.hid HAK.out.len
            have HL3 : Hid (l2 = cAt xs (i + 1)) := Lib.hid (by have := HQ.out; rw [show (xs.getD i default).ck.take q = (xs.getD i default).ck by rw [hlK.out, List.take_length]] at this; exact this)
            have hq2 : Hid (∀ p, p < (xs.getD i default).ck.length → lastR (cAt xs i) ((xs.getD i default).ck.take p) ≤ ((xs.getD i default).ck.getD p default).r) := Lib.hid (by rw [← hlK.out]; exact HP.out)
            clear HQ HP hq
            obtain ⟨wX, hwX⟩ : ∃ wX, wX = wr := ⟨_, rfl⟩
            subst hwX
            by_cases h0 : i = 0
            · have d4 : decide (0 < i) = false := decide_eq_false (by omega)
              have hi0 := Lib.hid h0
              clear h0
              have SF : Hid (∀ w', Kept (fun _ _ => False) wX w' → w'.cell? ⟨gb, 0, none⟩ = some (.int .u64 R) ∧ w'.cell? ⟨gb, 1, none⟩ = some (.slice lao nl lc) ∧ w'.cell? ⟨gb, 2, none⟩ = some (.slice kao q kc)) := Lib.hid (fun w' hk => ⟨(hk.cell _ _ S4.out id).trans g0, (hk.cell _ _ S4.out id).trans g1, (hk.cell _ _ S4.out id).trans g2⟩)
              by_cases hA : R = 0
              · have d3 : (R == 0) = true := beq_iff_eq.mpr hA
                clear hA
                refine leaf_a1 g0 g1 g2 SF hiI d4 d3 _ _ _ _ _ _ _ _ _ _ _ _ _ _ _ _ _ _ _ _ _ _ _ _ _ _ _ _ _ _ _ _ _ _ _ _ _ _ _ _ _ _ _ _ _ _ _ _ _ _ _ _ _ _ _ _ _ _ _ _ _ _ _ _ _ _ _ _ _ _ _ _ _ _ _ _ _ _ _ _ _ _ _ _ _ _ _ _ _ _ _ _ _ _ _ _ _ _ ?_
                intro y41 y42 y43 y44 y45 y46 y47 y48 y49 y50 y51 y52 y53 y54 y55 y56 y57 y58 y59 y60 y61 y62 y63 y64 y65 y66 y67 y68 y69 y70 y71 y72 y73 y74 y75 y76 y77 y78 y79 y80 y81 y82 y83 y84 y85 y86 y87 y88 y89 y90 y91 y92 y93 y94 y95 y96 y97 y98 y99 wz HRK
                have HR9 : Hid (Kept (fun _ _ => False) wX wz) := Lib.hid HRK
                clear HRK g0 g1 g2 SF hiI d4 d3
                go_wp2_with fail
                go_ret
                first | exact ⟨⟨_, rfl, by simp⟩, K4.out.trans HR9.out (fun _ _ _ => id)⟩ | exact ⟨Or.inl rfl, K4.out.trans HR9.out (fun _ _ _ => id)⟩
              · have d3 : (R == 0) = false := beq_eq_false_iff_ne.mpr hA
                clear hA
                by_cases hn0 : nl = 0
                · have d5 : ((nl : Int) == 0) = true := by subst hn0; rfl
                  have d5' : (nl == 0) = true := beq_iff_eq.mpr hn0
                  clear hn0
                  refine leaf_a2 g0 g1 g2 SF hiI d4 d3 d5 d5' _ _ _ _ _ _ _ _ _ _ _ _ _ _ _ _ _ _ _ _ _ _ _ _ _ _ _ _ _ _ _ _ _ _ _ _ _ _ _ _ _ _ _ _ _ _ _ _ _ _ _ _ _ _ _ _ _ _ _ _ _ _ _ _ _ _ _ _ _ _ _ _ _ _ _ _ _ _ _ _ _ _ _ _ _ _ _ _ _ _ _ _ _ _ _ _ _ _ ?_
                  intro y41 y42 y43 y44 y45 y46 y47 y48 y49 y50 y51 y52 y53 y54 y55 y56 y57 y58 y59 y60 y61 y62 y63 y64 y65 y66 y67 y68 y69 y70 y71 y72 y73 y74 y75 y76 y77 y78 y79 y80 y81 y82 y83 y84 y85 y86 y87 y88 y89 y90 y91 y92 y93 y94 y95 y96 y97 y98 y99 wz HRK
                  have HR9 : Hid (Kept (fun _ _ => False) wX wz) := Lib.hid HRK
                  clear HRK g0 g1 g2 SF hiI d4 d3 d5 d5'
                  go_wp2_with fail
                  go_ret
                  first | exact ⟨⟨_, rfl, by simp⟩, K4.out.trans HR9.out (fun _ _ _ => id)⟩ | exact ⟨Or.inl rfl, K4.out.trans HR9.out (fun _ _ _ => id)⟩
                · have d5 : ((nl : Int) == 0) = false := beq_eq_false_iff_ne.mpr (by omega)
                  have d5' : (nl == 0) = false := beq_eq_false_iff_ne.mpr hn0
                  have hnl0 := Lib.hid (show (xs.getD i default).ls.length ≠ 0 by have := hlL.out; omega)
                  clear hn0
                  by_cases hn10 : 10 < nl
                  · have d6 : decide ((10 : Int) < (nl : Int)) = true := decide_eq_true (by omega)
                    have d6' : decide (10 < nl) = true := decide_eq_true hn10
                    clear hn10
                    refine leaf_a3 g0 g1 g2 SF hiI d4 d3 d5 d5' d6 d6' _ _ _ _ _ _ _ _ _ _ _ _ _ _ _ _ _ _ _ _ _ _ _ _ _ _ _ _ _ _ _ _ _ _ _ _ _ _ _ _ _ _ _ _ _ _ _ _ _ _ _ _ _ _ _ _ _ _ _ _ _ _ _ _ _ _ _ _ _ _ _ _ _ _ _ _ _ _ _ _ _ _ _ _ _ _ _ _ _ _ _ _ _ _ _ _ _ _ ?_
                    intro y41 y42 y43 y44 y45 y46 y47 y48 y49 y50 y51 y52 y53 y54 y55 y56 y57 y58 y59 y60 y61 y62 y63 y64 y65 y66 y67 y68 y69 y70 y71 y72 y73 y74 y75 y76 y77 y78 y79 y80 y81 y82 y83 y84 y85 y86 y87 y88 y89 y90 y91 y92 y93 y94 y95 y96 y97 y98 y99 wz HRK
                    have HR9 : Hid (Kept (fun _ _ => False) wX wz) := Lib.hid HRK
                    clear HRK g0 g1 g2 SF hiI d4 d3 d5 d5' d6 d6'
                    go_wp2_with fail
                    go_ret
                    first | exact ⟨⟨_, rfl, by simp⟩, K4.out.trans HR9.out (fun _ _ _ => id)⟩ | exact ⟨Or.inl rfl, K4.out.trans HR9.out (fun _ _ _ => id)⟩
                  · have d6 : decide ((10 : Int) < (nl : Int)) = false := decide_eq_false (by omega)
                    have d6' : decide (10 < nl) = false := decide_eq_false hn10
                    have hnl10 := Lib.hid (show (xs.getD i default).ls.length ≤ 10 by have := hlL.out; omega)
                    clear hn10
                    by_cases hs : ShortP (xs.getD i default).ls
                    · have hS := Lib.hid hs
                      have HC13 : Hid (∀ w', Kept (fun _ _ => False) wX w' → Calls Tryz.prog 13 #[.slice lao nl lc] w' (fun e w'' => e = .returned (.bool true) ∧ Kept (fun _ _ => False) w' w'')) := Lib.hid (fun w' hk' => fixb (short_any N w' _ _ _ _ (HAL.out.kept (K4.out.trans hk' (fun _ _ _ => id)) (fun _ _ _ e => e) HN.out) (Nat.le_trans HN.out (K4.out.trans hk' (fun _ _ _ => id)).size) (by have := hlL.out; have := hk18.out; omega)) ⟨fun _ => hs, fun _ => rfl⟩)
                      clear hs
                      by_cases hp : ProperP (xs.getD i default).ls
                      · have hPp := Lib.hid hp
                        have HC14 : Hid (∀ w', Kept (fun _ _ => False) wX w' → Calls Tryz.prog 14 #[.slice lao nl lc] w' (fun e w'' => e = .returned (.bool true) ∧ Kept (fun _ _ => False) w' w'')) := Lib.hid (fun w' hk' => fixb (proper_any N w' _ _ _ _ (HAL.out.kept (K4.out.trans hk' (fun _ _ _ => id)) (fun _ _ _ e => e) HN.out) (Nat.le_trans HN.out (K4.out.trans hk' (fun _ _ _ => id)).size) (by have := hlL.out; have := hk18.out; omega)) ⟨fun _ => hp, fun _ => rfl⟩)
                        clear hp
                        by_cases hk : CkT (xs.getD i default).ck
                        · have hCk := Lib.hid hk
                          have HC15 : Hid (∀ w', Kept (fun _ _ => False) wX w' → Calls Tryz.prog 15 #[.slice kao q kc] w' (fun e w'' => e = .returned (.bool true) ∧ Kept (fun _ _ => False) w' w'')) := Lib.hid (fun w' hk' => fixb (chunksRight_any N w' _ _ _ _ (HAK.out.kept (K4.out.trans hk' (fun _ _ _ => id)) (fun _ _ _ e => e) HN.out) (Nat.le_trans HN.out (K4.out.trans hk' (fun _ _ _ => id)).size) (by have := hlK.out; have := hk18.out; omega)) ⟨fun _ => hk, fun _ => rfl⟩)
                          clear hk
                          refine leaf_a4 g0 g1 g2 SF hiI d4 d3 d5 d5' d6 d6' HC13 HC14 HC15 _ _ _ _ _ _ _ _ _ _ _ _ _ _ _ _ _ _ _ _ _ _ _ _ _ _ _ _ _ _ _ _ _ _ _ _ _ _ _ _ _ _ _ _ _ _ _ _ _ _ _ _ _ _ _ _ _ _ _ _ _ _ _ _ _ _ _ _ _ _ _ _ _ _ _ _ _ _ _ _ _ _ _ _ _ _ _ _ _ _ _ _ _ _ _ _ _ _ ?_
                          intro y41 y42 y43 y44 y45 y46 y47 y48 y49 y50 y51 y52 y53 y54 y55 y56 y57 y58 y59 y60 y61 y62 y63 y64 y65 y66 y67 y68 y69 y70 y71 y72 y73 y74 y75 y76 y77 y78 y79 y80 y81 y82 y83 y84 y85 y86 y87 y88 y89 y90 y91 y92 y93 y94 y95 y96 y97 y98 y99 wz HRK
                          have HR9 : Hid (Kept (fun _ _ => False) wX wz) := Lib.hid HRK
                          clear HRK g0 g1 g2 SF hiI d4 d3 d5 d5' d6 d6' HC13 HC14 HC15
                          go_wp2_with fail
                          go_roundw
                          case rel => exact ⟨i + 1, l2, by omega, rfl, by go_num, HL3, Lib.hid (fun j hj => by
                              by_cases e : j = i
                              · rw [e]; exact ⟨hq2.out, fun h => absurd h (by have := hi0.out; omega), hnl0.out, hnl10.out, hS.out, hPp.out, hCk.out⟩
                              · exact HJ.out j (by omega)), Lib.hid (K4.out.trans HR9.out (fun _ _ _ => id))⟩
                          case measure => simp only [intOf]; omega
                        · have HC15 : Hid (∀ w', Kept (fun _ _ => False) wX w' → Calls Tryz.prog 15 #[.slice kao q kc] w' (fun e w'' => e = .returned (.bool false) ∧ Kept (fun _ _ => False) w' w'')) := Lib.hid (fun w' hk' => fixb (chunksRight_any N w' _ _ _ _ (HAK.out.kept (K4.out.trans hk' (fun _ _ _ => id)) (fun _ _ _ e => e) HN.out) (Nat.le_trans HN.out (K4.out.trans hk' (fun _ _ _ => id)).size) (by have := hlK.out; have := hk18.out; omega)) ⟨fun h => by simp at h, fun h => absurd h hk⟩)
                          clear hk
                          refine leaf_a5 g0 g1 g2 SF hiI d4 d3 d5 d5' d6 d6' HC13 HC14 HC15 _ _ _ _ _ _ _ _ _ _ _ _ _ _ _ _ _ _ _ _ _ _ _ _ _ _ _ _ _ _ _ _ _ _ _ _ _ _ _ _ _ _ _ _ _ _ _ _ _ _ _ _ _ _ _ _ _ _ _ _ _ _ _ _ _ _ _ _ _ _ _ _ _ _ _ _ _ _ _ _ _ _ _ _ _ _ _ _ _ _ _ _ _ _ _ _ _ _ ?_
                          intro y41 y42 y43 y44 y45 y46 y47 y48 y49 y50 y51 y52 y53 y54 y55 y56 y57 y58 y59 y60 y61 y62 y63 y64 y65 y66 y67 y68 y69 y70 y71 y72 y73 y74 y75 y76 y77 y78 y79 y80 y81 y82 y83 y84 y85 y86 y87 y88 y89 y90 y91 y92 y93 y94 y95 y96 y97 y98 y99 wz HRK
                          have HR9 : Hid (Kept (fun _ _ => False) wX wz) := Lib.hid HRK
                          clear HRK g0 g1 g2 SF hiI d4 d3 d5 d5' d6 d6' HC13 HC14 HC15
                          go_wp2_with fail
                          go_ret
                          first | exact ⟨⟨_, rfl, by simp⟩, K4.out.trans HR9.out (fun _ _ _ => id)⟩ | exact ⟨Or.inl rfl, K4.out.trans HR9.out (fun _ _ _ => id)⟩
                      · have HC14 : Hid (∀ w', Kept (fun _ _ => False) wX w' → Calls Tryz.prog 14 #[.slice lao nl lc] w' (fun e w'' => e = .returned (.bool false) ∧ Kept (fun _ _ => False) w' w'')) := Lib.hid (fun w' hk' => fixb (proper_any N w' _ _ _ _ (HAL.out.kept (K4.out.trans hk' (fun _ _ _ => id)) (fun _ _ _ e => e) HN.out) (Nat.le_trans HN.out (K4.out.trans hk' (fun _ _ _ => id)).size) (by have := hlL.out; have := hk18.out; omega)) ⟨fun h => by simp at h, fun h => absurd h hp⟩)
                        clear hp
                        refine leaf_a6 g0 g1 g2 SF hiI d4 d3 d5 d5' d6 d6' HC13 HC14 _ _ _ _ _ _ _ _ _ _ _ _ _ _ _ _ _ _ _ _ _ _ _ _ _ _ _ _ _ _ _ _ _ _ _ _ _ _ _ _ _ _ _ _ _ _ _ _ _ _ _ _ _ _ _ _ _ _ _ _ _ _ _ _ _ _ _ _ _ _ _ _ _ _ _ _ _ _ _ _ _ _ _ _ _ _ _ _ _ _ _ _ _ _ _ _ _ _ ?_
                        intro y41 y42 y43 y44 y45 y46 y47 y48 y49 y50 y51 y52 y53 y54 y55 y56 y57 y58 y59 y60 y61 y62 y63 y64 y65 y66 y67 y68 y69 y70 y71 y72 y73 y74 y75 y76 y77 y78 y79 y80 y81 y82 y83 y84 y85 y86 y87 y88 y89 y90 y91 y92 y93 y94 y95 y96 y97 y98 y99 wz HRK
                        have HR9 : Hid (Kept (fun _ _ => False) wX wz) := Lib.hid HRK
                        clear HRK g0 g1 g2 SF hiI d4 d3 d5 d5' d6 d6' HC13 HC14
                        go_wp2_with fail
                        go_ret
                        first | exact ⟨⟨_, rfl, by simp⟩, K4.out.trans HR9.out (fun _ _ _ => id)⟩ | exact ⟨Or.inl rfl, K4.out.trans HR9.out (fun _ _ _ => id)⟩
                    · have HC13 : Hid (∀ w', Kept (fun _ _ => False) wX w' → Calls Tryz.prog 13 #[.slice lao nl lc] w' (fun e w'' => e = .returned (.bool false) ∧ Kept (fun _ _ => False) w' w'')) := Lib.hid (fun w' hk' => fixb (short_any N w' _ _ _ _ (HAL.out.kept (K4.out.trans hk' (fun _ _ _ => id)) (fun _ _ _ e => e) HN.out) (Nat.le_trans HN.out (K4.out.trans hk' (fun _ _ _ => id)).size) (by have := hlL.out; have := hk18.out; omega)) ⟨fun h => by simp at h, fun h => absurd h hs⟩)
                      clear hs
                      refine leaf_a7 g0 g1 g2 SF hiI d4 d3 d5 d5' d6 d6' HC13 _ _ _ _ _ _ _ _ _ _ _ _ _ _ _ _ _ _ _ _ _ _ _ _ _ _ _ _ _ _ _ _ _ _ _ _ _ _ _ _ _ _ _ _ _ _ _ _ _ _ _ _ _ _ _ _ _ _ _ _ _ _ _ _ _ _ _ _ _ _ _ _ _ _ _ _ _ _ _ _ _ _ _ _ _ _ _ _ _ _ _ _ _ _ _ _ _ _ ?_
                      intro y41 y42 y43 y44 y45 y46 y47 y48 y49 y50 y51 y52 y53 y54 y55 y56 y57 y58 y59 y60 y61 y62 y63 y64 y65 y66 y67 y68 y69 y70 y71 y72 y73 y74 y75 y76 y77 y78 y79 y80 y81 y82 y83 y84 y85 y86 y87 y88 y89 y90 y91 y92 y93 y94 y95 y96 y97 y98 y99 wz HRK
                      have HR9 : Hid (Kept (fun _ _ => False) wX wz) := Lib.hid HRK
                      clear HRK g0 g1 g2 SF hiI d4 d3 d5 d5' d6 d6' HC13
                      go_wp2_with fail
                      go_ret
                      first | exact ⟨⟨_, rfl, by simp⟩, K4.out.trans HR9.out (fun _ _ _ => id)⟩ | exact ⟨Or.inl rfl, K4.out.trans HR9.out (fun _ _ _ => id)⟩
            · obtain ⟨p, hp⟩ : ∃ p, i = p + 1 := ⟨i - 1, by omega⟩
              obtain ⟨b', o', r', lao', nl', lc', kao', nk', kc', he, e0, e1, _, HAL', _, HE'⟩ := H.out.at HN.out K4.out (show p < n by omega)
              cases he
              have d4 : decide (0 < i) = true := decide_eq_true (by omega)
              have d41 : IntKind.i64.wrap ((i : Int) - 1) = (p : Int) := by rw [show (i : Int) - 1 = p by omega]; exact IntWalk.i64_in _ (by omega)
              have d42 : (p : Int) < n := by omega
              have hip := Lib.hid (show i - 1 = p by omega)
              clear hp h0
              obtain ⟨R', hR'⟩ : ∃ R' : Int, R' = (r' : Int) := ⟨_, rfl⟩
              rw [← hR'] at e0
              have HR' := Lib.hid hR'
              clear hR'
              have hb4 : Hid (b < wX.heap.size) := Lib.hid (World.block_lt_of_cell? _ _ e0)
              have SF : Hid (∀ w', Kept (fun _ _ => False) wX w' → w'.cell? ⟨gb, 0, none⟩ = some (.int .u64 R) ∧ w'.cell? ⟨gb, 1, none⟩ = some (.slice lao nl lc) ∧ w'.cell? ⟨gb, 2, none⟩ = some (.slice kao q kc) ∧ w'.cell? ⟨b, o + p * 3, none⟩ = some (.int .u64 R') ∧ w'.cell? ⟨b, o + p * 3 + 1, none⟩ = some (.slice lao' nl' lc')) := Lib.hid (fun w' hk => ⟨(hk.cell _ _ S4.out id).trans g0, (hk.cell _ _ S4.out id).trans g1, (hk.cell _ _ S4.out id).trans g2, (hk.cell _ _ hb4.out id).trans e0, (hk.cell _ _ hb4.out id).trans e1⟩)
              have hlL' := Lib.hid HAL'.out.len
              have hk18' := Lib.hid (HL.out (xs.getD p default) (by rw [AtS.at.getD_of' HE'.out.2]; exact List.getElem_mem _))
              by_cases hA : R = 0
              · have d3 : (R == 0) = true := beq_iff_eq.mpr hA
                clear hA
                refine leaf_b1 (C := 0) g0 g1 g2 e0 e1 SF hiI d4 d41 d42 d3 _ _ _ _ _ _ _ _ _ _ _ _ _ _ _ _ _ _ _ _ _ _ _ _ _ _ _ _ _ _ _ _ _ _ _ _ _ _ _ _ _ _ _ _ _ _ _ _ _ _ _ _ _ _ _ _ _ _ _ _ _ _ _ _ _ _ _ _ _ _ _ _ _ _ _ _ _ _ _ _ _ _ _ _ _ _ _ _ _ _ _ _ _ _ _ _ _ _ ?_
                intro y41 y42 y43 y44 y45 y46 y47 y48 y49 y50 y51 y52 y53 y54 y55 y56 y57 y58 y59 y60 y61 y62 y63 y64 y65 y66 y67 y68 y69 y70 y71 y72 y73 y74 y75 y76 y77 y78 y79 y80 y81 y82 y83 y84 y85 y86 y87 y88 y89 y90 y91 y92 y93 y94 y95 y96 y97 y98 y99 wz HRK
                have HR9 : Hid (Kept (fun _ _ => False) wX wz) := Lib.hid HRK
                clear HRK g0 g1 g2 SF hiI d4 e0 e1 d41 d42 d3
                go_wp2_with fail
                go_ret
                first | exact ⟨⟨_, rfl, by simp⟩, K4.out.trans HR9.out (fun _ _ _ => id)⟩ | exact ⟨Or.inl rfl, K4.out.trans HR9.out (fun _ _ _ => id)⟩
              · have d3 : (R == 0) = false := beq_eq_false_iff_ne.mpr hA
                clear hA
                by_cases hB : R ≤ R'
                · have d31 : decide (R ≤ R') = true := decide_eq_true hB
                  clear hB
                  refine leaf_b2 (C := 0) g0 g1 g2 e0 e1 SF hiI d4 d41 d42 d3 d31 _ _ _ _ _ _ _ _ _ _ _ _ _ _ _ _ _ _ _ _ _ _ _ _ _ _ _ _ _ _ _ _ _ _ _ _ _ _ _ _ _ _ _ _ _ _ _ _ _ _ _ _ _ _ _ _ _ _ _ _ _ _ _ _ _ _ _ _ _ _ _ _ _ _ _ _ _ _ _ _ _ _ _ _ _ _ _ _ _ _ _ _ _ _ _ _ _ _ ?_
                  intro y41 y42 y43 y44 y45 y46 y47 y48 y49 y50 y51 y52 y53 y54 y55 y56 y57 y58 y59 y60 y61 y62 y63 y64 y65 y66 y67 y68 y69 y70 y71 y72 y73 y74 y75 y76 y77 y78 y79 y80 y81 y82 y83 y84 y85 y86 y87 y88 y89 y90 y91 y92 y93 y94 y95 y96 y97 y98 y99 wz HRK
                  have HR9 : Hid (Kept (fun _ _ => False) wX wz) := Lib.hid HRK
                  clear HRK g0 g1 g2 SF hiI d4 e0 e1 d41 d42 d3 d31
                  go_wp2_with fail
                  go_ret
                  first | exact ⟨⟨_, rfl, by simp⟩, K4.out.trans HR9.out (fun _ _ _ => id)⟩ | exact ⟨Or.inl rfl, K4.out.trans HR9.out (fun _ _ _ => id)⟩
                · have d31 : decide (R ≤ R') = false := decide_eq_false hB
                  have hB' := Lib.hid hB
                  clear hB
                  obtain ⟨C, hC⟩ : ∃ C, C = cmpL (xs.getD i default).ls (xs.getD p default).ls := ⟨_, rfl⟩
                  have HC12 : Hid (∀ w', Kept (fun _ _ => False) wX w' → Calls Tryz.prog 12 #[.slice lao nl lc, .slice lao' nl' lc'] w' (fun e w'' => e = .returned (.int .i64 C) ∧ Kept (fun _ _ => False) w' w'')) := Lib.hid (fun w' hk => by rw [hC]; exact compareLabels_any N w' _ _ _ _ (HAL.out.kept (K4.out.trans hk (fun _ _ _ => id)) (fun _ _ _ e => e) HN.out) _ _ _ _ (HAL'.out.kept (K4.out.trans hk (fun _ _ _ => id)) (fun _ _ _ e => e) HN.out) (Nat.le_trans HN.out (K4.out.trans hk (fun _ _ _ => id)).size) (by have := hlL.out; have := hk18.out; omega) (by have := hlL'.out; have := hk18'.out; omega))
                  by_cases hD : C = 0
                  · have d32 : (C == 0) = true := beq_iff_eq.mpr hD
                    clear hD hC
                    refine leaf_b3 g0 g1 g2 e0 e1 SF hiI d4 d41 d42 d3 d31 HC12 d32 _ _ _ _ _ _ _ _ _ _ _ _ _ _ _ _ _ _ _ _ _ _ _ _ _ _ _ _ _ _ _ _ _ _ _ _ _ _ _ _ _ _ _ _ _ _ _ _ _ _ _ _ _ _ _ _ _ _ _ _ _ _ _ _ _ _ _ _ _ _ _ _ _ _ _ _ _ _ _ _ _ _ _ _ _ _ _ _ _ _ _ _ _ _ _ _ _ _ ?_
                    intro y41 y42 y43 y44 y45 y46 y47 y48 y49 y50 y51 y52 y53 y54 y55 y56 y57 y58 y59 y60 y61 y62 y63 y64 y65 y66 y67 y68 y69 y70 y71 y72 y73 y74 y75 y76 y77 y78 y79 y80 y81 y82 y83 y84 y85 y86 y87 y88 y89 y90 y91 y92 y93 y94 y95 y96 y97 y98 y99 wz HRK
                    have HR9 : Hid (Kept (fun _ _ => False) wX wz) := Lib.hid HRK
                    clear HRK g0 g1 g2 SF hiI d4 e0 e1 d41 d42 d3 d31 HC12 d32
                    go_wp2_with fail
                    go_ret
                    first | exact ⟨⟨_, rfl, by simp⟩, K4.out.trans HR9.out (fun _ _ _ => id)⟩ | exact ⟨Or.inl rfl, K4.out.trans HR9.out (fun _ _ _ => id)⟩
                  · have d32 : (C == 0) = false := beq_eq_false_iff_ne.mpr hD
                    have hpv : Hid ((xs.getD (i - 1) default).r < (xs.getD i default).r ∧ cmpL (xs.getD i default).ls (xs.getD (i - 1) default).ls ≠ 0) := Lib.hid (by
                      rw [hip.out]
                      exact ⟨by have := HE.out; have := HE'.out; have := HR.out; have := HR'.out; have := hB'.out; omega, by rw [← hC]; exact hD⟩)
                    clear hD hC
                    by_cases hn0 : nl = 0
                    · have d5 : ((nl : Int) == 0) = true := by subst hn0; rfl
                      have d5' : (nl == 0) = true := beq_iff_eq.mpr hn0
                      clear hn0
                      refine leaf_b4 g0 g1 g2 e0 e1 SF hiI d4 d41 d42 d3 d31 HC12 d32 d5 d5' _ _ _ _ _ _ _ _ _ _ _ _ _ _ _ _ _ _ _ _ _ _ _ _ _ _ _ _ _ _ _ _ _ _ _ _ _ _ _ _ _ _ _ _ _ _ _ _ _ _ _ _ _ _ _ _ _ _ _ _ _ _ _ _ _ _ _ _ _ _ _ _ _ _ _ _ _ _ _ _ _ _ _ _ _ _ _ _ _ _ _ _ _ _ _ _ _ _ ?_
                      intro y41 y42 y43 y44 y45 y46 y47 y48 y49 y50 y51 y52 y53 y54 y55 y56 y57 y58 y59 y60 y61 y62 y63 y64 y65 y66 y67 y68 y69 y70 y71 y72 y73 y74 y75 y76 y77 y78 y79 y80 y81 y82 y83 y84 y85 y86 y87 y88 y89 y90 y91 y92 y93 y94 y95 y96 y97 y98 y99 wz HRK
                      have HR9 : Hid (Kept (fun _ _ => False) wX wz) := Lib.hid HRK
                      clear HRK g0 g1 g2 SF hiI d4 e0 e1 d41 d42 d3 d31 HC12 d32 d5 d5'
                      go_wp2_with fail
                      go_ret
                      first | exact ⟨⟨_, rfl, by simp⟩, K4.out.trans HR9.out (fun _ _ _ => id)⟩ | exact ⟨Or.inl rfl, K4.out.trans HR9.out (fun _ _ _ => id)⟩
                    · have d5 : ((nl : Int) == 0) = false := beq_eq_false_iff_ne.mpr (by omega)
                      have d5' : (nl == 0) = false := beq_eq_false_iff_ne.mpr hn0
                      have hnl0 := Lib.hid (show (xs.getD i default).ls.length ≠ 0 by have := hlL.out; omega)
                      clear hn0
                      by_cases hn10 : 10 < nl
                      · have d6 : decide ((10 : Int) < (nl : Int)) = true := decide_eq_true (by omega)
                        have d6' : decide (10 < nl) = true := decide_eq_true hn10
                        clear hn10
                        refine leaf_b5 g0 g1 g2 e0 e1 SF hiI d4 d41 d42 d3 d31 HC12 d32 d5 d5' d6 d6' _ _ _ _ _ _ _ _ _ _ _ _ _ _ _ _ _ _ _ _ _ _ _ _ _ _ _ _ _ _ _ _ _ _ _ _ _ _ _ _ _ _ _ _ _ _ _ _ _ _ _ _ _ _ _ _ _ _ _ _ _ _ _ _ _ _ _ _ _ _ _ _ _ _ _ _ _ _ _ _ _ _ _ _ _ _ _ _ _ _ _ _ _ _ _ _ _ _ ?_
                        intro y41 y42 y43 y44 y45 y46 y47 y48 y49 y50 y51 y52 y53 y54 y55 y56 y57 y58 y59 y60 y61 y62 y63 y64 y65 y66 y67 y68 y69 y70 y71 y72 y73 y74 y75 y76 y77 y78 y79 y80 y81 y82 y83 y84 y85 y86 y87 y88 y89 y90 y91 y92 y93 y94 y95 y96 y97 y98 y99 wz HRK
                        have HR9 : Hid (Kept (fun _ _ => False) wX wz) := Lib.hid HRK
                        clear HRK g0 g1 g2 SF hiI d4 e0 e1 d41 d42 d3 d31 HC12 d32 d5 d5' d6 d6'
                        go_wp2_with fail
                        go_ret
                        first | exact ⟨⟨_, rfl, by simp⟩, K4.out.trans HR9.out (fun _ _ _ => id)⟩ | exact ⟨Or.inl rfl, K4.out.trans HR9.out (fun _ _ _ => id)⟩
                      · have d6 : decide ((10 : Int) < (nl : Int)) = false := decide_eq_false (by omega)
                        have d6' : decide (10 < nl) = false := decide_eq_false hn10
                        have hnl10 := Lib.hid (show (xs.getD i default).ls.length ≤ 10 by have := hlL.out; omega)
                        clear hn10
                        by_cases hs : ShortP (xs.getD i default).ls
                        · have hS := Lib.hid hs
                          have HC13 : Hid (∀ w', Kept (fun _ _ => False) wX w' → Calls Tryz.prog 13 #[.slice lao nl lc] w' (fun e w'' => e = .returned (.bool true) ∧ Kept (fun _ _ => False) w' w'')) := Lib.hid (fun w' hk' => fixb (short_any N w' _ _ _ _ (HAL.out.kept (K4.out.trans hk' (fun _ _ _ => id)) (fun _ _ _ e => e) HN.out) (Nat.le_trans HN.out (K4.out.trans hk' (fun _ _ _ => id)).size) (by have := hlL.out; have := hk18.out; omega)) ⟨fun _ => hs, fun _ => rfl⟩)
                          clear hs
                          by_cases hp : ProperP (xs.getD i default).ls
                          · have hPp := Lib.hid hp
                            have HC14 : Hid (∀ w', Kept (fun _ _ => False) wX w' → Calls Tryz.prog 14 #[.slice lao nl lc] w' (fun e w'' => e = .returned (.bool true) ∧ Kept (fun _ _ => False) w' w'')) := Lib.hid (fun w' hk' => fixb (proper_any N w' _ _ _ _ (HAL.out.kept (K4.out.trans hk' (fun _ _ _ => id)) (fun _ _ _ e => e) HN.out) (Nat.le_trans HN.out (K4.out.trans hk' (fun _ _ _ => id)).size) (by have := hlL.out; have := hk18.out; omega)) ⟨fun _ => hp, fun _ => rfl⟩)
                            clear hp
                            by_cases hk : CkT (xs.getD i default).ck
                            · have hCk := Lib.hid hk
                              have HC15 : Hid (∀ w', Kept (fun _ _ => False) wX w' → Calls Tryz.prog 15 #[.slice kao q kc] w' (fun e w'' => e = .returned (.bool true) ∧ Kept (fun _ _ => False) w' w'')) := Lib.hid (fun w' hk' => fixb (chunksRight_any N w' _ _ _ _ (HAK.out.kept (K4.out.trans hk' (fun _ _ _ => id)) (fun _ _ _ e => e) HN.out) (Nat.le_trans HN.out (K4.out.trans hk' (fun _ _ _ => id)).size) (by have := hlK.out; have := hk18.out; omega)) ⟨fun _ => hk, fun _ => rfl⟩)
                              clear hk
                              refine leaf_b6 g0 g1 g2 e0 e1 SF hiI d4 d41 d42 d3 d31 HC12 d32 d5 d5' d6 d6' HC13 HC14 HC15 _ _ _ _ _ _ _ _ _ _ _ _ _ _ _ _ _ _ _ _ _ _ _ _ _ _ _ _ _ _ _ _ _ _ _ _ _ _ _ _ _ _ _ _ _ _ _ _ _ _ _ _ _ _ _ _ _ _ _ _ _ _ _ _ _ _ _ _ _ _ _ _ _ _ _ _ _ _ _ _ _ _ _ _ _ _ _ _ _ _ _ _ _ _ _ _ _ _ ?_
                              intro y41 y42 y43 y44 y45 y46 y47 y48 y49 y50 y51 y52 y53 y54 y55 y56 y57 y58 y59 y60 y61 y62 y63 y64 y65 y66 y67 y68 y69 y70 y71 y72 y73 y74 y75 y76 y77 y78 y79 y80 y81 y82 y83 y84 y85 y86 y87 y88 y89 y90 y91 y92 y93 y94 y95 y96 y97 y98 y99 wz HRK
                              have HR9 : Hid (Kept (fun _ _ => False) wX wz) := Lib.hid HRK
                              clear HRK g0 g1 g2 SF hiI d4 e0 e1 d41 d42 d3 d31 HC12 d32 d5 d5' d6 d6' HC13 HC14 HC15
                              go_wp2_with fail
                              go_roundw
                              case rel => exact ⟨i + 1, l2, by omega, rfl, by go_num, HL3, Lib.hid (fun j hj => by
                                  by_cases e : j = i
                                  · rw [e]; exact ⟨hq2.out, fun _ => hpv.out, hnl0.out, hnl10.out, hS.out, hPp.out, hCk.out⟩
                                  · exact HJ.out j (by omega)), Lib.hid (K4.out.trans HR9.out (fun _ _ _ => id))⟩
                              case measure => simp only [intOf]; omega
                            · have HC15 : Hid (∀ w', Kept (fun _ _ => False) wX w' → Calls Tryz.prog 15 #[.slice kao q kc] w' (fun e w'' => e = .returned (.bool false) ∧ Kept (fun _ _ => False) w' w'')) := Lib.hid (fun w' hk' => fixb (chunksRight_any N w' _ _ _ _ (HAK.out.kept (K4.out.trans hk' (fun _ _ _ => id)) (fun _ _ _ e => e) HN.out) (Nat.le_trans HN.out (K4.out.trans hk' (fun _ _ _ => id)).size) (by have := hlK.out; have := hk18.out; omega)) ⟨fun h => by simp at h, fun h => absurd h hk⟩)
                              clear hk
                              refine leaf_b7 g0 g1 g2 e0 e1 SF hiI d4 d41 d42 d3 d31 HC12 d32 d5 d5' d6 d6' HC13 HC14 HC15 _ _ _ _ _ _ _ _ _ _ _ _ _ _ _ _ _ _ _ _ _ _ _ _ _ _ _ _ _ _ _ _ _ _ _ _ _ _ _ _ _ _ _ _ _ _ _ _ _ _ _ _ _ _ _ _ _ _ _ _ _ _ _ _ _ _ _ _ _ _ _ _ _ _ _ _ _ _ _ _ _ _ _ _ _ _ _ _ _ _ _ _ _ _ _ _ _ _ ?_
                              intro y41 y42 y43 y44 y45 y46 y47 y48 y49 y50 y51 y52 y53 y54 y55 y56 y57 y58 y59 y60 y61 y62 y63 y64 y65 y66 y67 y68 y69 y70 y71 y72 y73 y74 y75 y76 y77 y78 y79 y80 y81 y82 y83 y84 y85 y86 y87 y88 y89 y90 y91 y92 y93 y94 y95 y96 y97 y98 y99 wz HRK
                              have HR9 : Hid (Kept (fun _ _ => False) wX wz) := Lib.hid HRK
                              clear HRK g0 g1 g2 SF hiI d4 e0 e1 d41 d42 d3 d31 HC12 d32 d5 d5' d6 d6' HC13 HC14 HC15
                              go_wp2_with fail
                              go_ret
                              first | exact ⟨⟨_, rfl, by simp⟩, K4.out.trans HR9.out (fun _ _ _ => id)⟩ | exact ⟨Or.inl rfl, K4.out.trans HR9.out (fun _ _ _ => id)⟩
                          · have HC14 : Hid (∀ w', Kept (fun _ _ => False) wX w' → Calls Tryz.prog 14 #[.slice lao nl lc] w' (fun e w'' => e = .returned (.bool false) ∧ Kept (fun _ _ => False) w' w'')) := Lib.hid (fun w' hk' => fixb (proper_any N w' _ _ _ _ (HAL.out.kept (K4.out.trans hk' (fun _ _ _ => id)) (fun _ _ _ e => e) HN.out) (Nat.le_trans HN.out (K4.out.trans hk' (fun _ _ _ => id)).size) (by have := hlL.out; have := hk18.out; omega)) ⟨fun h => by simp at h, fun h => absurd h hp⟩)
                            clear hp
                            refine leaf_b8 g0 g1 g2 e0 e1 SF hiI d4 d41 d42 d3 d31 HC12 d32 d5 d5' d6 d6' HC13 HC14 _ _ _ _ _ _ _ _ _ _ _ _ _ _ _ _ _ _ _ _ _ _ _ _ _ _ _ _ _ _ _ _ _ _ _ _ _ _ _ _ _ _ _ _ _ _ _ _ _ _ _ _ _ _ _ _ _ _ _ _ _ _ _ _ _ _ _ _ _ _ _ _ _ _ _ _ _ _ _ _ _ _ _ _ _ _ _ _ _ _ _ _ _ _ _ _ _ _ ?_
                            intro y41 y42 y43 y44 y45 y46 y47 y48 y49 y50 y51 y52 y53 y54 y55 y56 y57 y58 y59 y60 y61 y62 y63 y64 y65 y66 y67 y68 y69 y70 y71 y72 y73 y74 y75 y76 y77 y78 y79 y80 y81 y82 y83 y84 y85 y86 y87 y88 y89 y90 y91 y92 y93 y94 y95 y96 y97 y98 y99 wz HRK
                            have HR9 : Hid (Kept (fun _ _ => False) wX wz) := Lib.hid HRK
                            clear HRK g0 g1 g2 SF hiI d4 e0 e1 d41 d42 d3 d31 HC12 d32 d5 d5' d6 d6' HC13 HC14
                            go_wp2_with fail
                            go_ret
                            first | exact ⟨⟨_, rfl, by simp⟩, K4.out.trans HR9.out (fun _ _ _ => id)⟩ | exact ⟨Or.inl rfl, K4.out.trans HR9.out (fun _ _ _ => id)⟩
                        · have HC13 : Hid (∀ w', Kept (fun _ _ => False) wX w' → Calls Tryz.prog 13 #[.slice lao nl lc] w' (fun e w'' => e = .returned (.bool false) ∧ Kept (fun _ _ => False) w' w'')) := Lib.hid (fun w' hk' => fixb (short_any N w' _ _ _ _ (HAL.out.kept (K4.out.trans hk' (fun _ _ _ => id)) (fun _ _ _ e => e) HN.out) (Nat.le_trans HN.out (K4.out.trans hk' (fun _ _ _ => id)).size) (by have := hlL.out; have := hk18.out; omega)) ⟨fun h => by simp at h, fun h => absurd h hs⟩)
                          clear hs
                          refine leaf_b9 g0 g1 g2 e0 e1 SF hiI d4 d41 d42 d3 d31 HC12 d32 d5 d5' d6 d6' HC13 _ _ _ _ _ _ _ _ _ _ _ _ _ _ _ _ _ _ _ _ _ _ _ _ _ _ _ _ _ _ _ _ _ _ _ _ _ _ _ _ _ _ _ _ _ _ _ _ _ _ _ _ _ _ _ _ _ _ _ _ _ _ _ _ _ _ _ _ _ _ _ _ _ _ _ _ _ _ _ _ _ _ _ _ _ _ _ _ _ _ _ _ _ _ _ _ _ _ ?_
                          intro y41 y42 y43 y44 y45 y46 y47 y48 y49 y50 y51 y52 y53 y54 y55 y56 y57 y58 y59 y60 y61 y62 y63 y64 y65 y66 y67 y68 y69 y70 y71 y72 y73 y74 y75 y76 y77 y78 y79 y80 y81 y82 y83 y84 y85 y86 y87 y88 y89 y90 y91 y92 y93 y94 y95 y96 y97 y98 y99 wz HRK
                          have HR9 : Hid (Kept (fun _ _ => False) wX wz) := Lib.hid HRK
                          clear HRK g0 g1 g2 SF hiI d4 e0 e1 d41 d42 d3 d31 HC12 d32 d5 d5' d6 d6' HC13
                          go_wp2_with fail
                          go_ret
                          first | exact ⟨⟨_, rfl, by simp⟩, K4.out.trans HR9.out (fun _ _ _ => id)⟩ | exact ⟨Or.inl rfl, K4.out.trans HR9.out (fun _ _ _ => id)⟩
      · obtain rfl : i = n := by omega
        have hlen := Lib.hid H.out.len
        have hn20 := Lib.hid h20
        go_wp2
        go_ret
        exact ⟨⟨_, rfl, fun _ => ⟨by have := hlen.out; have := hn20.out; omega, fun j hj => HJ.out j (by have := hlen.out; omega)⟩⟩, HK.out⟩

end Go.Proofs.YtfipfoplmopkaaaGreatDoor
