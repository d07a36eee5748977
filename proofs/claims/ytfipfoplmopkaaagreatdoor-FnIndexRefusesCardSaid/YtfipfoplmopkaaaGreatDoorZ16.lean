/- FileWriter: AddPadding, WriteAt, and the small ones. Conditions: bounds on lengths; what is written lies apart from the file. FileWriter.WriteAt; the Writer's own three ways to its file; zzFile. Conditions: bounds on lengths; what is written lies apart from the file. The Writer in memory: one predicate over all that it owns ('WI'), and what each kind of step does to it. No condition. -/
import Derived.Test.YtfipfoplmopkaaaGreatDoorZ15
import Derived.Laws.CopyOwn
import Derived.Maps.Own
import Derived.Maps.OwnOps
import Derived.Maps.OwnSet
import Derived.Maps.Views

namespace Go.Proofs.YtfipfoplmopkaaaGreatDoor
open Go.RowKit

/-- FileWriter.Flush. -/
theorem flush_any (v : Value) (w : World) : Calls Tryz.prog 113 #[v] w fun e w' => e = .returned .nilIface ∧ w = w' := by
  go_enter Tryz.func113, Tryz.ntmps113
  go_wp2
  go_ret
  exact ⟨rfl, rfl⟩

def zeros (n : Nat) : List UInt8 := List.replicate n 0
@[simp] theorem zeros_length (n : Nat) : (zeros n).length = n := by simp [zeros]

theorem made_bytes (n : Nat) : (madeCells #[Value.int .u8 0] n).toList = bVs (zeros n) := by
  rw [toList_madeCells_one]
  simp [bVs, zeros, bV]

/-- How many bytes are wanted up to the next multiple. -/
def padN (n s : Nat) : Nat := (s - n % s) % s

set_option maxHeartbeats 800000 in
set_option maxRecDepth 100000 in
/-- FileWriter.AddPadding. -/
theorem fwPad_any (fb s : Nat) (g : Option Nat) (l : List UInt8) (w : World) (h : FW w fb g l) (hs0 : 0 < s) (hs : s ≤ 64) (hl : l.length < 100000000) :
    Calls Tryz.prog 104 #[.pointer (some ⟨fb, 0, none⟩), .int .i64 s] w fun e w' => e = .returned .nilIface ∧ Wr w fb g l.length (l ++ zeros (padN l.length s)) w' := by
  obtain ⟨i0, hi, hz0, hz1, hz2⟩ := info_parts Tryz.info5
  have hp := h.p
  have hfl := h.lt
  by_cases h0 : l.length % s = 0
  · have hp0 : padN l.length s = 0 := by unfold padN; rw [h0]; simp
    have HP := Lib.hid hp0
    have hb : (((l.length : Int) % (s : Int)) == 0) = true := by
      have : ((l.length : Int) % (s : Int)) = ((l.length % s : Nat) : Int) := by simp
      rw [this, h0]; rfl
    have H := Lib.hid h
    have H0 := Lib.hid h0
    clear h hp0 h0
    go_enter Tryz.func104, Tryz.ntmps104
    go_wp2
    go_ret
    exact ⟨rfl, g, .inl rfl, by rw [HP.out]; simpa [zeros] using H.out, Kept.refl _ _, fun _ _ _ _ => rfl, fun b hb => .inl hb⟩
  · obtain ⟨r, hr0⟩ : ∃ r, r = l.length % s := ⟨_, rfl⟩
    have hrs : r < s := by rw [hr0]; exact Nat.mod_lt _ hs0
    have hr1 : 0 < r := by omega
    have hp0 : padN l.length s = s - r := by unfold padN; rw [← hr0, Nat.mod_eq_of_lt (by omega)]
    have hri : ((l.length : Int) % (s : Int)) = (r : Int) := by rw [hr0]; simp
    have HP := Lib.hid hp0
    have hrb : ((r : Int) == 0) = false := by simp; omega
    have H := Lib.hid h
    clear h hp0 h0 hr0
    go_enter Tryz.func104, Tryz.ntmps104
    go_wp2_with (with_reducible refine wpList_make_full _ rfl _ _ 27 rfl 0 5 i0 (.int .u8 0) 1 Tryz.underlying27 hi hz0 hz1 _ _ _ _ (s - r) rfl rfl ?cL ?cC ?b2 ?b3 ?b4 ?_)
    case cL => omega
    case cC => omega
    case b2 => rw [hz2]; omega
    case b3 => unfold maxLen; omega
    case b4 => omega
    intro w1 ho hg
    rw [made_bytes] at ho
    have k1 : Kept (fun _ _ => False) w w1 := Kept.grown hg (fun _ _ e => by cases e) (fun _ _ e => by cases e)
    have hb1 : Bf w1 (.slice (some ⟨w.heap.size, 0, none⟩) (s - r) (s - r)) (some w.heap.size) (zeros (s - r)) := ⟨by simpa using ho, rfl⟩
    have k2 := k1.trans (Kept.alloc (fun _ _ => False) w1 (.cells #[.slice (some ⟨w.heap.size, 0, none⟩) (s - r) (s - r)] 27)) (fun _ _ _ => id)
    have hF2 := Lib.hid (H.out.kept k2 (fun _ => id) (fun _ _ _ => id))
    have hb2 : Bf (w1.alloc (.cells #[.slice (some ⟨w.heap.size, 0, none⟩) (s - r) (s - r)] 27)) (.slice (some ⟨w.heap.size, 0, none⟩) (s - r) (s - r)) (some w.heap.size) (zeros (s - r)) := ⟨hb1.1.alloc _, rfl⟩
    have hlt1 := hb1.lt _ rfl
    have hgn : g ≠ some w.heap.size := by
      obtain ⟨v, _, hb⟩ := H.out.b
      intro e; have := hb.lt _ e; omega
    have hgn1 : g ≠ some w1.heap.size := by
      obtain ⟨v, _, hb⟩ := H.out.b
      intro e; have := hb.lt _ e; omega
    have hR : Rows2 (fwP fb g) (w1.alloc (.cells #[.slice (some ⟨w.heap.size, 0, none⟩) (s - r) (s - r)] 27)) w1.heap.size 0 [zeros (s - r)] := by
      intro j lj hj
      match j, hj with
      | 0, hj =>
        simp at hj; subst hj
        refine ⟨_, by rw [Nat.add_zero, World.cell?_alloc_new]; rfl, hb2.rd ?_, ?_⟩
        · rintro k o e (hP | hP)
          · cases e; omega
          · rw [hP] at hgn; exact hgn e.symm
        · rintro (hP | hP)
          · omega
          · exact hgn1 hP
    have HR := Lib.hid hR
    have HK := Lib.hid k2
    clear hR k2 hb1 hb2 k1 ho hg hgn hgn1
    go_wp2_with fail
    refine (fwWrite_any fb w1.heap.size 0 1 1 g l [zeros (s - r)] _ hF2.out HR.out rfl (by omega) (by simp; omega)).mono ?_
    rintro e w3 ⟨rfl, g', m3, f3, k3, d3, n3⟩
    have F3 := Lib.hid f3
    have D3 := Lib.hid d3
    have N3 := Lib.hid n3
    clear f3 d3 n3
    go_wp2
    go_ret
    refine ⟨rfl, g', ?_, by rw [HP.out]; simpa using F3.out, (HK.out.mono (fun _ _ _ h => h.elim)).trans k3 (fun _ _ _ => id), fun b hb j hj => ?_, fun b hb => ?_⟩
    · exact Mv.trans (.inl rfl) m3 HK.out.size
    · obtain ⟨v, _, hbv⟩ := H.out.b
      rw [D3.out b hb j hj]
      exact HK.out.cell b j (hbv.lt b hb) id
    · rcases N3.out b hb with h | h
      · exact .inl h
      · exact .inr (Nat.le_trans HK.out.size h)

/-- Bytes written over others. -/
def spl (l : List UInt8) (p : Nat) (k : List UInt8) : List UInt8 := l.take p ++ (k ++ l.drop (p + k.length))
theorem spl_length (l : List UInt8) (p : Nat) (k : List UInt8) (h : p + k.length ≤ l.length) : (spl l p k).length = l.length := by simp [spl]; omega

theorem setRow_kept (w : World) (b p : Nat) (cur : Array Value) (k : List Value) (t : TypeId) (hg : w.heap[b]? = some (.cells cur t (0, 0))) (hp : p + k.length ≤ cur.size) (hk0 : 0 < k.length) :
    Kept (fun i o => i = b ∧ p ≤ o ∧ o < p + k.length) w (w.setRow b (cur.toList.take p ++ (k ++ cur.toList.drop (p + k.length))).toArray) := by
  have hn := setRow_heap w b cur (cur.toList.take p ++ (k ++ cur.toList.drop (p + k.length))).toArray t (0, 0) hg
  have hlt : b < w.heap.size := lt_of_block hg
  refine ⟨rfl, rfl, rfl, by simp [World.setRow], fun i o hi hn' => ?_, fun i o hi => ?_, fun i hi hn' => ?_⟩
  · by_cases e : i = b
    · subst e
      simp only [World.cell?, hn, hg]
      have : o < p ∨ p + k.length ≤ o := by
        rcases Nat.lt_or_ge o p with h | h
        · exact .inl h
        · rcases Nat.lt_or_ge o (p + k.length) with h' | h'
          · exact absurd ⟨rfl, h, h'⟩ hn'
          · exact .inr h'
      simp only [Option.isSome_none, Bool.false_eq_true, if_false, List.getElem?_toArray]
      have hcs : cur.toList.length = cur.size := by simp
      rw [← Array.getElem?_toList]
      rcases this with h | h
      · rw [List.getElem?_append_left (by rw [List.length_take, hcs]; omega), List.getElem?_take_of_lt h]
      · rw [List.getElem?_append_right (by rw [List.length_take, hcs]; omega), List.length_take, hcs, Nat.min_eq_left (by omega), List.getElem?_append_right (by omega), List.getElem?_drop]
        congr 1; omega
    · exact World.cell?_of_block (a := ⟨i, o, none⟩) (setRow_other w b i _ e)
  · by_cases e : i = b
    · subst e; simp only [World.frozen?, hn, hg]
    · exact World.frozen?_of_block (a := ⟨i, o, none⟩) (setRow_other w b i _ e)
  · exact setRow_other w b i _ (fun e => hn' p ⟨e, Nat.le_refl _, by omega⟩)

theorem bVs_take (l : List UInt8) (n : Nat) : (bVs l).take n = bVs (l.take n) := by simp [bVs, List.map_take]
theorem bVs_drop (l : List UInt8) (n : Nat) : (bVs l).drop n = bVs (l.drop n) := by simp [bVs, List.map_drop]

/-- copy over bytes that a slice owns, at the list of a region's operations. -/
theorem wpList_copyB {w : World} {ops : Array Oper} {rest : List Oper} {o : Oper} {a : Act} {Q : Exit → Act → World → Prop} (hgd : o.guard = none) (d s : Operand)
    (ho : o.op = .call { callee := .builtin .copy, args := #[d, s], argTypes := #[27, 27] }) (b L cap p c : Nat) (l k : List UInt8) (hb : Bf w (.slice (some ⟨b, 0, none⟩) L cap) (some b) l)
    (hd : a.eval d = .slice (some ⟨b, p, none⟩) (L - p) (cap - p)) (ad : Addr) (m : Nat) (hs : a.eval s = .slice (some ad) m c) (hm : k.length = m) (hk0 : 0 < k.length) (hp : p + k.length ≤ l.length)
    (hsrc : ∀ j u, k[j]? = some u → w.cell? (ad.add j) = some (bV u))
    (h : ∀ w', Bf w' (.slice (some ⟨b, 0, none⟩) L cap) (some b) (spl l p k) → Kept (fun i o => i = b ∧ p ≤ o ∧ o < p + k.length) w w' → wpList Tryz.prog ops Q rest (a.put o.dst (goInt k.length)) w') : wpList Tryz.prog ops Q (o :: rest) a w := by
  subst hm
  obtain ⟨i0, hi, hz0, hz1, hz2⟩ := info_parts Tryz.info5
  obtain ⟨cur, hg, hcs, htake, hLl, hLc, hcm⟩ : ∃ cur, w.heap[b]? = some (.cells cur 5 (0, 0)) ∧ cur.size = cap * 1 ∧ cur.toList.take (l.length * 1) = bVs l ∧ L = l.length ∧ L ≤ cap ∧ cap ≤ maxLen := by
    rcases hb.1.2 with ⟨h, _⟩ | ⟨g', cap', cur, h, _, hg, hle, hm, hcs, ht⟩
    · cases h
    · cases h; exact ⟨cur, hg, hcs, ht, rfl, hle, hm⟩
  have hsz : p + k.length ≤ cur.size := by omega
  refine wpList_copy_own hgd d s 27 27 ho 5 Tryz.underlying27 (by rw [hi]; simp [hz1]) b p _ _ ad _ _ hd hs cur 5 hg (bVs k) (by rw [bVs_length]; show _ = min _ _; omega) (fun j v hj => ?_) (by simpa using hsz) bVs_one ?_
  · obtain ⟨u, hu, rfl⟩ := bVs_get hj
    exact hsrc j u hu
  rw [bVs_length]
  have hK := setRow_kept w b p cur (bVs k) 5 hg (by simpa using hsz) (by simpa using hk0)
  rw [bVs_length] at hK
  refine h _ ⟨⟨by simp, .inr ⟨b, cap, _, by rw [spl_length l p k hp, hLl], Nat.zero_le _, setRow_heap w b cur _ 5 (0, 0) hg, by rw [spl_length l p k hp]; omega, hcm, ?_, ?_⟩⟩, rfl⟩ hK
  · simp; omega
  · rw [spl_length l p k hp]
    rw [Nat.mul_one] at htake ⊢
    have hcl : cur.toList.length = cap := by simp; omega
    have e1 : cur.toList.take p = (bVs l).take p := by rw [← htake, List.take_take, Nat.min_eq_left (by omega)]
    have e2 : (bVs l).drop (p + k.length) = (cur.toList.drop (p + k.length)).take (l.length - (p + k.length)) := by rw [← htake, List.drop_take]
    have e3 : (cur.toList.take p).length = p := by rw [List.length_take]; omega
    show (cur.toList.take p ++ (bVs k ++ cur.toList.drop (p + k.length))).take l.length = _
    have e4 : (cur.toList.take p).take l.length = cur.toList.take p := by rw [List.take_take, Nat.min_eq_right (by omega)]
    have e5 : (bVs k).take (l.length - p) = bVs k := List.take_of_length_le (by rw [bVs_length]; omega)
    rw [List.take_append, e3, e4, List.take_append, e5, bVs_length, Nat.sub_sub, ← e2, e1, spl, bVs_append, bVs_append, bVs_take, bVs_drop]

end Go.Proofs.YtfipfoplmopkaaaGreatDoor

namespace Go.Proofs.YtfipfoplmopkaaaGreatDoor
open Go.RowKit

set_option maxRecDepth 100000 in
/-- FileWriter.WriteAt, within what is there. -/
theorem fwWriteAt_any (fb p c : Nat) (g : Option Nat) (l k : List UInt8) (ad : Addr) (w : World) (h : FW w fb g l) (hk0 : 0 < k.length) (hp : p + k.length ≤ l.length) (hl : l.length < 1000000000)
    (hsrc : ∀ j u, k[j]? = some u → w.cell? (ad.add j) = some (bV u)) :
    Calls Tryz.prog 158 #[.pointer (some ⟨fb, 0, none⟩), .slice (some ad) k.length c, .int .u64 p] w fun e w' => e = .returned .nilIface ∧ FW w' fb g (spl l p k) ∧ Kept (fun i o => g = some i ∧ p ≤ o ∧ o < p + k.length) w w' := by
  obtain ⟨v, hv, hb⟩ := h.b
  rcases hb.form with ⟨rfl, rfl, rfl⟩ | ⟨b, cap, rfl, rfl, hle, hcm⟩
  · simp only [List.length_nil] at hp; omega
  obtain ⟨L, hL⟩ : ∃ L, L = l.length := ⟨_, rfl⟩
  rw [← hL] at hp hl hle hv hb
  obtain ⟨m, hm⟩ : ∃ m, m = k.length := ⟨_, rfl⟩
  rw [← hm] at hp hk0 ⊢
  have hpc : p < cap := by omega
  unfold maxLen at hcm
  have H := Lib.hid h
  have HB := Lib.hid hb
  have HL := Lib.hid hL
  have HM := Lib.hid hm
  have HS := Lib.hid hsrc
  have hi1 : (p : Int) ≤ L := by omega
  clear h hb hL hm hsrc
  go_enter Tryz.func158, Tryz.ntmps158
  go_wp2_with fail
  refine (flush_any _ _).mono ?_
  rintro e w1 ⟨rfl, rfl⟩
  go_wp2_with (with_reducible refine wpList_copyB rfl _ _ rfl b L cap p c l k HB.out rfl ad m rfl HM.out.symm ?c1 ?c2 HS.out ?_)
  case c1 => rw [← HM.out]; exact hk0
  case c2 => rw [← HM.out, ← HL.out]; exact hp
  intro w2 hb2 hk2
  rw [← HM.out] at hk2
  have HK := Lib.hid hk2
  have HB2 := Lib.hid hb2
  clear hk2 hb2
  go_wp2
  go_ret
  have hne : b ≠ fb := fun e => H.out.ne (by rw [e])
  have hsl : (spl l p k).length = l.length := spl_length l p k (by rw [← HM.out, ← HL.out]; exact hp)
  refine ⟨rfl, ⟨⟨_, ?_, HB2.out⟩, ?_, ?_, ?_, H.out.ne⟩, HK.out.mono (fun i o _ hP => ⟨by rw [hP.1], hP.2⟩)⟩
  · rw [HK.out.cell fb 0 H.out.lt (fun hP => hne hP.1.symm)]; exact hv
  · rw [HK.out.cell fb 1 H.out.lt (fun hP => hne hP.1.symm), hsl]; exact H.out.p
  · rw [HK.out.fr fb 0 H.out.lt]; exact H.out.f0
  · rw [HK.out.fr fb 1 H.out.lt]; exact H.out.f1

end Go.Proofs.YtfipfoplmopkaaaGreatDoor

namespace Go.Proofs.YtfipfoplmopkaaaGreatDoor
open Go.RowKit Go.Maps

theorem keyS : Keyed Tryz.prog 9 := string_keyed Tryz.underlying9

/-- What is known beside the memory: where things lie, and what they hold. T: to whom a block belongs (0: to nobody of the Writer's). -/
structure Gh where
  wb : Nat
  fb : Nat
  pb : Nat
  ob : Nat
  dg : Nat
  tb : Nat
  sm : Nat
  lm : Nat
  g1 : Option Nat
  g2 : Option Nat
  gf : Option Nat
  gp : Option Nat
  go : Option Nat
  l1 : List UInt8
  l2 : List UInt8
  lf : List UInt8
  lp : List UInt8
  lo : List UInt8
  cs : Nat → Value
  ns : Nat
  S : DataW Unit
  nl : Nat
  L : DataW Unit
  T : Nat → Nat
  wn : Nat
  zm : Bool
  zo : Bool

structure WI (w : World) (G : Gh) : Prop where
  e1 : EB w G.wb 12 G.g1 G.l1
  e2 : EB w G.wb 23 G.g2 G.l2
  f : FW w G.fb G.gf G.lf
  p : FW w G.pb G.gp G.lp
  o : FW w G.ob G.go G.lo
  d : DG w G.dg G.tb
  s : w.ownsMap Tryz.prog 9 (plainElem Tryz.prog 94) G.sm G.ns G.S
  l : w.ownsMap Tryz.prog 9 (plainElem Tryz.prog 32) G.lm G.nl G.L
  c : ∀ i, i < 47 → i < 12 ∨ 33 < i → w.cell? ⟨G.wb, i, none⟩ = some (G.cs i)
  fr : ∀ i, i < 47 → w.frozen? ⟨G.wb, i, none⟩ = false
  t1 : G.T G.wb = 1
  t2 : G.T G.fb = 2
  t3 : G.T G.pb = 3
  t4 : G.T G.ob = 4
  t5 : G.T G.dg = 5
  t6 : G.T G.tb = 6
  t7 : G.T G.sm = 7
  t8 : G.T G.lm = 8
  t9 : ∀ k, G.g1 = some k → G.T k = 9
  t10 : ∀ k, G.g2 = some k → G.T k = 10
  t11 : ∀ k, G.gf = some k → G.T k = 11
  t12 : ∀ k, G.gp = some k → G.T k = 12
  t13 : ∀ k, G.go = some k → G.T k = 13
  c0 : G.cs 0 = .pointer (some ⟨G.fb, 0, none⟩)
  c44 : G.cs 44 = .iface 284 (.pointer (some ⟨G.dg, 0, none⟩))
  c38 : G.cs 38 = .map (some G.sm)
  c40 : G.cs 40 = .map (some G.lm)
  wn : G.wn ≤ G.lf.length

/-- G' is G behind some steps: old blocks belong to whom they belonged; what never moves lies where it lay. -/
structure Nx (w : World) (G G' : Gh) : Prop where
  T : ∀ k, k < w.heap.size → G'.T k = G.T k
  wb : G'.wb = G.wb
  fb : G'.fb = G.fb
  pb : G'.pb = G.pb
  ob : G'.ob = G.ob
  dg : G'.dg = G.dg
  tb : G'.tb = G.tb
  sm : G'.sm = G.sm
  lm : G'.lm = G.lm
  wn : G.wn ≤ G'.wn
  zm : G'.zm = G.zm
  zo : G'.zo = G.zo
theorem Nx.refl (w : World) (G : Gh) : Nx w G G := ⟨fun _ _ => rfl, rfl, rfl, rfl, rfl, rfl, rfl, rfl, rfl, Nat.le_refl _, rfl, rfl⟩
theorem Nx.trans {w w1 : World} {G G1 G2 : Gh} (h : Nx w G G1) (k : Nx w1 G1 G2) (hs : w.heap.size ≤ w1.heap.size) : Nx w G G2 :=
  ⟨fun i hi => (k.T i (Nat.lt_of_lt_of_le hi hs)).trans (h.T i hi), k.wb.trans h.wb, k.fb.trans h.fb, k.pb.trans h.pb, k.ob.trans h.ob, k.dg.trans h.dg, k.tb.trans h.tb, k.sm.trans h.sm, k.lm.trans h.lm, Nat.le_trans h.wn k.wn, k.zm.trans h.zm, k.zo.trans h.zo⟩

/-- What the Writer's methods touch: what is the Writer's. -/
def wiP (G : Gh) (k _off : Nat) : Prop := G.T k ≠ 0

theorem KT.trans {w w1 w2 : World} {G G1 : Gh} (h : Kept (wiP G) w w1) (n : Nx w G G1) (k : Kept (wiP G1) w1 w2) : Kept (wiP G) w w2 :=
  h.trans k (fun i _ hi hP => by unfold wiP at *; rwa [n.T i hi] at hP)

/-- The beginnings of the main file's blocks stay; where 'fm' ('fo') says so, the main file's (the offsets') blocks stay whole. -/
structure Hp (w : World) (G : Gh) (w' : World) : Prop where
  h : ∀ b o, b < w.heap.size → G.T b = 11 → o < G.wn → w'.cell? ⟨b, o, none⟩ = w.cell? ⟨b, o, none⟩
  m : G.zm = true → ∀ k, k < w.heap.size → G.T k = 11 → w'.heap[k]? = w.heap[k]?
  o : G.zo = true → ∀ k, k < w.heap.size → G.T k = 13 → w'.heap[k]? = w.heap[k]?
theorem Hp.refl (w : World) (G : Gh) : Hp w G w := ⟨fun _ _ _ _ _ => rfl, fun _ _ _ _ => rfl, fun _ _ _ _ => rfl⟩
theorem Hp.none {w w' : World} (G : Gh) (hk : Kept (fun _ _ => False) w w') : Hp w G w' := ⟨fun b o hb _ _ => hk.cell b o hb id, fun _ k hk' _ => hk.block k hk' (fun _ => id), fun _ k hk' _ => hk.block k hk' (fun _ => id)⟩
theorem Hp.trans {w w1 w2 : World} {G G1 : Gh} (h : Hp w G w1) (n : Nx w G G1) (hs : w.heap.size ≤ w1.heap.size) (k : Hp w1 G1 w2) : Hp w G w2 :=
  ⟨fun b o hb ht ho => (k.h b o (Nat.lt_of_lt_of_le hb hs) ((n.T b hb).trans ht) (Nat.lt_of_lt_of_le ho n.wn)).trans (h.h b o hb ht ho),
   fun e b hb ht => (k.m (n.zm.trans e) b (Nat.lt_of_lt_of_le hb hs) ((n.T b hb).trans ht)).trans (h.m e b hb ht),
   fun e b hb ht => (k.o (n.zo.trans e) b (Nat.lt_of_lt_of_le hb hs) ((n.T b hb).trans ht)).trans (h.o e b hb ht)⟩

/-- A block that nobody of the Writer's owns is as it was. -/
theorem KT.block {w w' : World} {G : Gh} (h : Kept (wiP G) w w') {k : Nat} (hk : k < w.heap.size) (h0 : G.T k = 0) : w'.heap[k]? = w.heap[k]? := h.block k hk (fun _ hP => hP h0)
theorem KT.cell {w w' : World} {G : Gh} (h : Kept (wiP G) w w') {k : Nat} (hk : k < w.heap.size) (h0 : G.T k = 0) (o : Nat) : w'.cell? ⟨k, o, none⟩ = w.cell? ⟨k, o, none⟩ := h.cell k o hk (fun hP => hP h0)

theorem ownsMap_lt {H : Type} {P : Program} {k : TypeId} {R : Value → Option (DataW H × List MemPlace)} {w : World} {b n : Nat} {D : DataW H} (h : w.ownsMap P k R b n D) : b < w.heap.size := by
  obtain ⟨es, clock, hb, _⟩ := h
  exact lt_of_block hb
theorem ownsMap_kept {H : Type} {P : Program} {k : TypeId} {R : Value → Option (DataW H × List MemPlace)} {w w' : World} {b n : Nat} {D : DataW H} (h : w.ownsMap P k R b n D) {Q : Nat → Nat → Prop} (hk : Kept Q w w') (hn : ∀ o, ¬ Q b o) : w'.ownsMap P k R b n D := by
  have hlt := ownsMap_lt h
  obtain ⟨es, clock, hb, h2⟩ := h
  exact ⟨es, clock, (hk.block b hlt hn).trans hb, h2⟩

section
variable {w w' : World} {G : Gh} {P : Nat → Nat → Prop} {Q : Nat → Prop} {S : Nat → Prop}
/-- A step touches cells Q of the Writer's own block, and blocks whose owners are in S. -/
def Tou (w : World) (G : Gh) (P : Nat → Nat → Prop) (Q : Nat → Prop) (S : Nat → Prop) : Prop := ∀ k o, k < w.heap.size → P k o → (k = G.wb ∧ Q o) ∨ (S (G.T k) ∧ G.T k ≠ 1)

theorem WI.gl1 (h : WI w G) : ∀ k, G.g1 = some k → k < w.heap.size := by obtain ⟨v, _, hb⟩ := h.e1.b; exact hb.lt
theorem WI.gl2 (h : WI w G) : ∀ k, G.g2 = some k → k < w.heap.size := by obtain ⟨v, _, hb⟩ := h.e2.b; exact hb.lt
theorem FW.gl {fb : Nat} {g : Option Nat} {l : List UInt8} (h : FW w fb g l) : ∀ k, g = some k → k < w.heap.size := by obtain ⟨v, _, hb⟩ := h.b; exact hb.lt

theorem Tou.no (hT : Tou w G P Q S) (h : WI w G) {k t : Nat} (hk : k < w.heap.size) (ht : G.T k = t) (hS : ¬ S t) (h1 : t ≠ 1) (o : Nat) : ¬ P k o := by
  intro hP
  rcases hT k o hk hP with ⟨rfl, _⟩ | ⟨hs, _⟩
  · exact h1 (ht.symm.trans h.t1)
  · exact hS (ht ▸ hs)
theorem Tou.noW (hT : Tou w G P Q S) (h : WI w G) (hk : G.wb < w.heap.size) {o : Nat} (hQ : ¬ Q o) : ¬ P G.wb o := by
  intro hP
  rcases hT _ o hk hP with ⟨_, hq⟩ | ⟨_, h1⟩
  · exact hQ hq
  · exact h1 h.t1

theorem WI.k_e1 (h : WI w G) (hk : Kept P w w') (hT : Tou w G P Q S) (hQ : ∀ j, j < 11 → ¬ Q (12 + j)) (hS : ¬ S 9) : EB w' G.wb 12 G.g1 G.l1 :=
  h.e1.kept hk (fun j hj => hT.noW h h.e1.lt (hQ j hj)) (fun k o e => hT.no h (h.gl1 k e) (h.t9 k e) hS (by decide) o)
theorem WI.k_e2 (h : WI w G) (hk : Kept P w w') (hT : Tou w G P Q S) (hQ : ∀ j, j < 11 → ¬ Q (23 + j)) (hS : ¬ S 10) : EB w' G.wb 23 G.g2 G.l2 :=
  h.e2.kept hk (fun j hj => hT.noW h h.e2.lt (hQ j hj)) (fun k o e => hT.no h (h.gl2 k e) (h.t10 k e) hS (by decide) o)
theorem WI.k_f (h : WI w G) (hk : Kept P w w') (hT : Tou w G P Q S) (h1 : ¬ S 2) (h2 : ¬ S 11) : FW w' G.fb G.gf G.lf :=
  h.f.kept hk (fun o => hT.no h h.f.lt h.t2 h1 (by decide) o) (fun k o e => hT.no h (h.f.gl k e) (h.t11 k e) h2 (by decide) o)
theorem WI.k_p (h : WI w G) (hk : Kept P w w') (hT : Tou w G P Q S) (h1 : ¬ S 3) (h2 : ¬ S 12) : FW w' G.pb G.gp G.lp :=
  h.p.kept hk (fun o => hT.no h h.p.lt h.t3 h1 (by decide) o) (fun k o e => hT.no h (h.p.gl k e) (h.t12 k e) h2 (by decide) o)
theorem WI.k_o (h : WI w G) (hk : Kept P w w') (hT : Tou w G P Q S) (h1 : ¬ S 4) (h2 : ¬ S 13) : FW w' G.ob G.go G.lo :=
  h.o.kept hk (fun o => hT.no h h.o.lt h.t4 h1 (by decide) o) (fun k o e => hT.no h (h.o.gl k e) (h.t13 k e) h2 (by decide) o)
theorem WI.k_d (h : WI w G) (hk : Kept P w w') (hT : Tou w G P Q S) (h1 : ¬ S 5) (h2 : ¬ S 6) : DG w' G.dg G.tb :=
  h.d.kept hk (fun o => hT.no h h.d.lt h.t5 h1 (by decide) o) (fun o => hT.no h h.d.ltb h.t6 h2 (by decide) o)
theorem WI.k_s (h : WI w G) (hk : Kept P w w') (hT : Tou w G P Q S) (h1 : ¬ S 7) : w'.ownsMap Tryz.prog 9 (plainElem Tryz.prog 94) G.sm G.ns G.S :=
  ownsMap_kept h.s hk (fun o => hT.no h (ownsMap_lt h.s) h.t7 h1 (by decide) o)
theorem WI.k_l (h : WI w G) (hk : Kept P w w') (hT : Tou w G P Q S) (h1 : ¬ S 8) : w'.ownsMap Tryz.prog 9 (plainElem Tryz.prog 32) G.lm G.nl G.L :=
  ownsMap_kept h.l hk (fun o => hT.no h (ownsMap_lt h.l) h.t8 h1 (by decide) o)
theorem WI.k_c (h : WI w G) (hk : Kept P w w') (hT : Tou w G P Q S) (hQ : ∀ i, i < 12 ∨ 33 < i → ¬ Q i) : ∀ i, i < 47 → i < 12 ∨ 33 < i → w'.cell? ⟨G.wb, i, none⟩ = some (G.cs i) :=
  fun i hi hr => (hk.cell _ _ h.e1.lt (hT.noW h h.e1.lt (hQ i hr))).trans (h.c i hi hr)
theorem WI.k_fr (h : WI w G) (hk : Kept P w w') : ∀ i, i < 47 → w'.frozen? ⟨G.wb, i, none⟩ = false :=
  fun i hi => (hk.fr _ _ h.e1.lt).trans (h.fr i hi)
end

theorem Hp.tou {w w' : World} {G : Gh} {P : Nat → Nat → Prop} {Q S : Nat → Prop} (h : WI w G) (hk : Kept P w w') (hT : Tou w G P Q S) (hS : ¬ S 11) (hS3 : ¬ S 13 ∨ G.zo = false) : Hp w G w' :=
  ⟨fun b o hb ht _ => hk.cell _ _ hb (hT.no h hb ht hS (by decide) o), fun _ b hb ht => hk.block _ hb (fun o => hT.no h hb ht hS (by decide) o),
   fun e b hb ht => hk.block _ hb (fun o => hT.no h hb ht (hS3.resolve_right (by rw [e]; decide)) (by decide) o)⟩

/-- Nothing of the Writer's is touched. -/
theorem WI.kept {w w' : World} {G : Gh} {P : Nat → Nat → Prop} (h : WI w G) (hk : Kept P w w') (hP : ∀ k o, k < w.heap.size → P k o → G.T k = 0) : WI w' G := by
  have hT : Tou w G P (fun _ => False) (fun t => t = 0) := fun k o hk' hp => .inr ⟨hP k o hk' hp, by rw [hP k o hk' hp]; decide⟩
  exact ⟨h.k_e1 hk hT (fun _ _ => id) (by decide), h.k_e2 hk hT (fun _ _ => id) (by decide), h.k_f hk hT (by decide) (by decide), h.k_p hk hT (by decide) (by decide), h.k_o hk hT (by decide) (by decide), h.k_d hk hT (by decide) (by decide), h.k_s hk hT (by decide), h.k_l hk hT (by decide),
    h.k_c hk hT (fun _ _ => id), h.k_fr hk, h.t1, h.t2, h.t3, h.t4, h.t5, h.t6, h.t7, h.t8, h.t9, h.t10, h.t11, h.t12, h.t13, h.c0, h.c44, h.c38, h.c40, h.wn⟩

/-- A new owner's name for a new block. -/
def Gh.own (G : Gh) (g' : Option Nat) (n t : Nat) : Nat → Nat := fun k => if g' = some k ∧ n ≤ k then t else G.T k
theorem Gh.own_old (G : Gh) (g' : Option Nat) (n t : Nat) {k : Nat} (hk : k < n) : G.own g' n t k = G.T k := by unfold Gh.own; rw [if_neg (by omega)]
theorem own_mv {G : Gh} {w : World} {g g' : Option Nat} {t : Nat} (hm : Mv g g' w) (ht : ∀ k, g = some k → G.T k = t) (hl : ∀ k, g = some k → k < w.heap.size) : ∀ k, g' = some k → G.own g' w.heap.size t k = t := by
  intro k hk
  rcases hm with rfl | ⟨b, rfl, hb⟩
  · rw [G.own_old _ _ _ (hl k hk)]; exact ht k hk
  · cases hk; unfold Gh.own; rw [if_pos ⟨rfl, hb⟩]

end Go.Proofs.YtfipfoplmopkaaaGreatDoor
