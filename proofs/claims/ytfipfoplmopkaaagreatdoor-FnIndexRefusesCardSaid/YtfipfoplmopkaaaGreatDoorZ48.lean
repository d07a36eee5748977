/- The law's data in memory; what BuildIndex answers, as a relation. No condition. The law's guards: zzFits13(4), zzFits10(28), zzFits15(11), zzFits14(5), wordsFew(6), HasWord(27), short(13). No condition but on lengths. The law's guards: short(13), Proper(14), chunksRight(15). No condition but on lengths. -/
import Derived.Test.YtfipfoplmopkaaaGreatDoorZ46
import Derived.Test.YtfipfoplmopkaaaGreatDoorZ47
import Derived.Deep.QuietTactic
import Derived.BigQuiet

namespace Go.Proofs.YtfipfoplmopkaaaGreatDoor
open Go.RowKit Go.Maps

/-- A series. -/
structure Sr where
  r : Nat
  ls : List Lab
  ck : List Ck
instance : Inhabited Sr := ⟨⟨0, [], []⟩⟩

/-- A slice of strings in memory, in a block below N. -/
def AtS (N : Nat) (w : World) (v : Value) (ss : List ByteArray) : Prop :=
  ∃ ao c, v = .slice ao ss.length c ∧ ss.length ≤ c ∧ (0 < ss.length → ∃ b o, ao = some ⟨b, o, none⟩ ∧ b < N ∧ ∀ i (h : i < ss.length), w.cell? ⟨b, o + i, none⟩ = some (.string (ss[i]'h)))
/-- A slice of labels. -/
def AtL (N : Nat) (w : World) (v : Value) (ls : List Lab) : Prop :=
  ∃ ao c, v = .slice ao ls.length c ∧ ls.length ≤ c ∧ (0 < ls.length → ∃ b o, ao = some ⟨b, o, none⟩ ∧ b < N ∧ RowL w b o ls)
/-- A row of chunks, as the law has them. -/
def RowK (w : World) (b o : Nat) (cs : List Ck) : Prop :=
  ∀ i (h : i < cs.length), w.cell? ⟨b, o + i * 3, none⟩ = some (.int .u64 ((cs[i]'h).r : Int)) ∧ w.cell? ⟨b, o + i * 3 + 1, none⟩ = some (.int .i64 (cs[i]'h).a) ∧ w.cell? ⟨b, o + i * 3 + 2, none⟩ = some (.int .i64 (cs[i]'h).z)
def AtK (N : Nat) (w : World) (v : Value) (cs : List Ck) : Prop :=
  ∃ ao c, v = .slice ao cs.length c ∧ cs.length ≤ c ∧ (0 < cs.length → ∃ b o, ao = some ⟨b, o, none⟩ ∧ b < N ∧ RowK w b o cs)
/-- A row of series. -/
def RowX (N : Nat) (w : World) (b o : Nat) (xs : List Sr) : Prop :=
  ∀ i (h : i < xs.length), ∃ vl vk, w.cell? ⟨b, o + i * 3, none⟩ = some (.int .u64 ((xs[i]'h).r : Int)) ∧ w.cell? ⟨b, o + i * 3 + 1, none⟩ = some vl ∧ w.cell? ⟨b, o + i * 3 + 2, none⟩ = some vk ∧ AtL N w vl (xs[i]'h).ls ∧ AtK N w vk (xs[i]'h).ck
def AtX (N : Nat) (w : World) (v : Value) (xs : List Sr) : Prop :=
  ∃ ao c, v = .slice ao xs.length c ∧ xs.length ≤ c ∧ (0 < xs.length → ∃ b o, ao = some ⟨b, o, none⟩ ∧ b < N ∧ RowX N w b o xs)

section
variable {N : Nat} {w w' : World} {P : Nat → Nat → Prop}
theorem kcell (hk : Kept P w w') (hP : ∀ k j, k < N → ¬ P k j) (hN : N ≤ w.heap.size) {b : Nat} (hb : b < N) (i : Nat) : w'.cell? ⟨b, i, none⟩ = w.cell? ⟨b, i, none⟩ := hk.cell b i (by omega) (hP b i hb)
theorem AtS.kept (hk : Kept P w w') (hP : ∀ k j, k < N → ¬ P k j) (hN : N ≤ w.heap.size) {v : Value} {ss : List ByteArray} (h : AtS N w v ss) : AtS N w' v ss := by
  obtain ⟨ao, c, h1, h2, h3⟩ := h
  refine ⟨ao, c, h1, h2, fun h0 => ?_⟩
  obtain ⟨b, o, h4, h5, h6⟩ := h3 h0
  exact ⟨b, o, h4, h5, fun i hi => (kcell hk hP hN h5 _).trans (h6 i hi)⟩
theorem AtL.kept (hk : Kept P w w') (hP : ∀ k j, k < N → ¬ P k j) (hN : N ≤ w.heap.size) {v : Value} {ss : List Lab} (h : AtL N w v ss) : AtL N w' v ss := by
  obtain ⟨ao, c, h1, h2, h3⟩ := h
  refine ⟨ao, c, h1, h2, fun h0 => ?_⟩
  obtain ⟨b, o, h4, h5, h6⟩ := h3 h0
  exact ⟨b, o, h4, h5, fun i hi => ⟨(kcell hk hP hN h5 _).trans (h6 i hi).1, (kcell hk hP hN h5 _).trans (h6 i hi).2⟩⟩
theorem AtK.kept (hk : Kept P w w') (hP : ∀ k j, k < N → ¬ P k j) (hN : N ≤ w.heap.size) {v : Value} {ss : List Ck} (h : AtK N w v ss) : AtK N w' v ss := by
  obtain ⟨ao, c, h1, h2, h3⟩ := h
  refine ⟨ao, c, h1, h2, fun h0 => ?_⟩
  obtain ⟨b, o, h4, h5, h6⟩ := h3 h0
  exact ⟨b, o, h4, h5, fun i hi => ⟨(kcell hk hP hN h5 _).trans (h6 i hi).1, (kcell hk hP hN h5 _).trans (h6 i hi).2.1, (kcell hk hP hN h5 _).trans (h6 i hi).2.2⟩⟩
theorem AtX.kept (hk : Kept P w w') (hP : ∀ k j, k < N → ¬ P k j) (hN : N ≤ w.heap.size) {v : Value} {ss : List Sr} (h : AtX N w v ss) : AtX N w' v ss := by
  obtain ⟨ao, c, h1, h2, h3⟩ := h
  refine ⟨ao, c, h1, h2, fun h0 => ?_⟩
  obtain ⟨b, o, h4, h5, h6⟩ := h3 h0
  refine ⟨b, o, h4, h5, fun i hi => ?_⟩
  obtain ⟨vl, vk, a1, a2, a3, a4, a5⟩ := h6 i hi
  exact ⟨vl, vk, (kcell hk hP hN h5 _).trans a1, (kcell hk hP hN h5 _).trans a2, (kcell hk hP hN h5 _).trans a3, a4.kept hk hP hN, a5.kept hk hP hN⟩
end

/-- Symbol i is refused. -/
def badS (ss : List ByteArray) (i : Nat) : Prop := 0 < i ∧ leB (ss.getD i ⟨#[]⟩) (ss.getD (i - 1) ⟨#[]⟩) = true
/-- The reference, the chunks' reference, the labels ahead of series i. -/
def rAt (xs : List Sr) (i : Nat) : Nat := if i = 0 then 0 else (xs.getD (i - 1) default).r
def cAt (xs : List Sr) : Nat → Nat
  | 0 => 0
  | i + 1 => lastR (cAt xs i) (xs.getD i default).ck
def lAt (xs : List Sr) (i : Nat) : List (List UInt8) := if i = 0 then [] else fsL (xs.getD (i - 1) default).ls
/-- Series i is taken. -/
def okX (ss : List ByteArray) (xs : List Sr) (i : Nat) : Prop := 0 < cmpF (fsL (xs.getD i default).ls) (lAt xs i) ∧ inW ss (xs.getD i default).ls
/-- What is refused. -/
def RefR (ss : List ByteArray) (xs : List Sr) (r : Int) : Prop :=
  (∃ i, i < ss.length ∧ (∀ j, j < i → ¬ badS ss j) ∧ badS ss i ∧ r = i) ∨
  ((∀ j, j < ss.length → ¬ badS ss j) ∧ ∃ i, i < xs.length ∧ (∀ j, j < i → okX ss xs j) ∧ ¬ okX ss xs i ∧ r = ss.length + i) ∨
  ((∀ j, j < ss.length → ¬ badS ss j) ∧ (∀ j, j < xs.length → okX ss xs j) ∧ r = -1)

/-- The series are such as indexFew lets by. -/
structure XOK (xs : List Sr) : Prop where
  n : xs.length ≤ 20
  r : ∀ i, i < xs.length → rAt xs i ≤ (xs.getD i default).r ∧ (xs.getD i default).r < 18446744073709551616
  l : ∀ i, i < xs.length → LOK (xs.getD i default).ls ∧ AscL (xs.getD i default).ls ∧ (xs.getD i default).ls.length ≤ 10 ∧ 0 < (xs.getD i default).ls.length
  k : ∀ i, i < xs.length → CkO (cAt xs i) (xs.getD i default).ck
structure SOK (ss : List ByteArray) : Prop where
  n : ss.length ≤ 200
  s : ∀ s ∈ ss, s.size ≤ 200

/-- The closure's cells, beside the Writer. -/
structure BX (nb : Nat) (w : World) (G : Gh) (rb sb ab xb bb : Nat) (sv xv : Value) (i : Nat) : Prop where
  lt : rb < nb ∧ sb < nb ∧ ab < nb ∧ xb < nb ∧ bb < nb
  n : nb ≤ w.heap.size
  ne : rb ≠ ab ∧ sb ≠ ab ∧ xb ≠ ab ∧ bb ≠ ab
  T : ∀ k, k < nb → G.T k = 0
  r : w.cell? ⟨rb, 0, none⟩ = some (.int .i64 (-1))
  s : w.cell? ⟨sb, 0, none⟩ = some sv
  a : w.cell? ⟨ab, 0, none⟩ = some (.int .i64 (i : Int))
  x : w.cell? ⟨xb, 0, none⟩ = some xv
  b : ∃ v, w.cell? ⟨bb, 0, none⟩ = some v ∧ ∃ ao n c, v = .slice ao n c
  fr : w.frozen? ⟨rb, 0, none⟩ = false
  fa : w.frozen? ⟨ab, 0, none⟩ = false
  fb : w.frozen? ⟨bb, 0, none⟩ = false

theorem BX.kept {nb : Nat} {w w' : World} {G : Gh} {rb sb ab xb bb i : Nat} {sv xv : Value} (h : BX nb w G rb sb ab xb bb sv xv i) {P : Nat → Nat → Prop} (hk : Kept P w w') (hP : ∀ k j, k < nb → ¬ P k j) {G' : Gh} (hT : ∀ k, k < nb → G'.T k = G.T k) : BX nb w' G' rb sb ab xb bb sv xv i := by
  have hn := h.n
  obtain ⟨l1, l2, l3, l4, l5⟩ := h.lt
  have c : ∀ {b}, b < nb → w'.cell? ⟨b, 0, none⟩ = w.cell? ⟨b, 0, none⟩ := fun hb => kcell hk hP hn hb 0
  have f : ∀ {b}, b < nb → w'.frozen? ⟨b, 0, none⟩ = w.frozen? ⟨b, 0, none⟩ := fun hb => hk.fr _ 0 (by omega)
  exact ⟨h.lt, Nat.le_trans hn hk.size, h.ne, fun k hk' => (hT k hk').trans (h.T k hk'), by rw [c l1]; exact h.r, by rw [c l2]; exact h.s, by rw [c l3]; exact h.a, by rw [c l4]; exact h.x, by rw [c l5]; exact h.b, by rw [f l1]; exact h.fr, by rw [f l3]; exact h.fa, by rw [f l5]; exact h.fb⟩
theorem wiP_nb {nb : Nat} {G : Gh} (h : ∀ k, k < nb → G.T k = 0) : ∀ k j, k < nb → ¬ wiP G k j := fun k _ hk hne => hne (h k hk)
theorem BX.go {nb : Nat} {w w' : World} {G G' : Gh} {rb sb ab xb bb i : Nat} {sv xv : Value} (h : BX nb w G rb sb ab xb bb sv xv i) (r : Reach w G w' G') : BX nb w' G' rb sb ab xb bb sv xv i :=
  h.kept r.kp (wiP_nb h.T) (fun k hk => r.nx.T k (Nat.lt_of_lt_of_le hk h.n))
theorem BX.seta {nb : Nat} {w : World} {G : Gh} {rb sb ab xb bb i : Nat} {sv xv : Value} (h : BX nb w G rb sb ab xb bb sv xv i) {v : Int} (hv : v = ((i + 1 : Nat) : Int)) : BX nb (w.setCell ⟨ab, 0, none⟩ (.int .i64 v)) G rb sb ab xb bb sv xv (i + 1) := by
  subst hv
  obtain ⟨n1, n2, n3, n4⟩ := h.ne
  have c : ∀ {b}, b ≠ ab → (w.setCell ⟨ab, 0, none⟩ (.int .i64 ((i + 1 : Nat) : Int))).cell? ⟨b, 0, none⟩ = w.cell? ⟨b, 0, none⟩ := fun hb => World.cell?_setCell_other _ _ _ _ (by first | (simp; done) | (simp; exact hb))
  exact ⟨h.lt, by rw [World.size_setCell]; exact h.n, h.ne, h.T, by rw [c n1]; exact h.r, by rw [c n2]; exact h.s, World.cell?_setCell_same _ _ _ h.a, by rw [c n3]; exact h.x, by rw [c n4]; exact h.b, by rw [World.frozen?_setCell]; exact h.fr, by rw [World.frozen?_setCell]; exact h.fa, by rw [World.frozen?_setCell]; exact h.fb⟩

end Go.Proofs.YtfipfoplmopkaaaGreatDoor

namespace Go.Proofs.YtfipfoplmopkaaaGreatDoor
open Go.RowKit Go.Maps

/-- A slice of strings, opened. -/
theorem AtS.at {N : Nat} {w wr : World} {ss : List ByteArray} {ao : Option Addr} {n c : Nat} (h : AtS N w (.slice ao n c) ss) (hN : N ≤ w.heap.size) (hk : Kept (fun _ _ => False) w wr) {i : Nat} (hi : i < n) : ∃ b o s, ao = some ⟨b, o, none⟩ ∧ wr.cell? ⟨b, o + i, none⟩ = some (.string s) ∧ Hid (s = ss.getD i ⟨#[]⟩ ∧ i < ss.length) := by
  obtain ⟨ao', c', he, _, hr⟩ := h
  cases he
  obtain ⟨b, o, rfl, hb, hc⟩ := hr (by omega)
  exact ⟨b, o, _, rfl, (kcell hk (fun _ _ _ e => e) hN hb _).trans (hc i hi), Lib.hid ⟨(getD_of' hi _).symm, hi⟩⟩
  where getD_of' {α : Type} {l : List α} {i : Nat} (h : i < l.length) (d : α) : l.getD i d = l[i]'h := by rw [List.getD_eq_getElem?_getD, List.getElem?_eq_getElem h]; rfl
theorem AtL.at {N : Nat} {w wr : World} {ls : List Lab} {ao : Option Addr} {n c : Nat} (h : AtL N w (.slice ao n c) ls) (hN : N ≤ w.heap.size) (hk : Kept (fun _ _ => False) w wr) {i : Nat} (hi : i < n) : ∃ b o x y, ao = some ⟨b, o, none⟩ ∧ wr.cell? ⟨b, o + i * 2, none⟩ = some (.string x) ∧ wr.cell? ⟨b, o + i * 2 + 1, none⟩ = some (.string y) ∧ Hid ((x, y) = ls.getD i default ∧ i < ls.length) := by
  obtain ⟨ao', c', he, _, hr⟩ := h
  cases he
  obtain ⟨b, o, rfl, hb, hc⟩ := hr (by omega)
  refine ⟨b, o, _, _, rfl, (kcell hk (fun _ _ _ e => e) hN hb _).trans (hc i hi).1, (kcell hk (fun _ _ _ e => e) hN hb _).trans (hc i hi).2, Lib.hid ⟨(AtS.at.getD_of' hi _).symm, hi⟩⟩
theorem AtX.at {N : Nat} {w wr : World} {xs : List Sr} {ao : Option Addr} {n c : Nat} (h : AtX N w (.slice ao n c) xs) (hN : N ≤ w.heap.size) (hk : Kept (fun _ _ => False) w wr) {i : Nat} (hi : i < n) : ∃ b o r lao nl lc kao nk kc, ao = some ⟨b, o, none⟩ ∧ wr.cell? ⟨b, o + i * 3, none⟩ = some (.int .u64 (r : Nat)) ∧ wr.cell? ⟨b, o + i * 3 + 1, none⟩ = some (.slice lao nl lc) ∧ wr.cell? ⟨b, o + i * 3 + 2, none⟩ = some (.slice kao nk kc) ∧
    Hid (AtL N w (.slice lao nl lc) (xs.getD i default).ls) ∧ Hid (AtK N w (.slice kao nk kc) (xs.getD i default).ck) ∧ Hid (r = (xs.getD i default).r ∧ i < xs.length) := by
  obtain ⟨ao', c', he, _, hr⟩ := h
  cases he
  obtain ⟨b, o, rfl, hb, hc⟩ := hr (by omega)
  obtain ⟨vl, vk, a0, a1, a2, hl, hk'⟩ := hc i hi
  rw [← AtS.at.getD_of' hi default] at a0 hl hk'
  obtain ⟨lao, lc, rfl, g1⟩ := id hl
  obtain ⟨kao, kc, rfl, g2⟩ := id hk'
  exact ⟨b, o, _, lao, _, lc, kao, _, kc, rfl, (kcell hk (fun _ _ _ e => e) hN hb _).trans a0, (kcell hk (fun _ _ _ e => e) hN hb _).trans a1, (kcell hk (fun _ _ _ e => e) hN hb _).trans a2, Lib.hid hl, Lib.hid hk', Lib.hid ⟨rfl, hi⟩⟩
theorem AtL.len {N : Nat} {w : World} {ls : List Lab} {ao : Option Addr} {n c : Nat} (h : AtL N w (.slice ao n c) ls) : n = ls.length := by obtain ⟨_, _, he, _⟩ := h; cases he; rfl
theorem AtK.len {N : Nat} {w : World} {ls : List Ck} {ao : Option Addr} {n c : Nat} (h : AtK N w (.slice ao n c) ls) : n = ls.length := by obtain ⟨_, _, he, _⟩ := h; cases he; rfl
theorem AtX.len {N : Nat} {w : World} {ls : List Sr} {ao : Option Addr} {n c : Nat} (h : AtX N w (.slice ao n c) ls) : n = ls.length := by obtain ⟨_, _, he, _⟩ := h; cases he; rfl
theorem AtS.len {N : Nat} {w : World} {ls : List ByteArray} {ao : Option Addr} {n c : Nat} (h : AtS N w (.slice ao n c) ls) : n = ls.length := by obtain ⟨_, _, he, _⟩ := h; cases he; rfl

set_option maxHeartbeats 1000000 in
theorem zz13_any (N : Nat) (w : World) (ao : Option Addr) (n c : Nat) (ss : List ByteArray) (h : AtS N w (.slice ao n c) ss) (hN : N ≤ w.heap.size) : Calls Tryz.prog 4 #[.slice ao n c] w fun e w' => (∃ b, e = .returned (.bool b)) ∧ Kept (fun _ _ => False) w w' := by
  have H := Lib.hid h
  have HN := Lib.hid hN
  clear h hN
  go_enter Tryz.func4, Tryz.ntmps4
  by_cases h1 : 2147483647 < n
  · have d1 : decide ((2147483647 : Int) < (n : Int)) = true := decide_eq_true (by omega)
    go_wp2_with fail
    go_ret
    exact ⟨⟨_, rfl⟩, Kept.refl _ _⟩
  · have d1 : decide ((2147483647 : Int) < (n : Int)) = false := decide_eq_false (by omega)
    go_wp2_with fail
    clear d1
    go_loopw [10] (fun v wr => ∃ i, i ≤ n ∧ v = .int .i64 (i : Nat) ∧ Hid (Kept (fun _ _ => False) w wr)) (fun v _ => n - (intOf v).toNat)
    case atStart => exact ⟨0, Nat.zero_le _, rfl, Lib.hid (Kept.refl _ _)⟩
    case round =>
      obtain ⟨i, hi, rfl, HK⟩ := hrel
      by_cases hlt : i < n
      · obtain ⟨b, o, s, rfl, hc, HE⟩ := H.out.at HN.out HK.out hlt
        have hiI : (i : Int) < n := by omega
        by_cases h2 : 2147483647 < s.size
        · have d2 : decide ((2147483647 : Int) < (s.size : Int)) = true := decide_eq_true (by omega)
          go_wp2_with fail
          go_ret
          exact ⟨⟨_, rfl⟩, HK.out⟩
        · have d2 : decide ((2147483647 : Int) < (s.size : Int)) = false := decide_eq_false (by omega)
          go_wp2_with fail
          go_roundw
          case rel => exact ⟨i + 1, by omega, by go_num, HK⟩
          case measure => simp only [intOf]; omega
      · obtain rfl : i = n := by omega
        go_wp2_with fail
        go_ret
        exact ⟨⟨_, rfl⟩, HK.out⟩

set_option maxHeartbeats 1000000 in
theorem zz11_any (x y : ByteArray) (w : World) : Calls Tryz.prog 70 #[.agg #[.string x, .string y]] w fun e w' => (∃ b, e = .returned (.bool b)) ∧ Kept (fun _ _ => False) w w' := by
  go_enter Tryz.func70, Tryz.ntmps70
  by_cases h1 : 2147483647 < x.size
  · have d1 : decide ((2147483647 : Int) < (x.size : Int)) = true := decide_eq_true (by omega)
    go_wp2
    go_ret
    exact ⟨⟨_, rfl⟩, Kept.alloc _ _ _⟩
  · have d1 : decide ((2147483647 : Int) < (x.size : Int)) = false := decide_eq_false (by omega)
    by_cases h2 : 2147483647 < y.size
    · have d2 : decide ((2147483647 : Int) < (y.size : Int)) = true := decide_eq_true (by omega)
      go_wp2
      go_ret
      exact ⟨⟨_, rfl⟩, Kept.alloc _ _ _⟩
    · have d2 : decide ((2147483647 : Int) < (y.size : Int)) = false := decide_eq_false (by omega)
      go_wp2
      go_ret
      exact ⟨⟨_, rfl⟩, Kept.alloc _ _ _⟩

set_option maxHeartbeats 1000000 in
theorem zz10_any (N : Nat) (w : World) (ao : Option Addr) (n c : Nat) (ls : List Lab) (h : AtL N w (.slice ao n c) ls) (hN : N ≤ w.heap.size) : Calls Tryz.prog 28 #[.slice ao n c] w fun e w' => (∃ b, e = .returned (.bool b)) ∧ Kept (fun _ _ => False) w w' := by
  have H := Lib.hid h
  have HN := Lib.hid hN
  clear h hN
  go_enter Tryz.func28, Tryz.ntmps28
  by_cases h1 : 2147483647 < n
  · have d1 : decide ((2147483647 : Int) < (n : Int)) = true := decide_eq_true (by omega)
    go_wp2
    go_ret
    exact ⟨⟨_, rfl⟩, Kept.refl _ _⟩
  · have d1 : decide ((2147483647 : Int) < (n : Int)) = false := decide_eq_false (by omega)
    go_wp2
    clear d1
    go_loopw [10] (fun v wr => ∃ i, i ≤ n ∧ v = .int .i64 (i : Nat) ∧ Hid (Kept (fun _ _ => False) w wr)) (fun v _ => n - (intOf v).toNat)
    case atStart => exact ⟨0, Nat.zero_le _, rfl, Lib.hid (Kept.refl _ _)⟩
    case round =>
      obtain ⟨i, hi, rfl, HK⟩ := hrel
      by_cases hlt : i < n
      · obtain ⟨b, o, x, y, rfl, hc, hc2, HE⟩ := H.out.at HN.out HK.out hlt
        have hiI : (i : Int) < n := by omega
        go_wp2_with fail
        refine (zz11_any x y _).mono ?_
        rintro e w2 ⟨⟨t, rfl⟩, hk⟩
        have HK2 := Lib.hid ((HK.out.trans (Kept.alloc _ _ _) (fun _ _ _ => id)).trans hk (fun _ _ _ => id))
        clear hk
        cases t with
        | false =>
          go_wp2_with fail
          go_ret
          exact ⟨⟨_, rfl⟩, HK2.out⟩
        | true =>
          go_wp2_with fail
          go_roundw
          case rel => exact ⟨i + 1, by omega, by go_num, HK2⟩
          case measure => simp only [intOf]; omega
      · obtain rfl : i = n := by omega
        go_wp2
        go_ret
        exact ⟨⟨_, rfl⟩, HK.out⟩

set_option maxHeartbeats 1000000 in
theorem zz15_any (N : Nat) (w : World) (r : Value) (lao kao : Option Addr) (nl lc nk kc : Nat) (ls : List Lab) (h : AtL N w (.slice lao nl lc) ls) (hN : N ≤ w.heap.size) : Calls Tryz.prog 11 #[.agg #[r, .slice lao nl lc, .slice kao nk kc]] w fun e w' => (∃ b, e = .returned (.bool b)) ∧ Kept (fun _ _ => False) w w' := by
  have ha := h.kept (w' := w.alloc (.cells #[r, .slice lao nl lc, .slice kao nk kc] 36)) (Kept.alloc (fun _ _ => False) _ _) (fun _ _ _ e => e) hN
  have HZ := Lib.hid (zz10_any N _ lao nl lc ls ha (by rw [World.size_alloc]; omega))
  clear h ha hN
  go_enter Tryz.func11, Tryz.ntmps11
  go_wp2_with fail
  (with_reducible refine HZ.out.mono ?_)
  rintro e w2 ⟨⟨t, rfl⟩, hk⟩
  have hc : w2.cell? ⟨w.heap.size, 2, none⟩ = some (.slice kao nk kc) := (hk.cell _ 2 (by rw [World.size_alloc]; omega) id).trans (by rw [World.cell?_alloc_new]; rfl)
  have HK2 := Lib.hid ((Kept.alloc (fun _ _ => False) w _).trans hk (fun _ _ _ => id))
  clear hk
  cases t with
  | false =>
    go_wp2_with fail
    go_ret
    exact ⟨⟨_, rfl⟩, HK2.out⟩
  | true =>
    by_cases h1 : 2147483647 < nk
    · have d1 : decide ((2147483647 : Int) < (nk : Int)) = true := decide_eq_true (by omega)
      go_wp2_with fail
      go_ret
      exact ⟨⟨_, rfl⟩, HK2.out⟩
    · have d1 : decide ((2147483647 : Int) < (nk : Int)) = false := decide_eq_false (by omega)
      go_wp2_with fail
      go_ret
      exact ⟨⟨_, rfl⟩, HK2.out⟩

set_option maxHeartbeats 1000000 in
theorem zz14_any (N : Nat) (w : World) (ao : Option Addr) (n c : Nat) (xs : List Sr) (h : AtX N w (.slice ao n c) xs) (hN : N ≤ w.heap.size) : Calls Tryz.prog 5 #[.slice ao n c] w fun e w' => (∃ b, e = .returned (.bool b)) ∧ Kept (fun _ _ => False) w w' := by
  have H := Lib.hid h
  have HN := Lib.hid hN
  clear h hN
  go_enter Tryz.func5, Tryz.ntmps5
  by_cases h1 : 2147483647 < n
  · have d1 : decide ((2147483647 : Int) < (n : Int)) = true := decide_eq_true (by omega)
    go_wp2
    go_ret
    exact ⟨⟨_, rfl⟩, Kept.refl _ _⟩
  · have d1 : decide ((2147483647 : Int) < (n : Int)) = false := decide_eq_false (by omega)
    go_wp2
    clear d1
    go_loopw [10] (fun v wr => ∃ i, i ≤ n ∧ v = .int .i64 (i : Nat) ∧ Hid (Kept (fun _ _ => False) w wr)) (fun v _ => n - (intOf v).toNat)
    case atStart => exact ⟨0, Nat.zero_le _, rfl, Lib.hid (Kept.refl _ _)⟩
    case round =>
      obtain ⟨i, hi, rfl, HK⟩ := hrel
      by_cases hlt : i < n
      · obtain ⟨b, o, r, lao, nl, lc, kao, nk, kc, rfl, hc, hc1, hc2, HL, HKK, HE⟩ := H.out.at HN.out HK.out hlt
        have hiI : (i : Int) < n := by omega
        have hN2 : N ≤ wr.heap.size := Nat.le_trans HN.out HK.out.size
        have hl2 := (HL.out.kept HK.out (fun _ _ _ e => e) HN.out).kept (w' := wr.alloc (.cells #[.int .u64 (r : Int), .slice lao nl lc, .slice kao nk kc] 36)) (Kept.alloc (fun _ _ => False) _ _) (fun _ _ _ e => e) hN2
        have HZ := Lib.hid (zz15_any N _ (.int .u64 (r : Int)) lao kao nl lc nk kc _ hl2 (by rw [World.size_alloc]; omega))
        clear hl2 hN2
        go_wp2_with fail
        (with_reducible refine HZ.out.mono ?_)
        rintro e w2 ⟨⟨t, rfl⟩, hk⟩
        have HK2 := Lib.hid ((HK.out.trans (Kept.alloc _ _ _) (fun _ _ _ => id)).trans hk (fun _ _ _ => id))
        clear hk
        cases t with
        | false =>
          go_wp2_with fail
          go_ret
          exact ⟨⟨_, rfl⟩, HK2.out⟩
        | true =>
          go_wp2_with fail
          go_roundw
          case rel => exact ⟨i + 1, by omega, by go_num, HK2⟩
          case measure => simp only [intOf]; omega
      · obtain rfl : i = n := by omega
        go_wp2
        go_ret
        exact ⟨⟨_, rfl⟩, HK.out⟩

set_option maxHeartbeats 1000000 in
theorem wordsFew_any (N : Nat) (w : World) (ao : Option Addr) (n c : Nat) (ss : List ByteArray) (h : AtS N w (.slice ao n c) ss) (hN : N ≤ w.heap.size) (hn : n < 9223372036854775808) : Calls Tryz.prog 6 #[.slice ao n c] w fun e w' => (∃ b, e = .returned (.bool b) ∧ (b = true → SOK ss)) ∧ Kept (fun _ _ => False) w w' := by
  have H := Lib.hid h
  have HN := Lib.hid hN
  clear h hN
  go_enter Tryz.func6, Tryz.ntmps6
  go_wp2
  go_loopw [3] (fun v wr => ∃ i, i ≤ n ∧ v = .int .i64 (i : Nat) ∧ Hid (∀ j, j < i → (ss.getD j ⟨#[]⟩).size ≤ 200) ∧ Hid (Kept (fun _ _ => False) w wr)) (fun v _ => n - (intOf v).toNat)
  case atStart => exact ⟨0, Nat.zero_le _, rfl, Lib.hid (fun j h => by omega), Lib.hid (Kept.refl _ _)⟩
  case round =>
    obtain ⟨i, hi, rfl, HJ, HK⟩ := hrel
    by_cases hlt : i < n
    · obtain ⟨b, o, s, rfl, hc, HE⟩ := H.out.at HN.out HK.out hlt
      have hiI : (i : Int) < n := by omega
      by_cases h2 : 200 < s.size
      · have d2 : decide ((200 : Int) < (s.size : Int)) = true := decide_eq_true (by omega)
        go_wp2_with fail
        go_ret
        exact ⟨⟨_, rfl, by simp⟩, HK.out⟩
      · have d2 : decide ((200 : Int) < (s.size : Int)) = false := decide_eq_false (by omega)
        go_wp2_with fail
        go_roundw
        case rel => exact ⟨i + 1, by omega, by go_num, Lib.hid (fun j hj => by
            by_cases e : j = i
            · rw [e, ← HE.out.1]; omega
            · exact HJ.out j (by omega)), HK⟩
        case measure => simp only [intOf]; omega
    · obtain rfl : i = n := by omega
      have hlen := H.out.len
      have FIN : Hid (i ≤ 200 → SOK ss) := Lib.hid (fun h => ⟨by omega, fun s hs => by
        obtain ⟨j, hj, rfl⟩ := List.getElem_of_mem hs
        have := HJ.out j (by omega)
        rwa [AtS.at.getD_of' hj] at this⟩)
      clear hlen
      by_cases h2 : i ≤ 200
      · have d2 : decide ((i : Int) ≤ 200) = true := decide_eq_true (by omega)
        go_wp2_with fail
        go_ret
        exact ⟨⟨_, rfl, fun _ => FIN.out h2⟩, HK.out⟩
      · have d2 : decide ((i : Int) ≤ 200) = false := decide_eq_false (by omega)
        go_wp2_with fail
        go_ret
        exact ⟨⟨_, rfl, by simp⟩, HK.out⟩

set_option maxHeartbeats 1000000 in
theorem hasWord_any (N : Nat) (w : World) (ao : Option Addr) (n c : Nat) (ss : List ByteArray) (h : AtS N w (.slice ao n c) ss) (hN : N ≤ w.heap.size) (hn : n < 9223372036854775808) (t : ByteArray) : Calls Tryz.prog 27 #[.slice ao n c, .string t] w fun e w' => (∃ b, e = .returned (.bool b) ∧ (b = true ↔ ∃ s ∈ ss, s.data.toList = t.data.toList)) ∧ Kept (fun _ _ => False) w w' := by
  have H := Lib.hid h
  have HN := Lib.hid hN
  clear h hN
  go_enter Tryz.func27, Tryz.ntmps27
  go_wp2
  go_loopw [5] (fun v wr => ∃ i, i ≤ n ∧ v = .int .i64 (i : Nat) ∧ Hid (∀ j, j < i → (ss.getD j ⟨#[]⟩).data.toList ≠ t.data.toList) ∧ Hid (Kept (fun _ _ => False) w wr)) (fun v _ => n - (intOf v).toNat)
  case atStart => exact ⟨0, Nat.zero_le _, rfl, Lib.hid (fun j h => by omega), Lib.hid (Kept.refl _ _)⟩
  case round =>
    obtain ⟨i, hi, rfl, HJ, HK⟩ := hrel
    by_cases hlt : i < n
    · obtain ⟨b, o, s, rfl, hc, HE⟩ := H.out.at HN.out HK.out hlt
      have hiI : (i : Int) < n := by omega
      by_cases h2 : s.data.toList = t.data.toList
      · have d2 : (s.toList == t.toList) = true := by rw [Lib.toList_data, Lib.toList_data]; exact beq_iff_eq.mpr h2
        go_wp2_with fail
        go_ret
        exact ⟨⟨_, rfl, by
          refine ⟨fun _ => ⟨s, ?_, h2⟩, fun _ => rfl⟩
          rw [HE.out.1, AtS.at.getD_of' HE.out.2]; exact List.getElem_mem _⟩, HK.out⟩
      · have d2 : (s.toList == t.toList) = false := by rw [Lib.toList_data, Lib.toList_data]; exact beq_eq_false_iff_ne.mpr h2
        go_wp2_with fail
        go_roundw
        case rel => exact ⟨i + 1, by omega, by go_num, Lib.hid (fun j hj => by
            by_cases e : j = i
            · rw [e, ← HE.out.1]; exact h2
            · exact HJ.out j (by omega)), HK⟩
        case measure => simp only [intOf]; omega
    · obtain rfl : i = n := by omega
      have hlen := Lib.hid H.out.len
      go_wp2_with fail
      go_ret
      refine ⟨⟨_, rfl, ⟨by simp, ?_⟩⟩, HK.out⟩
      rintro ⟨s, hs, e⟩
      obtain ⟨j, hj, rfl⟩ := List.getElem_of_mem hs
      have := HJ.out j (by have := hlen.out; omega)
      rw [AtS.at.getD_of' hj] at this
      exact absurd e this

end Go.Proofs.YtfipfoplmopkaaaGreatDoor

namespace Go.Proofs.YtfipfoplmopkaaaGreatDoor
open Go.RowKit Go.Maps

theorem toList_nil {x : ByteArray} (h : x.size = 0) : x.toList = [] := by
  rw [Lib.toList_data]
  exact List.eq_nil_of_length_eq_zero ((Array.length_toList).trans h)

theorem lt3 {a b : List UInt8} (hA : ¬ a < b) (hB : a ≠ b) : b < a := by
  rcases List.le_iff_lt_or_eq.mp (List.not_lt.mp hA) with h | h
  · exact h
  · exact absurd h.symm hB
theorem lt_of_bytes {x y : ByteArray} (hA : Op.bytesLess x.toList y.toList = false) (hB : (x.toList == y.toList) = false) : y.data.toList < x.data.toList := by
  rw [bytesLess_eq, Lib.toList_data, Lib.toList_data] at hA
  rw [Lib.toList_data, Lib.toList_data] at hB
  exact lt3 (by simpa using hA) (by simpa using hB)

/-- What short, Proper let by. -/
def ShortP (ls : List Lab) : Prop := ∀ j, j < ls.length → (ls.getD j default).1.size ≤ 200 ∧ (ls.getD j default).2.size ≤ 200
def ProperP (ls : List Lab) : Prop := ∀ j, j < ls.length → (ls.getD j default).1.size ≠ 0 ∧ (ls.getD j default).2.size ≠ 0 ∧ (0 < j → (ls.getD (j - 1) default).1.data.toList < (ls.getD j default).1.data.toList)
theorem nil_size {x : ByteArray} (h : x.toList = []) : x.size = 0 := by
  rw [Lib.toList_data] at h
  have := congrArg List.length h
  rwa [Array.length_toList] at this
theorem asym3 {a b : List UInt8} (h : a < b) : ¬ b < a := fun h2 => List.lt_irrefl _ (List.lt_trans h h2)

set_option maxHeartbeats 1000000 in
theorem short_any (N : Nat) (w : World) (ao : Option Addr) (n c : Nat) (ls : List Lab) (h : AtL N w (.slice ao n c) ls) (hN : N ≤ w.heap.size) (hn : n < 9223372036854775808) : Calls Tryz.prog 13 #[.slice ao n c] w fun e w' => (∃ b, e = .returned (.bool b) ∧ (b = true ↔ ShortP ls)) ∧ Kept (fun _ _ => False) w w' := by
  have H := Lib.hid h
  have HN := Lib.hid hN
  clear h hN
  go_enter Tryz.func13, Tryz.ntmps13
  go_wp2
  go_loopw [3] (fun v wr => ∃ i, i ≤ n ∧ v = .int .i64 (i : Nat) ∧ Hid (∀ j, j < i → (ls.getD j default).1.size ≤ 200 ∧ (ls.getD j default).2.size ≤ 200) ∧ Hid (Kept (fun _ _ => False) w wr)) (fun v _ => n - (intOf v).toNat)
  case atStart => exact ⟨0, Nat.zero_le _, rfl, Lib.hid (fun j h => by omega), Lib.hid (Kept.refl _ _)⟩
  case round =>
    obtain ⟨i, hi, rfl, HJ, HK⟩ := hrel
    by_cases hlt : i < n
    · obtain ⟨b, o, x, y, rfl, hc, hc2, HE⟩ := H.out.at HN.out HK.out hlt
      have hiI : (i : Int) < n := by omega
      by_cases h2 : 200 < x.size
      · have d2 : decide ((200 : Int) < (x.size : Int)) = true := decide_eq_true (by omega)
        go_wp2_with fail
        go_ret
        exact ⟨⟨_, rfl, by simp, fun h => by
          have h9 := (h i HE.out.2).1
          rw [← HE.out.1] at h9
          have h9' : x.size ≤ 200 := h9
          omega⟩, HK.out⟩
      · have d2 : decide ((200 : Int) < (x.size : Int)) = false := decide_eq_false (by omega)
        by_cases h3 : 200 < y.size
        · have d3 : decide ((200 : Int) < (y.size : Int)) = true := decide_eq_true (by omega)
          go_wp2_with fail
          go_ret
          exact ⟨⟨_, rfl, by simp, fun h => by
            have h9 := (h i HE.out.2).2
            rw [← HE.out.1] at h9
            have h9' : y.size ≤ 200 := h9
            omega⟩, HK.out⟩
        · have d3 : decide ((200 : Int) < (y.size : Int)) = false := decide_eq_false (by omega)
          go_wp2_with fail
          go_roundw
          case rel => exact ⟨i + 1, by omega, by go_num, Lib.hid (fun j hj => by
              by_cases e : j = i
              · rw [e, ← HE.out.1]; exact ⟨by show x.size ≤ 200; omega, by show y.size ≤ 200; omega⟩
              · exact HJ.out j (by omega)), HK⟩
          case measure => simp only [intOf]; omega
    · obtain rfl : i = n := by omega
      have hlen := Lib.hid H.out.len
      go_wp2_with fail
      go_ret
      exact ⟨⟨_, rfl, fun _ j hj => HJ.out j (by have := hlen.out; omega), fun _ => rfl⟩, HK.out⟩

set_option maxRecDepth 100000 in
set_option maxHeartbeats 1000000 in
theorem proper_any (N : Nat) (w : World) (ao : Option Addr) (n c : Nat) (ls : List Lab) (h : AtL N w (.slice ao n c) ls) (hN : N ≤ w.heap.size) (hn : n < 9223372036854775808) : Calls Tryz.prog 14 #[.slice ao n c] w fun e w' => (∃ b, e = .returned (.bool b) ∧ (b = true ↔ ProperP ls)) ∧ Kept (fun _ _ => False) w w' := by
  have H := Lib.hid h
  have HN := Lib.hid hN
  clear h hN
  go_enter Tryz.func14, Tryz.ntmps14
  go_wp2
  go_loopw [3] (fun v wr => ∃ i, i ≤ n ∧ v = .int .i64 (i : Nat) ∧ Hid (∀ j, j < i → (ls.getD j default).1.size ≠ 0 ∧ (ls.getD j default).2.size ≠ 0 ∧ (0 < j → (ls.getD (j - 1) default).1.data.toList < (ls.getD j default).1.data.toList)) ∧ Hid (Kept (fun _ _ => False) w wr)) (fun v _ => n - (intOf v).toNat)
  case atStart => exact ⟨0, Nat.zero_le _, rfl, Lib.hid (fun j h => by omega), Lib.hid (Kept.refl _ _)⟩
  case round =>
    obtain ⟨i, hi, rfl, HJ, HK⟩ := hrel
    by_cases hlt : i < n
    · obtain ⟨b, o, x, y, rfl, hc, hc2, HE⟩ := H.out.at HN.out HK.out hlt
      have hiI : (i : Int) < n := by omega
      by_cases h2 : x.toList = ([] : List UInt8)
      · have d2 : (x.toList == ([] : List UInt8)) = true := beq_iff_eq.mpr h2
        have hx := Lib.hid (nil_size h2)
        clear h2
        go_wp2
        repeat (go_quiet (fail); try go_wp2)
        go_ret
        exact ⟨⟨_, rfl, by simp, fun h => by have h9 := (h i HE.out.2).1; rw [← HE.out.1] at h9; exact absurd hx.out h9⟩, HK.out.trans (Kept.drewN _ _ _) (fun _ _ _ => id)⟩
      · have d2 : (x.toList == ([] : List UInt8)) = false := beq_eq_false_iff_ne.mpr h2
        have hx := Lib.hid h2
        clear h2
        by_cases h3 : y.toList = ([] : List UInt8)
        · have d3 : (y.toList == ([] : List UInt8)) = true := beq_iff_eq.mpr h3
          have hy := Lib.hid (nil_size h3)
          clear h3
          go_wp2
          repeat (go_quiet (fail); try go_wp2)
          go_ret
          exact ⟨⟨_, rfl, by simp, fun h => by have h9 := (h i HE.out.2).2.1; rw [← HE.out.1] at h9; exact absurd hy.out h9⟩, HK.out.trans (Kept.drewN _ _ _) (fun _ _ _ => id)⟩
        · have d3 : (y.toList == ([] : List UInt8)) = false := beq_eq_false_iff_ne.mpr h3
          have hy := Lib.hid h3
          clear h3
          by_cases h0 : i = 0
          · have d4 : decide (0 < i) = false := decide_eq_false (by omega)
            have h0' := Lib.hid h0
            clear h0
            go_wp2
            repeat (go_quiet (fail); try go_wp2)
            go_roundw
            case rel => exact ⟨i + 1, by omega, by go_num, Lib.hid (fun j hj => by
              have := h0'.out
              obtain rfl : j = i := by omega
              rw [← HE.out.1]; exact ⟨fun e => hx.out (toList_nil e), fun e => hy.out (toList_nil e), fun h => by omega⟩), Lib.hid (HK.out.trans (Kept.drewN _ _ _) (fun _ _ _ => id))⟩
            case measure => simp only [intOf]; omega
          · obtain ⟨p, hp⟩ : ∃ p, i = p + 1 := ⟨i - 1, by omega⟩
            obtain ⟨b', o', x', y', he, hc', hc2', HE'⟩ := H.out.at HN.out HK.out (show p < n by omega)
            cases he
            have d4 : decide (0 < i) = true := decide_eq_true (by omega)
            have d5 : IntKind.i64.wrap ((i : Int) - 1) = (p : Int) := by rw [show (i : Int) - 1 = p by omega]; exact IntWalk.i64_in _ (by omega)
            have d6 : (p : Int) < n := by omega
            have HPI := Lib.hid hp
            clear hp h0
            by_cases hA : Op.bytesLess x.toList x'.toList = true
            · have hlt' : Hid (x.data.toList < x'.data.toList) := Lib.hid (by
                have := hA
                rw [bytesLess_eq, Lib.toList_data, Lib.toList_data] at this
                simpa using this)
              go_wp2
              repeat (go_quiet (fail); try go_wp2)
              go_ret
              exact ⟨⟨_, rfl, by simp, fun h => by have h9 := (h i HE.out.2).2.2 (by have := HPI.out; omega); rw [← HE.out.1, show i - 1 = p by have := HPI.out; omega, ← HE'.out.1] at h9; exact (asym3 hlt'.out h9).elim⟩, HK.out.trans (Kept.drewN _ _ _) (fun _ _ _ => id)⟩
            · have hA' : Op.bytesLess x.toList x'.toList = false := by simpa using hA
              clear hA
              by_cases hB : (x.toList == x'.toList) = true
              · have hlt' : Hid (x.data.toList = x'.data.toList) := Lib.hid (by
                  have := hB
                  rw [Lib.toList_data, Lib.toList_data] at this
                  simpa using this)
                go_wp2
                repeat (go_quiet (fail); try go_wp2)
                go_ret
                exact ⟨⟨_, rfl, by simp, fun h => by have h9 := (h i HE.out.2).2.2 (by have := HPI.out; omega); rw [← HE.out.1, show i - 1 = p by have := HPI.out; omega, ← HE'.out.1] at h9; have h8 : x'.data.toList < x.data.toList := h9; rw [hlt'.out] at h8; exact (List.lt_irrefl _ h8).elim⟩, HK.out.trans (Kept.drewN _ _ _) (fun _ _ _ => id)⟩
              · have hB' : (x.toList == x'.toList) = false := by simpa using hB
                clear hB
                have hlt' : Hid (x'.data.toList < x.data.toList) := Lib.hid (lt_of_bytes hA' hB')
                go_wp2
                repeat (go_quiet (fail); try go_wp2)
                go_roundw
                case rel => exact ⟨i + 1, by omega, by go_num, Lib.hid (fun j hj => by
                  by_cases e : j = i
                  · rw [e, ← HE.out.1, show i - 1 = p by have := HPI.out; omega, ← HE'.out.1]; exact ⟨fun e => hx.out (toList_nil e), fun e => hy.out (toList_nil e), fun _ => hlt'.out⟩
                  · exact HJ.out j (by omega)), Lib.hid (HK.out.trans (Kept.drewN _ _ _) (fun _ _ _ => id))⟩
                case measure => simp only [intOf]; omega
    · obtain rfl : i = n := by omega
      have hlen := Lib.hid H.out.len
      go_wp2_with fail
      go_ret
      exact ⟨⟨_, rfl, fun _ j hj => HJ.out j (by have := hlen.out; omega), fun _ => rfl⟩, HK.out⟩

end Go.Proofs.YtfipfoplmopkaaaGreatDoor
