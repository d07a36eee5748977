/- The postings at hand: a map of maps of slices of numbers, all in blocks of the call's own. No condition. The bytes of the series in the main file. No condition. writePostingsToTmpFiles: what it keeps. Conditions: bounds on lengths. -/
import Derived.Test.YtfipfoplmopkaaaGreatDoorZ26
import Derived.Test.YtfipfoplmopkaaaGreatDoorZ16
import Derived.Sort.OwnSorted
import Derived.Sort.KeysCollected

namespace Go.Proofs.YtfipfoplmopkaaaGreatDoor
open Go.RowKit Go.Maps

/-- Whose is a block: (1, 0, 0): the outer map; (2, a, 0): the map at a; (3, a, c): the slice at a and c; (0, ..): nobody of these. -/
abbrev Ow := Nat → Nat × Nat × Nat
def Oe (O O' : Ow) : Prop := ∀ g, (O g).1 ≠ 0 → O' g = O g
theorem Oe.refl (O : Ow) : Oe O O := fun _ _ => rfl

/-- The slice at a and c. -/
def SVp (w : World) (O : Ow) (k a c : Nat) (v : Value) : Prop :=
  ∃ xs : List Nat, w.ownsRow 0 94 1 v xs.length (xs.map u32V) ∧ xs.length ≤ k ∧ (∀ x ∈ xs, x < 4294967296) ∧ ∀ g, v.ownBlock = some g → O g = (3, a, c)
theorem SVp.nil (w : World) (O : Ow) (k a c : Nat) : SVp w O k a c (.slice none 0 0) := ⟨[], World.ownsRow_nil _ _ _ _, Nat.zero_le _, (fun _ h => by cases h), (fun g e => by cases e)⟩
theorem SVp.kept {w w' : World} {O O' : Ow} {k k' a c : Nat} {v : Value} {P : Nat → Nat → Prop} (h : SVp w O k a c v) (hk : Kept P w w') (hP : ∀ g, O g = (3, a, c) → ∀ o, ¬ P g o) (hO : Oe O O') (hkk : k ≤ k') : SVp w' O' k' a c v := by
  obtain ⟨xs, h1, h2, h3, h4⟩ := h
  refine ⟨xs, ownsRow_block h1 (fun g e => hk.block g (h1.lt g e).2 (hP g (h4 g e))), Nat.le_trans h2 hkk, h3, fun g e => ?_⟩
  rw [hO g (by rw [h4 g e]; simp)]
  exact h4 g e

/-- The map at a. -/
def IMp (w : World) (O : Ow) (cnt k a : Nat) (v : Value) : Prop := ∃ mb, v = .map (some mb) ∧ O mb = (2, a, 0) ∧ RM w mb k (fun c x => c < cnt ∧ SVp w O k a c x)
theorem IMp.kept {w w' : World} {O O' : Ow} {cnt k k' a : Nat} {v : Value} {P : Nat → Nat → Prop} (h : IMp w O cnt k a v) (hk : Kept P w w') (hP : ∀ g, (O g).1 = 2 ∨ (O g).1 = 3 → (O g).2.1 = a → ∀ o, ¬ P g o) (hO : Oe O O') (hkk : k ≤ k') : IMp w' O' cnt k' a v := by
  obtain ⟨mb, rfl, h1, h2⟩ := h
  refine ⟨mb, rfl, (hO mb (by rw [h1]; simp)).trans h1, (h2.kept hk (hP mb (by rw [h1]; simp) (by rw [h1]))).imp hkk (fun c x ⟨hc, hx⟩ => ⟨hc, hx.kept hk (fun g e => hP g (by rw [e]; simp) (by rw [e])) hO hkk⟩)⟩

/-- The postings: the outer map in block ob; numbers of values below cnt; at most k entries anywhere; all its blocks have A. -/
structure PM (w : World) (O : Ow) (A : Nat → Prop) (cnt ko k ob : Nat) : Prop where
  o : O ob = (1, 0, 0)
  m : RM w ob ko (fun a v => IMp w O cnt k a v)
  a : ∀ g, (O g).1 ≠ 0 → g < w.heap.size ∧ A g

theorem PM.kept {w w' : World} {O : Ow} {A B : Nat → Prop} {cnt ko ko' k k' ob : Nat} {P : Nat → Nat → Prop} (h : PM w O A cnt ko k ob) (hk : Kept P w w') (hP : ∀ g, (O g).1 ≠ 0 → ∀ o, ¬ P g o) (hko : ko ≤ ko') (hkk : k ≤ k') (hB : ∀ g, g < w.heap.size → A g → B g) : PM w' O B cnt ko' k' ob :=
  ⟨h.o, (h.m.kept hk (hP ob (by rw [h.o]; simp))).imp hko (fun a v hv => hv.kept hk (fun g h1 _ => hP g (by omega)) (Oe.refl O) hkk), fun g hg => ⟨Nat.lt_of_lt_of_le (h.a g hg).1 hk.size, hB g (h.a g hg).1 (h.a g hg).2⟩⟩

/-- The empty postings. -/
theorem PM.made (w : World) (A : Nat → Prop) (cnt : Nat) (hA : A w.heap.size) : PM (w.alloc (.map #[] 0)) (fun g => if g = w.heap.size then (1, 0, 0) else (0, 0, 0)) A cnt 0 0 w.heap.size :=
  ⟨if_pos rfl, RM.made _ _, fun g hg => by
    by_cases e : g = w.heap.size
    · rw [e]; exact ⟨by simp, hA⟩
    · rw [if_neg e] at hg; exact absurd rfl hg⟩

/-- What steps on the postings touch. -/
def pmP (O : Ow) (g _o : Nat) : Prop := (O g).1 ≠ 0

/-- The postings, with the map at a at hand. -/
structure PMa (w : World) (O : Ow) (A : Nat → Prop) (cnt ko k ob a mb : Nat) : Prop where
  p : PM w O A cnt ko k ob
  m : RM w ob ko (fun c x => IMp w O cnt k c x ∧ (c = a → x = .map (some mb)))
  o : O mb = (2, a, 0)
  i : RM w mb k (fun c x => c < cnt ∧ SVp w O k a c x)
  r : RA w ob a (.map (some mb))

theorem PMa.kept {w w' : World} {O : Ow} {A B : Nat → Prop} {cnt ko k ob a mb : Nat} {P : Nat → Nat → Prop} (h : PMa w O A cnt ko k ob a mb) (hk : Kept P w w') (hP : ∀ g, (O g).1 ≠ 0 → ∀ o, ¬ P g o) (hB : ∀ g, g < w.heap.size → A g → B g) : PMa w' O B cnt ko k ob a mb :=
  ⟨h.p.kept hk hP (Nat.le_refl _) (Nat.le_refl _) hB, (h.m.kept hk (hP ob (by rw [h.p.o]; simp))).imp (Nat.le_refl _) (fun c v hv => ⟨hv.1.kept hk (fun g h1 _ => hP g (by omega)) (Oe.refl O) (Nat.le_refl _), hv.2⟩), h.o,
    (h.i.kept hk (hP mb (by rw [h.o]; simp))).imp (Nat.le_refl _) (fun c x hx => ⟨hx.1, hx.2.kept hk (fun g e => hP g (by rw [e]; simp)) (Oe.refl O) (Nat.le_refl _)⟩), h.r.blk (hk.block ob h.m.lt (hP ob (by rw [h.p.o]; simp)))⟩

/-- postings[a]. -/
theorem PM.look {w : World} {O : Ow} {A : Nat → Prop} {cnt ko k ob a : Nat} (h : PM w O A cnt ko k ob) {t e : TypeId} (ht : Tryz.prog.underlying t = some (.map 94 e)) (hz : ∀ w, (zeroValue e).run Tryz.prog w = .ok (.map none) w) (ha : a < 4294967296) :
    ∃ (ok : Bool) (v : Value), (Instr.lookup t (.map (some ob)) (.int .u32 (a : Int)) true).run Tryz.prog w = .ok (.tuple #[v, .bool ok]) w ∧ (∀ W : World, W.heap[ob]? = w.heap[ob]? → (Instr.lookup t (.map (some ob)) (.int .u32 (a : Int)) false).run Tryz.prog W = .ok v W) ∧ ((ok = true ∧ ∃ mb, v = .map (some mb) ∧ PMa w O A cnt ko k ob a mb) ∨ (ok = false ∧ v = .map none)) := by
  obtain ⟨ok, v, h1, h2, h3⟩ := h.m.look ht hz ha
  refine ⟨ok, v, h1, h2, ?_⟩
  rcases h3 with ⟨rfl, ⟨mb, rfl, h4, h5⟩, h6, h7⟩ | ⟨rfl, rfl⟩
  · exact .inl ⟨rfl, mb, rfl, h, h6, h4, h5, h7⟩
  · exact .inr ⟨rfl, rfl⟩

/-- postings[a], once more, in whatever world that has left the outer map alone. -/
theorem PMa.outer {w W : World} {O : Ow} {A : Nat → Prop} {cnt ko k ob a mb : Nat} (h : PMa w O A cnt ko k ob a mb) {t e : TypeId} (ht : Tryz.prog.underlying t = some (.map 94 e)) {z : Value} (hz : ∀ w, (zeroValue e).run Tryz.prog w = .ok z w) (ha : a < 4294967296) (hW : W.heap[ob]? = w.heap[ob]?) :
    (Instr.lookup t (.map (some ob)) (.int .u32 (a : Int)) false).run Tryz.prog W = .ok (.map (some mb)) W := (h.r.blk hW).look ht (hz W) ha

/-- postings[a][c]. -/
theorem PMa.look {w : World} {O : Ow} {A : Nat → Prop} {cnt ko k ob a mb c : Nat} (h : PMa w O A cnt ko k ob a mb) {t e : TypeId} (ht : Tryz.prog.underlying t = some (.map 94 e)) (hz : ∀ w, (zeroValue e).run Tryz.prog w = .ok (.slice none 0 0) w) (hc : c < 4294967296) :
    ∃ v : Value, (∀ W : World, W.heap[mb]? = w.heap[mb]? → (Instr.lookup t (.map (some mb)) (.int .u32 (c : Int)) false).run Tryz.prog W = .ok v W) ∧ SVp w O k a c v := by
  obtain ⟨ok, v, _, h2, h3⟩ := h.i.look ht hz hc
  refine ⟨v, h2, ?_⟩
  rcases h3 with ⟨_, ⟨_, h4⟩, _⟩ | ⟨_, rfl⟩
  · exact h4
  · exact SVp.nil _ _ _ _ _

theorem kept_size {P : Nat → Nat → Prop} {w w' : World} (h : Kept P w w') : w.heap.size ≤ w'.heap.size := h.size

/-- postings[a] = map{}, behind the new map in block mb. -/
theorem PM.newmap {w : World} {O : Ow} {A : Nat → Prop} {cnt ko k ob mb a : Nat} (h : PM w O A cnt ko k ob) {t e : TypeId} (ht : Tryz.prog.underlying t = some (.map 94 e)) (hk : ko < 1000000000) (ha : a < 4294967296) (hm : RM w mb 0 (fun _ _ => False)) (hO : (O mb).1 = 0) (hA : A mb) :
    ∃ w' O', (Instr.mapUpdate t (.map (some ob)) (.int .u32 (a : Int)) (.map (some mb))).run Tryz.prog w = .ok () w' ∧ PMa w' O' A cnt (ko + 1) k ob a mb ∧ Kept (pmP O) w w' := by
  obtain ⟨w', h1, h2, h3, hra⟩ := h.m.put ht (by unfold maxLen; omega) ha (.map (some mb))
  have hne : ob ≠ mb := fun e => by rw [← e, h.o] at hO; cases hO
  have hOe : Oe O (fun g => if g = mb then (2, a, 0) else O g) := fun g hg => if_neg (fun e => by rw [e] at hg; exact hg hO)
  have hi : RM w' mb k (fun c x => c < cnt ∧ SVp w' (fun g => if g = mb then (2, a, 0) else O g) k a c x) := (hm.kept h3 (fun o e => hne e.symm)).imp (Nat.zero_le _) (fun _ _ h => h.elim)
  have hmm : RM w' ob (ko + 1) (fun c x => IMp w' (fun g => if g = mb then (2, a, 0) else O g) cnt k c x ∧ (c = a → x = .map (some mb))) := by
    refine h2.imp (Nat.le_refl _) (fun c v hv => ?_)
    by_cases e : c = a
    · subst e
      rw [if_pos rfl] at hv
      subst hv
      exact ⟨⟨mb, rfl, if_pos rfl, hi⟩, fun _ => rfl⟩
    · rw [if_neg e] at hv
      exact ⟨hv.kept h3 (fun g h0 _ o e' => by rw [e', h.o] at h0; rcases h0 with h0 | h0 <;> cases h0) hOe (Nat.le_refl _), fun e' => absurd e' e⟩
  refine ⟨w', _, h1, ⟨⟨?_, hmm.imp (Nat.le_refl _) (fun _ _ h => h.1), fun g hg => ?_⟩, hmm, if_pos rfl, hi, hra⟩, h3.mono (fun i o _ e => by rw [e]; unfold pmP; rw [h.o]; simp)⟩
  · show (if ob = mb then _ else _) = _
    rw [if_neg hne]; exact h.o
  · by_cases e : g = mb
    · rw [e]; exact ⟨Nat.lt_of_lt_of_le hm.lt h3.size, hA⟩
    · simp only [if_neg e] at hg
      exact ⟨Nat.lt_of_lt_of_le (h.a g hg).1 h3.size, (h.a g hg).2⟩

/-- postings[a][c] = append(postings[a][c], x), behind the append. -/
theorem PMa.push {w w1 w2 : World} {O : Ow} {A B : Nat → Prop} {cnt ko k ob a mb c n x : Nat} {v v' : Value} {xs : List Nat} (h : PMa w O A cnt ko k ob a mb) {t e : TypeId} (ht : Tryz.prog.underlying t = some (.map 94 e)) (hk : k < 1000000000) (hc : c < cnt) (hc9 : c < 4294967296)
    (h1 : w.ownsRow 0 94 1 v xs.length (xs.map u32V)) (h2 : xs.length ≤ k) (h3 : ∀ y ∈ xs, y < 4294967296) (h4 : ∀ g, v.ownBlock = some g → O g = (3, a, c)) (ka : Kept (fun _ _ => False) w w1) (hn : n = xs.length) (hx : x < 4294967296)
    (ha : App w1 w2 94 1 v v' (n + 1) (xs.map u32V ++ [.int .u32 x])) (hA : ∀ g, g < w.heap.size → A g → B g) (hB : ∀ g, w.heap.size ≤ g → B g) :
    ∃ w3 O', (Instr.mapUpdate t (.map (some mb)) (.int .u32 (c : Int)) v').run Tryz.prog w2 = .ok () w3 ∧ PM w3 O' B cnt ko (k + 1) ob ∧ Kept (pmP O) w w3 := by
  subst hn
  have hrow := ownsRow_block h1 (w' := w1) (fun g e => ka.block g (h1.lt g e).2 (fun _ => id))
  have k2 : Kept (fun g _ => v.ownBlock = some g) w w2 := (ka.mono (Q := fun g _ => v.ownBlock = some g) (fun _ _ _ => False.elim)).trans (ha.kept hrow) (fun _ _ _ h => h)
  obtain ⟨O', hO'⟩ : ∃ O' : Ow, O' = fun g => if v'.ownBlock = some g then (3, a, c) else O g := ⟨_, rfl⟩
  have hnew : ∀ g, v'.ownBlock = some g → O g = (3, a, c) ∨ (w.heap.size ≤ g ∧ (O g).1 = 0) := fun g e => by
    rcases ha.mv with h5 | ⟨g2, h5, hg⟩
    · exact .inl (h4 g (h5.symm.trans e))
    · obtain rfl : g2 = g := Option.some.inj (h5.symm.trans e)
      have hg' : w.heap.size ≤ g2 := Nat.le_trans ka.size hg
      refine .inr ⟨hg', ?_⟩
      cases h6 : (O g2).1 with
      | zero => rfl
      | succ m => have := (h.p.a g2 (by rw [h6]; exact Nat.succ_ne_zero _)).1; omega
  have hOe : Oe O O' := fun g hg => by
    rw [hO']
    by_cases e : v'.ownBlock = some g
    · simp only [if_pos e]
      rcases hnew g e with h5 | ⟨_, h5⟩
      · exact h5.symm
      · exact absurd h5 hg
    · simp only [if_neg e]
  have hno : ∀ g, (O g ≠ (3, a, c)) → ∀ o : Nat, ¬ (v.ownBlock = some g) := fun g hg _ e => hg (h4 g e)
  -- the inner map, behind the append
  have hi2 := h.i.kept k2 (hno mb (by rw [h.o]; simp))
  obtain ⟨w3, r1, r2, r3, _⟩ := hi2.put ht (by unfold maxLen; omega) hc9 v'
  have k3 : Kept (fun g _ => v.ownBlock = some g ∨ g = mb) w w3 := (k2.mono (Q := fun g _ => v.ownBlock = some g ∨ g = mb) (fun _ _ _ e => .inl e)).trans (r3.mono (Q := fun g _ => v.ownBlock = some g ∨ g = mb) (fun _ _ _ e => .inr e)) (fun _ _ _ h => h)
  have hkeep : ∀ g, O g ≠ (3, a, c) → g ≠ mb → ∀ o : Nat, ¬ (v.ownBlock = some g ∨ g = mb) := fun g h5 h6 o e => by
    rcases e with e | e
    · exact h5 (h4 g e)
    · exact h6 e
  have hown : w3.ownsRow 0 94 1 v' (xs ++ [x]).length ((xs ++ [x]).map u32V) := by
    have h5 : w2.ownsRow 0 94 1 v' (xs ++ [x]).length ((xs ++ [x]).map u32V) := by
      have := ha.own
      simpa [u32V] using this
    refine ownsRow_block h5 (fun g e => r3.block g (h5.lt g e).2 (fun _ e' => ?_))
    rcases hnew g e with h6 | ⟨h6, _⟩
    · rw [e', h.o] at h6; cases h6
    · have := h.i.lt; omega
  have hi : RM w3 mb (k + 1) (fun d y => d < cnt ∧ SVp w3 O' (k + 1) a d y) := by
    refine r2.imp (Nat.le_refl _) (fun d y hd => ?_)
    by_cases e : d = c
    · subst e
      rw [if_pos rfl] at hd
      subst hd
      refine ⟨hc, xs ++ [x], hown, by simp; omega, fun y hy => ?_, fun g e => by rw [hO']; exact if_pos e⟩
      rcases List.mem_append.1 hy with hy | hy
      · exact h3 y hy
      · obtain rfl := List.mem_singleton.1 hy; exact hx
    · rw [if_neg e] at hd
      refine ⟨hd.1, hd.2.kept k3 (fun g eg => hkeep g (by rw [eg]; intro e'; cases e'; exact e rfl) (fun e' => by rw [e', h.o] at eg; cases eg)) hOe (Nat.le_succ _)⟩
  have hobmb : ob ≠ mb := fun e => by have := h.p.o; rw [e, h.o] at this; cases this
  have hmm : RM w3 ob ko (fun d y => IMp w3 O' cnt (k + 1) d y) := by
    refine (h.m.kept k3 (hkeep ob (by rw [h.p.o]; simp) hobmb)).imp (Nat.le_refl _) (fun d y hd => ?_)
    by_cases e : d = a
    · rw [hd.2 e, e]
      exact ⟨mb, rfl, (hOe mb (by rw [h.o]; simp)).trans h.o, hi⟩
    · exact hd.1.kept k3 (fun g _ h6 => hkeep g (fun e' => e (by rw [e'] at h6; exact h6.symm)) (fun e' => e (by rw [e', h.o] at h6; exact h6.symm))) hOe (Nat.le_succ _)
  refine ⟨w3, O', r1, ⟨(hOe ob (by rw [h.p.o]; simp)).trans h.p.o, hmm, fun g hg => ?_⟩, k3.mono (fun i o _ e => ?_)⟩
  · by_cases e : v'.ownBlock = some g
    · have hlt := (hown.lt g e).2
      refine ⟨hlt, ?_⟩
      rcases hnew g e with h5 | ⟨h5, _⟩
      · have := h.p.a g (by rw [h5]; simp); exact hA g this.1 this.2
      · exact hB g h5
    · rw [hO'] at hg
      simp only [if_neg e] at hg
      exact ⟨Nat.lt_of_lt_of_le (h.p.a g hg).1 k3.size, hA g (h.p.a g hg).1 (h.p.a g hg).2⟩
  · unfold pmP
    rcases e with e | e
    · rw [h4 i e]; simp
    · rw [e, h.o]; simp

end Go.Proofs.YtfipfoplmopkaaaGreatDoor

namespace Go.Proofs.YtfipfoplmopkaaaGreatDoor
open Go.RowKit Go.Maps

/-- A series: the numbers of its labels' words; what stands behind them; the sum. -/
structure Se where
  ps : List (Nat × Nat)
  tl : List UInt8
  sm : List UInt8
def pairB (p : Nat × Nat) : List UInt8 := Lib.uvarint p.1 ++ Lib.uvarint p.2
def pairsB (l : List (Nat × Nat)) : List UInt8 := (l.map pairB).flatten
theorem pairsB_cons (p : Nat × Nat) (l : List (Nat × Nat)) : pairsB (p :: l) = Lib.uvarint p.1 ++ (Lib.uvarint p.2 ++ pairsB l) := by simp [pairsB, pairB]
theorem pairsB_drop {l : List (Nat × Nat)} {i : Nat} (h : i < l.length) : pairsB (l.drop i) = Lib.uvarint l[i].1 ++ (Lib.uvarint l[i].2 ++ pairsB (l.drop (i + 1))) := by
  rw [List.drop_eq_getElem_cons h, pairsB_cons]
def Se.c (s : Se) : List UInt8 := Lib.uvarint s.ps.length ++ (pairsB s.ps ++ s.tl)
def Se.d (s : Se) : List UInt8 := Lib.uvarint s.c.length ++ (s.c ++ s.sm)
/-- The series, from the place p on. -/
def serBs : Nat → List Se → List UInt8
  | _, [] => []
  | p, s :: r => zeros (padN p 16) ++ (s.d ++ serBs (p + padN p 16 + s.d.length) r)

/-- What is asked of a series: numbers of words below n. -/
structure Se.ok (n : Nat) (s : Se) : Prop where
  p : ∀ q ∈ s.ps, q.1 < n ∧ q.2 < n
  l : s.ps.length < 1000000
  c : s.c.length < 100000000
  s4 : s.sm.length = 4

theorem Se.c_pos (s : Se) : 1 ≤ s.c.length := by
  have := Lib.uvarint_pos s.ps.length
  simp [Se.c]; omega
theorem Se.d_pos (s : Se) : 1 ≤ s.d.length := by
  have := Lib.uvarint_pos s.c.length
  simp [Se.d]; omega

theorem uv_head {x : Nat} (h : 1 ≤ x) : ∃ (u : UInt8) (r : List UInt8), Lib.uvarint x = u :: r ∧ u ≠ 0 := by
  by_cases h1 : x < 128
  · refine ⟨x.toUInt8, [], Lib.uvarint_small h1, fun e => ?_⟩
    have := congrArg UInt8.toNat e
    simp [Nat.toUInt8] at this
    omega
  · refine ⟨(x % 128 + 128).toUInt8, Lib.uvarint (x / 128), Lib.uvarint_big (by omega), fun e => ?_⟩
    have := congrArg UInt8.toNat e
    simp [Nat.toUInt8] at this
    omega
/-- The first byte of a series is not nought. -/
theorem Se.head (s : Se) (t : List UInt8) : ∃ (u : UInt8) (r : List UInt8), s.d ++ t = u :: r ∧ u ≠ 0 := by
  obtain ⟨u, r, h, hu⟩ := uv_head s.c_pos
  exact ⟨u, r ++ (s.c ++ s.sm) ++ t, by simp [Se.d, h], hu⟩

theorem padN_mod (p : Nat) : (p + padN p 16) % 16 = 0 := by unfold padN; omega

theorem serBs_snoc (s : Se) : ∀ (l : List Se) (p : Nat), serBs p (l ++ [s]) = serBs p l ++ (zeros (padN (p + (serBs p l).length) 16) ++ s.d)
  | [], p => by simp [serBs]
  | x :: r, p => by
    have ih := serBs_snoc s r (p + padN p 16 + x.d.length)
    simp only [List.cons_append, serBs, ih, List.append_assoc, List.length_append, zeros_len]
    rw [show p + (padN p 16 + (x.d.length + (serBs (p + padN p 16 + x.d.length) r).length)) = p + padN p 16 + x.d.length + (serBs (p + padN p 16 + x.d.length) r).length by omega]

/-- The number of all labels. -/
def seN (l : List Se) : Nat := (l.map fun s => s.ps.length).sum
theorem seN_drop {l : List Se} {j : Nat} (h : j < l.length) : seN (l.take (j + 1)) = seN (l.take j) + l[j].ps.length := by
  unfold seN
  rw [List.take_succ_eq_append_getElem h]
  simp only [List.map_append, List.map_cons, List.map_nil, List.sum_append, List.sum_cons, List.sum_nil, Nat.add_zero]
theorem seN_take_le (l : List Se) (j : Nat) : seN (l.take j) ≤ seN l := by
  unfold seN
  conv => rhs; rw [← List.take_append_drop j l]
  rw [List.map_append, List.sum_append]; omega
theorem seN_at {l : List Se} {j : Nat} (h : j < l.length) : seN (l.take j) + l[j].ps.length ≤ seN l := by
  rw [← seN_drop h]; exact seN_take_le l _

end Go.Proofs.YtfipfoplmopkaaaGreatDoor

namespace Go.Proofs.YtfipfoplmopkaaaGreatDoor
open Go.RowKit Go.Maps

abbrev PE := ByteArray × ByteArray × Nat
def peOk (S : DataW Unit) (e : PE) : Prop := e.1.size < 256 ∧ e.2.1.size < 256 ∧ e.2.2 < 268435456 ∧ (e.1.size ≠ 0 → Maps.has S (.string e.2.1.data.toList) = true)
/-- The view behind the postings PL. -/
def ptV (V : Vw) (PL : List PE) (l1 l2 lp : List UInt8) (go : Option Nat) : Vw := { V with l1 := l1, l2 := l2, lp := lp, go := go, lo := pEs PL, cs := upd V.cs 3 (.int .u64 (PL.length : Nat)) }

theorem ptV_cs (V : Vw) (PL : List PE) (l1 l2 lp : List UInt8) (go : Option Nat) (i : Nat) (h : i ≠ 3) : (ptV V PL l1 l2 lp go).cs i = V.cs i := upd_other V.cs 3 i (.int .u64 (PL.length : Nat)) h
theorem ptV_3 (V : Vw) (PL : List PE) (l1 l2 lp : List UInt8) (go : Option Nat) : (ptV V PL l1 l2 lp go).cs 3 = .int .u64 (PL.length : Nat) := upd_same V.cs 3 (.int .u64 (PL.length : Nat))

/-- What lies fast: the symbols (their struct at sb, their bytes l0 in block b0) and the file's bytes in block b. -/
structure Fx where
  ss : List ByteArray
  sb : Nat
  b0 : Nat
  p0 : Nat
  c0 : Nat
  A : List UInt8
  B : List UInt8
  b : Nat
def Fx.l0 (F : Fx) : List UInt8 := F.A ++ (symB F.ss ++ F.B)

structure PT (w0 : World) (G0 : Gh) (V : Vw) (F : Fx) (sf cap : Nat) (wr : World) (Gr : Gh) (PL : List PE) (l1 l2 lp : List UInt8) (go : Option Nat) : Prop where
  R : Reach w0 G0 wr Gr
  v : Gr.v = ptV V PL l1 l2 lp go
  lpl : lp.length ≤ 900 * PL.length
  pe : ∀ e ∈ PL, peOk V.S e
  fc : wr.cell? ⟨sf, 0, none⟩ = some (.slice (some ⟨F.b, 0, none⟩) V.lf.length cap)
  tsf : Gr.T sf = 0
  sfl : w0.heap.size ≤ sf
  sy : SY (fun k => k < w0.heap.size ∧ k ≠ F.sb ∧ Gr.T k = 0) wr F.sb F.b0 F.p0 F.l0.length F.c0 F.ss F.ss.length
  tsb : Gr.T F.sb = 0
  sbl : F.sb < w0.heap.size
  c0 : ∀ j u, F.l0[j]? = some u → wr.cell? ⟨F.b0, 0 + j, none⟩ = some (bV u)
  t0 : Gr.T F.b0 = 11
  l0 : F.b0 < w0.heap.size
  cf : ∀ j u, V.lf[j]? = some u → wr.cell? ⟨F.b, 0 + j, none⟩ = some (bV u)
  tb : Gr.T F.b = 11
  bl : F.b < w0.heap.size

section
variable {w0 wr w' : World} {G0 Gr G' : Gh} {V : Vw} {F : Fx} {sf cap : Nat} {PL : List PE} {l1 l2 lp : List UInt8} {go : Option Nat}

theorem SY.blocks {A B : Nat → Prop} {w w' : World} {sb b p n c : Nat} {ss : List ByteArray} {j : Nat} (h : SY A w sb b p n c ss j) (hs : w'.heap[sb]? = w.heap[sb]?) (hA : ∀ k, A k → k < w.heap.size → w'.heap[k]? = w.heap[k]? ∧ B k) : SY B w' sb b p n c ss j := by
  obtain ⟨v, h1, h2, h3⟩ := h.c3
  have hc : ∀ o, w'.cell? ⟨sb, o, none⟩ = w.cell? ⟨sb, o, none⟩ := fun o => World.cell?_of_block (a := ⟨sb, o, none⟩) hs
  have hf : ∀ o, w'.frozen? ⟨sb, o, none⟩ = w.frozen? ⟨sb, o, none⟩ := fun o => World.frozen?_of_block (a := ⟨sb, o, none⟩) hs
  exact ⟨(hc _).trans h.c0, (hc _).trans h.c1, ⟨v, (hc _).trans h1, ownsRow_block h2 (fun k e => (hA k (h3 k e) (h2.lt k e).2).1), fun k e => (hA k (h3 k e) (h2.lt k e).2).2⟩, (hc _).trans h.c4, (hf _).trans h.f3, (hf _).trans h.f4, (hc _).trans h.c2⟩

theorem SY.sbl {A : Nat → Prop} {w : World} {sb b p n c : Nat} {ss : List ByteArray} {j : Nat} (h : SY A w sb b p n c ss j) : sb < w.heap.size := World.block_lt_of_cell? _ _ h.c4

/-- Local blocks are turned, and new ones laid. -/
theorem PT.loc (h : PT w0 G0 V F sf cap wr Gr PL l1 l2 lp go) {P : Nat → Nat → Prop} (hk : Kept P wr w') (hP : ∀ k o, k < wr.heap.size → P k o → w0.heap.size ≤ k ∧ Gr.T k = 0 ∧ k ≠ sf) :
    ∃ G', PT w0 G0 V F sf cap w' G' PL l1 l2 lp go ∧ (∀ k, wr.heap.size ≤ k → G'.T k = 0) ∧ ∀ k, k < wr.heap.size → G'.T k = Gr.T k := by
  obtain ⟨G', r', v', tn, tO⟩ := h.R.locv h.v hk (fun k o hk' hp => ⟨(hP k o hk' hp).1, (hP k o hk' hp).2.1⟩)
  have hsz : w0.heap.size ≤ wr.heap.size := h.R.kp.size
  have hlow : ∀ k, k < w0.heap.size → w'.heap[k]? = wr.heap[k]? := fun k hk0 => hk.block k (by omega) (fun o hp => by have := (hP k o (by omega) hp).1; omega)
  have hsfl := World.block_lt_of_cell? _ _ h.fc
  have hs := h.sbl
  have hb := h.bl
  have hb0 := h.l0
  refine ⟨G', ⟨r', v', h.lpl, h.pe, ?_, ?_, h.sfl, h.sy.blocks (hlow _ hs) (fun k hA hl => ⟨hlow k hA.1, hA.1, hA.2.1, (tO k hl).trans hA.2.2⟩), ?_, h.sbl, fun j u hj => ?_, ?_, h.l0, fun j u hj => ?_, ?_, h.bl⟩, tn, tO⟩
  · rw [World.cell?_of_block (a := ⟨sf, 0, none⟩) (hk.block sf hsfl (fun o hp => (hP sf o hsfl hp).2.2 rfl))]; exact h.fc
  · exact (tO sf hsfl).trans h.tsf
  · exact (tO F.sb (by omega)).trans h.tsb
  · rw [World.cell?_of_block (a := ⟨F.b0, 0 + j, none⟩) (hlow _ hb0)]; exact h.c0 j u hj
  · exact (tO F.b0 (by omega)).trans h.t0
  · rw [World.cell?_of_block (a := ⟨F.b, 0 + j, none⟩) (hlow _ hb)]; exact h.cf j u hj
  · exact (tO F.b (by omega)).trans h.tb

/-- A step of the Writer's. -/
theorem PT.step {PL' : List PE} {l1' l2' lp' : List UInt8} {go' : Option Nat} (h : PT w0 G0 V F sf cap wr Gr PL l1 l2 lp go) (r : Reach wr Gr w' G') (hv : G'.v = ptV V PL' l1' l2' lp' go') (hz : Gr.zm = true) (hl : lp'.length ≤ 900 * PL'.length) (hpe : ∀ e ∈ PL', peOk V.S e) :
    PT w0 G0 V F sf cap w' G' PL' l1' l2' lp' go' := by
  have hsz : w0.heap.size ≤ wr.heap.size := h.R.kp.size
  have hsfl := World.block_lt_of_cell? _ _ h.fc
  have hs := h.sbl
  have hb := h.bl
  have hb0 := h.l0
  have h0 : ∀ k, k < wr.heap.size → Gr.T k = 0 → w'.heap[k]? = wr.heap[k]? := fun k hk ht => KT.block r.kp hk ht
  have h11 : ∀ k, k < wr.heap.size → Gr.T k = 11 → w'.heap[k]? = wr.heap[k]? := fun k hk ht => r.hp.m hz k hk ht
  refine ⟨h.R.trans r, hv, hl, hpe, ?_, ?_, h.sfl, h.sy.blocks (h0 F.sb (by omega) h.tsb) (fun k hA hl => ⟨h0 k hl hA.2.2, hA.1, hA.2.1, (r.nx.T k hl).trans hA.2.2⟩), ?_, h.sbl, fun j u hj => ?_, ?_, h.l0, fun j u hj => ?_, ?_, h.bl⟩
  · rw [World.cell?_of_block (a := ⟨sf, 0, none⟩) (h0 sf hsfl h.tsf)]; exact h.fc
  · exact (r.nx.T sf hsfl).trans h.tsf
  · exact (r.nx.T F.sb (by omega)).trans h.tsb
  · rw [World.cell?_of_block (a := ⟨F.b0, 0 + j, none⟩) (h11 F.b0 (by omega) h.t0)]; exact h.c0 j u hj
  · exact (r.nx.T F.b0 (by omega)).trans h.t0
  · rw [World.cell?_of_block (a := ⟨F.b, 0 + j, none⟩) (h11 F.b (by omega) h.tb)]; exact h.cf j u hj
  · exact (r.nx.T F.b (by omega)).trans h.tb

theorem PT.drew (h : PT w0 G0 V F sf cap wr Gr PL l1 l2 lp go) : PT w0 G0 V F sf cap wr.drew Gr PL l1 l2 lp go := ⟨h.R.drew, h.v, h.lpl, h.pe, h.fc, h.tsf, h.sfl, ⟨h.sy.c0, h.sy.c1, h.sy.c3, h.sy.c4, h.sy.f3, h.sy.f4, h.sy.c2⟩, h.tsb, h.sbl, h.c0, h.t0, h.l0, h.cf, h.tb, h.bl⟩

/-- The posting behind writePosting. -/
def PTp (w0 : World) (G0 : Gh) (V : Vw) (F : Fx) (sf cap : Nat) (wr : World) (Gr : Gh) (PL : List PE) (nm va : ByteArray) (e : Ending) (w' : World) : Prop :=
  e = .returned .nilIface ∧ ∃ G' off l1 l2 lp go, PT w0 G0 V F sf cap w' G' (PL ++ [(nm, va, off)]) l1 l2 lp go ∧ Reach wr Gr w' G'

theorem pEs_snoc (l : List PE) (e : PE) : pEs (l ++ [e]) = pEs l ++ pE e := by simp [pEs]

theorem symE_len (s : ByteArray) (h : s.size < 256) : (symE s).length ≤ 2 + s.size := by
  have : (Lib.uvarint s.size).length ≤ 2 := Lib.uvarint_length 1 s.size (by omega)
  simp [symE]; omega
theorem pE_len (S : DataW Unit) (e : PE) (h : peOk S e) : (pE e).length ≤ 600 := by
  obtain ⟨h1, h2, h3, _⟩ := h
  have a := symE_len e.1 h1
  have b := symE_len e.2.1 h2
  have c := (uvarint_len4 h3).2
  have d : (Lib.uvarint 2).length = 1 := by rw [Lib.uvarint_small (by decide)]; rfl
  simp [pE, postE, d]; omega
theorem pEs_len (S : DataW Unit) (l : List PE) (h : ∀ e ∈ l, peOk S e) : (pEs l).length ≤ 600 * l.length := by
  induction l with
  | nil => simp [pEs]
  | cons e r ih =>
    have a := pE_len S e (h e (by simp))
    have b := ih (fun e' h' => h e' (by simp [h']))
    have : pEs (e :: r) = pE e ++ pEs r := by simp [pEs]
    rw [this]; simp; omega

set_option maxRecDepth 100000 in
theorem PT.post (h : PT w0 G0 V F sf cap wr Gr PL l1 l2 lp go) (nm va : ByteArray) (ao : Option Addr) (n c : Nat) (xs : List Nat) (hn : n = xs.length) (hx : U32s wr Gr ao xs) (hn2 : n ≤ 200) (hnm : nm.size < 256) (hva : va.size < 256) (hS : nm.size ≠ 0 → Maps.has V.S (.string va.data.toList) = true)
    (h1 : V.cs 1 = .pointer (some ⟨G0.pb, 0, none⟩)) (h2 : V.cs 2 = .pointer (some ⟨G0.ob, 0, none⟩)) (h46 : V.cs 46 = .func (.func 80) #[] #[]) (hPL : PL.length < 60000) (hzm : V.zm = true) (hfo : V.zo = false) :
    Calls Tryz.prog 138 #[.pointer (some ⟨G0.wb, 0, none⟩), .string nm, .string va, .slice ao n c] wr (PTp w0 G0 V F sf cap wr Gr PL nm va) := by
  have hpl := pEs_len V.S PL h.pe
  have hll := h.lpl
  have hz : Gr.zm = true := (congrArg Vw.zm h.v).trans hzm
  have a1 : (ptV V PL l1 l2 lp go).cs 1 = .pointer (some ⟨Gr.pb, 0, none⟩) := (ptV_cs _ _ _ _ _ _ 1 (by decide)).trans (by rw [h1, h.R.nx.pb])
  have a2 : (ptV V PL l1 l2 lp go).cs 2 = .pointer (some ⟨Gr.ob, 0, none⟩) := (ptV_cs _ _ _ _ _ _ 2 (by decide)).trans (by rw [h2, h.R.nx.ob])
  have a3 : (ptV V PL l1 l2 lp go).cs 3 = .int .u64 (PL.length : Nat)  := ptV_3 _ _ _ _ _ _
  have a46 : (ptV V PL l1 l2 lp go).cs 46 = .func (.func 80) #[] #[] := (ptV_cs _ _ _ _ _ _ 46 (by decide)).trans h46
  have hc := writePosting_any wr Gr (ptV V PL l1 l2 lp go) h.R.wi h.v nm va ao n c xs hn hx PL.length
    a1 a2 a3 a46
    (by omega) (by show (pEs PL).length < _; omega) (by show lp.length < _; omega) (by omega) (by omega) (by omega) hfo
  rw [h.R.nx.wb] at hc
  refine hc.mono ?_
  rintro e w' ⟨l1', l2', k, go', hk, he, G', r, hv⟩
  have hp4 := padN_lt lp.length 4 (by decide)
  have hk' : k.length = 12 + 4 * n + padN lp.length 4 := hk
  refine ⟨he, G', lp.length + padN lp.length 4, l1', l2', lp ++ k, go', h.step r ?_ hz (by simp; omega) (fun e' h' => ?_), r⟩
  · rw [hv]
    simp only [ptV, pEs_snoc, upd_upd, List.length_append, List.length_singleton]
    rfl
  · rcases List.mem_append.1 h' with h' | h'
    · exact h.pe e' h'
    · obtain rfl := List.mem_singleton.1 h'
      exact ⟨hnm, hva, by show lp.length + padN lp.length 4 < 268435456; omega, hS⟩

end

end Go.Proofs.YtfipfoplmopkaaaGreatDoor
