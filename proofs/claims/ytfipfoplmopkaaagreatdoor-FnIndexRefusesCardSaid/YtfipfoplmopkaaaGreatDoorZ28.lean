/- Labels: impl.pairs(67), labels.New(66), impl.made(24). Conditions: the labels in order, sizes below 255. The postings at hand: a map of maps of slices of numbers, all in blocks of the call's own. No condition. The bytes of the series in the main file. No condition. -/
import Derived.Test.YtfipfoplmopkaaaGreatDoorZ25
import Derived.Test.YtfipfoplmopkaaaGreatDoorZ27

namespace Go.Proofs.YtfipfoplmopkaaaGreatDoor
open Go.RowKit

def encL (x : Lab) : List Value := [.string x.1, .string x.2]
def rowV (ls : List Lab) : List Value := (ls.map encL).flatten
theorem rowV_snoc (ls : List Lab) (x : Lab) : rowV (ls ++ [x]) = rowV ls ++ [.string x.1, .string x.2] := by simp [rowV, encL]
theorem rowV_cons (x : Lab) (ls : List Lab) : rowV (x :: ls) = .string x.1 :: .string x.2 :: rowV ls := by simp [rowV, encL]
theorem rowV_get : ∀ (ls : List Lab) (i : Nat) (h : i < ls.length), (rowV ls)[i * 2]? = some (.string (ls[i]'h).1) ∧ (rowV ls)[i * 2 + 1]? = some (.string (ls[i]'h).2)
  | [], i, h => by simp at h
  | x :: t, 0, _ => by rw [rowV_cons]; exact ⟨rfl, rfl⟩
  | x :: t, i + 1, h => by
    have := rowV_get t i (by simpa using h)
    rw [rowV_cons, show (i + 1) * 2 = i * 2 + 2 by omega]
    exact this

theorem two_newL (w : World) (x y : Value) (t : TypeId) : ∀ ad, some (⟨w.heap.size, 0, none⟩ : Addr) = some ad → ∀ (j : Nat) u, [x, y][j]? = some u → (w.alloc (.cells #[x, y] t)).cell? (ad.add j) = some u := by
  intro ad e j u hj
  cases e
  match j, hj with
  | 0, hj => simp at hj; subst hj; rw [Addr.add_lit, Nat.zero_add, World.cell?_alloc_new]; rfl
  | 1, hj => simp at hj; subst hj; rw [Addr.add_lit, Nat.zero_add, World.cell?_alloc_new]; rfl

theorem info130 : (Tryz.prog.info? 130).map (fun i => (i.zero, i.size, i.bytes)) = some (some (.agg #[.string ByteArray.empty, .string ByteArray.empty]), 2, 32) := by kernel_rfl

set_option maxRecDepth 100000 in
set_option maxHeartbeats 2000000 in
theorem pairs_any (b o c n : Nat) (ls : List Lab) (hn : n = ls.length) (hn0 : 0 < n) (hn9 : n < 1000) (w : World) (h : RowL w b o ls) (hb : b < w.heap.size) :
    Calls Tryz.prog 67 #[.slice (some ⟨b, o, none⟩) n c] w fun e w' => ∃ g c', e = .returned (.slice (some ⟨g, 0, none⟩) n c') ∧ w.heap.size ≤ g ∧ g < w'.heap.size ∧ RowL w' g 0 ls ∧ Kept (fun k _ => w.heap.size ≤ k) w w' := by
  have H := Lib.hid h
  have HN := Lib.hid hn
  have HB := Lib.hid hb
  obtain ⟨i130, hi, hz0, hz1, hz2⟩ := info_parts info130
  clear h hn hb
  go_enter Tryz.func67, Tryz.ntmps67
  go_wp2_with fail
  go_loopw [3, 8] (fun s x wr => ∃ (i : Nat) (ao : Option Addr) (cc : Nat), i ≤ n ∧ x = .int .i64 i ∧ s = .slice ao i cc ∧ Hid (wr.ownsRow 0 130 2 (.slice ao i cc) i (rowV (ls.take i))) ∧ Hid (∀ k, (Value.slice ao i cc).ownBlock = some k → w.heap.size ≤ k) ∧ Hid (Kept (fun k _ => w.heap.size ≤ k) w wr)) (fun _ x _ => n - (intOf x).toNat)
  case atStart => exact ⟨0, none, 0, Nat.zero_le _, rfl, rfl, Lib.hid (World.ownsRow_nil _ _ _ _), Lib.hid (fun k e => by cases e), Lib.hid (Kept.refl _ _)⟩
  case round =>
    obtain ⟨i, ao, cc, hi', rfl, rfl, HO, HG, HR⟩ := hrel
    by_cases hlt : i < n
    · have hil : i < ls.length := by rw [← HN.out]; exact hlt
      have hRow := H.out.kept HR.out (fun _ e => by have := HB.out; omega) HB.out
      obtain ⟨x1, x2⟩ := hRow i hil
      have hrv : rowV (ls.take (i + 1)) = rowV (ls.take i) ++ [.string (ls[i]'hil).1, .string (ls[i]'hil).2] := by
        rw [List.take_succ_eq_append_getElem hil, rowV_snoc]
      obtain ⟨x, hx⟩ : ∃ x, x = (ls[i]'hil).1 := ⟨_, rfl⟩
      obtain ⟨y, hy⟩ : ∃ y, y = (ls[i]'hil).2 := ⟨_, rfl⟩
      rw [← hx] at x1 hrv
      rw [← hy] at x2 hrv
      have HRV := Lib.hid hrv
      have hiI : (i : Int) < n := by omega
      have hrow : ∀ o1 o2 : Obj, ((wr.alloc o1).alloc o2).ownsRow 0 130 2 (.slice ao i cc) i (rowV (ls.take i)) := fun o1 o2 => by
        have h1 := ownsRow_block (w' := wr.alloc o1) HO.out (fun k e => heap_alloc_old _ _ (HO.out.lt k e).2)
        exact ownsRow_block h1 (fun k e => heap_alloc_old _ _ (h1.lt k e).2)
      have HROW := Lib.hid hrow
      clear hrv hx hy hRow hrow
      go_wp2_with (at_builtin; refine wpList_app _ rfl _ _ 136 rfl 130 i130 (.agg #[.string ByteArray.empty, .string ByteArray.empty]) 2 32 Tryz.underlying136 hi hz0 hz1 hz2 rfl (by decide) (.slice ao i cc) i (rowV (ls.take i)) rfl (HROW.out _ _) (some ⟨wr.heap.size + 1, 0, none⟩) 1 1 [.string x, .string y] rfl rfl (fun e => by cases e) (by have := two_newL (wr.alloc (.cells #[.string x, .string y] 79)) (.string x) (.string y) 130; rw [World.size_alloc] at this; exact this) (by intro u hu; simp at hu; rcases hu with rfl | rfl <;> rfl) (by unfold maxLen; omega) (by omega) ?_)
      intro v' wz ha
      obtain ⟨ao', c', rfl⟩ := own_slice ha.own
      have hk := (((HR.out.trans (Kept.alloc _ _ _) (fun _ _ _ => id)).trans (Kept.alloc _ _ _) (fun _ _ _ => id)).trans ((ha.kept (HROW.out _ _)).mono (fun k _ _ e => HG.out k e)) (fun _ _ _ => id))
      have HK := Lib.hid hk
      have hg : ∀ k, (Value.slice ao' (i + 1) c').ownBlock = some k → w.heap.size ≤ k := fun k e => by
        rcases ha.mv with h | ⟨g', h1, h2⟩
        · exact HG.out k (h.symm.trans e)
        · rw [e] at h1; cases h1
          have := HR.out.size
          simp only [World.size_alloc] at h2; omega
      have HG' := Lib.hid hg
      have HO' := Lib.hid ha.own
      clear ha hk hg
      go_wp2_with fail
      go_roundw
      case rel => exact ⟨i + 1, ao', c', by omega, by go_num, rfl, Lib.hid (by rw [HRV.out]; exact HO'.out), HG', HK⟩
      case measure => simp only [intOf]; omega
    · obtain rfl : i = n := by omega
      have ho := HO.out
      rw [show ls.take i = ls by rw [HN.out, List.take_length]] at ho
      obtain ⟨g, cap, he, _, hglt⟩ := ho.form hn0
      cases he
      have hg0 := HG.out g rfl
      have hrow : RowL wr g 0 ls := fun j hj => by
        obtain ⟨r1, r2⟩ := rowV_get ls j hj
        rw [Nat.zero_add]
        exact ⟨by have := ho.cells rfl _ _ r1; rwa [Addr.add_lit, Nat.zero_add] at this, by have := ho.cells rfl _ _ r2; rwa [Addr.add_lit, Nat.zero_add] at this⟩
      have FIN := Lib.hid (And.intro hg0 (And.intro hglt hrow))
      clear ho hg0 hglt hrow HO HG
      go_wp2_with fail
      go_ret
      exact ⟨g, _, rfl, FIN.out.1, FIN.out.2.1, FIN.out.2.2, HR.out⟩

end Go.Proofs.YtfipfoplmopkaaaGreatDoor

namespace Go.Proofs.YtfipfoplmopkaaaGreatDoor
open Go.RowKit Go.Maps

/-- Whose is a block: (1, 0, 0): the outer map; (2, a, 0): the map at a; (3, a, c): the slice at a and c; (0, ..): nobody of these. -/
abbrev Ow := Nat → Nat × Nat × Nat
def Oe (O O' : Ow) : Prop := ∀ g, (O g).1 ≠ 0 → O' g = O g
theorem Oe.refl (O : Ow) : Oe O O := fun _ _ => rfl

/-- The slice at a and c. -/
def SVp (w : World) (O : Ow) (k a c : Nat) (v : Value) : Prop :=
  ∃ xs : List Nat, w.ownsRow 0 94 1 v xs.length (xs.map u32V) ∧ xs.length ≤ k ∧ (∀ x ∈ xs, x < 4294967296) ∧ ∀ g, v.ownBlock = some g → O g = (3, a, c)
theorem SVp.nil (w : World) (O : Ow) (k a c : Nat) : SVp w O k a c (.slice none 0 0) := ⟨[], World.ownsRow_nil _ _ _ _, Nat.zero_le _, (fun _ h => by cases h), (fun g e => by cases e)⟩
theorem SVp.kept {w w' : World} {O O' : Ow} {k k' a c : Nat} {v : Value} {P : Nat → Nat → Prop} (h : SVp w O k a c v) (hk : Kept P w w') (hP : ∀ g, O g = (3, a, c) → ∀ o, ¬ P g o) (hO : Oe O O') (hkk : k ≤ k') : SVp w' O' k' a c v := by
  obtain ⟨xs, h1, h2, h3, h4⟩ := h
  refine ⟨xs, ownsRow_block h1 (fun g e => hk.block g (h1.lt g e).2 (hP g (h4 g e))), Nat.le_trans h2 hkk, h3, fun g e => ?_⟩
  rw [hO g (by rw [h4 g e]; simp)]
  exact h4 g e

/-- The map at a. -/
def IMp (w : World) (O : Ow) (cnt k a : Nat) (v : Value) : Prop := ∃ mb, v = .map (some mb) ∧ O mb = (2, a, 0) ∧ RM w mb k (fun c x => c < cnt ∧ SVp w O k a c x)
theorem IMp.kept {w w' : World} {O O' : Ow} {cnt k k' a : Nat} {v : Value} {P : Nat → Nat → Prop} (h : IMp w O cnt k a v) (hk : Kept P w w') (hP : ∀ g, (O g).1 = 2 ∨ (O g).1 = 3 → (O g).2.1 = a → ∀ o, ¬ P g o) (hO : Oe O O') (hkk : k ≤ k') : IMp w' O' cnt k' a v := by
  obtain ⟨mb, rfl, h1, h2⟩ := h
  refine ⟨mb, rfl, (hO mb (by rw [h1]; simp)).trans h1, (h2.kept hk (hP mb (by rw [h1]; simp) (by rw [h1]))).imp hkk (fun c x ⟨hc, hx⟩ => ⟨hc, hx.kept hk (fun g e => hP g (by rw [e]; simp) (by rw [e])) hO hkk⟩)⟩

/-- The postings: the outer map in block ob; numbers of values below cnt; at most k entries anywhere; all its blocks have A. -/
structure PM (w : World) (O : Ow) (A : Nat → Prop) (cnt ko k ob : Nat) : Prop where
  o : O ob = (1, 0, 0)
  m : RM w ob ko (fun a v => IMp w O cnt k a v)
  a : ∀ g, (O g).1 ≠ 0 → g < w.heap.size ∧ A g

theorem PM.kept {w w' : World} {O : Ow} {A B : Nat → Prop} {cnt ko ko' k k' ob : Nat} {P : Nat → Nat → Prop} (h : PM w O A cnt ko k ob) (hk : Kept P w w') (hP : ∀ g, (O g).1 ≠ 0 → ∀ o, ¬ P g o) (hko : ko ≤ ko') (hkk : k ≤ k') (hB : ∀ g, g < w.heap.size → A g → B g) : PM w' O B cnt ko' k' ob :=
  ⟨h.o, (h.m.kept hk (hP ob (by rw [h.o]; simp))).imp hko (fun a v hv => hv.kept hk (fun g h1 _ => hP g (by omega)) (Oe.refl O) hkk), fun g hg => ⟨Nat.lt_of_lt_of_le (h.a g hg).1 hk.size, hB g (h.a g hg).1 (h.a g hg).2⟩⟩

/-- The empty postings. -/
theorem PM.made (w : World) (A : Nat → Prop) (cnt : Nat) (hA : A w.heap.size) : PM (w.alloc (.map #[] 0)) (fun g => if g = w.heap.size then (1, 0, 0) else (0, 0, 0)) A cnt 0 0 w.heap.size :=
  ⟨if_pos rfl, RM.made _ _, fun g hg => by
    by_cases e : g = w.heap.size
    · rw [e]; exact ⟨by simp, hA⟩
    · rw [if_neg e] at hg; exact absurd rfl hg⟩

/-- What steps on the postings touch. -/
def pmP (O : Ow) (g _o : Nat) : Prop := (O g).1 ≠ 0

/-- The postings, with the map at a at hand. -/
structure PMa (w : World) (O : Ow) (A : Nat → Prop) (cnt ko k ob a mb : Nat) : Prop where
  p : PM w O A cnt ko k ob
  m : RM w ob ko (fun c x => IMp w O cnt k c x ∧ (c = a → x = .map (some mb)))
  o : O mb = (2, a, 0)
  i : RM w mb k (fun c x => c < cnt ∧ SVp w O k a c x)
  r : RA w ob a (.map (some mb))

theorem PMa.kept {w w' : World} {O : Ow} {A B : Nat → Prop} {cnt ko k ob a mb : Nat} {P : Nat → Nat → Prop} (h : PMa w O A cnt ko k ob a mb) (hk : Kept P w w') (hP : ∀ g, (O g).1 ≠ 0 → ∀ o, ¬ P g o) (hB : ∀ g, g < w.heap.size → A g → B g) : PMa w' O B cnt ko k ob a mb :=
  ⟨h.p.kept hk hP (Nat.le_refl _) (Nat.le_refl _) hB, (h.m.kept hk (hP ob (by rw [h.p.o]; simp))).imp (Nat.le_refl _) (fun c v hv => ⟨hv.1.kept hk (fun g h1 _ => hP g (by omega)) (Oe.refl O) (Nat.le_refl _), hv.2⟩), h.o,
    (h.i.kept hk (hP mb (by rw [h.o]; simp))).imp (Nat.le_refl _) (fun c x hx => ⟨hx.1, hx.2.kept hk (fun g e => hP g (by rw [e]; simp)) (Oe.refl O) (Nat.le_refl _)⟩), h.r.blk (hk.block ob h.m.lt (hP ob (by rw [h.p.o]; simp)))⟩

/-- postings[a]. -/
theorem PM.look {w : World} {O : Ow} {A : Nat → Prop} {cnt ko k ob a : Nat} (h : PM w O A cnt ko k ob) {t e : TypeId} (ht : Tryz.prog.underlying t = some (.map 94 e)) (hz : ∀ w, (zeroValue e).run Tryz.prog w = .ok (.map none) w) (ha : a < 4294967296) :
    ∃ (ok : Bool) (v : Value), (Instr.lookup t (.map (some ob)) (.int .u32 (a : Int)) true).run Tryz.prog w = .ok (.tuple #[v, .bool ok]) w ∧ (∀ W : World, W.heap[ob]? = w.heap[ob]? → (Instr.lookup t (.map (some ob)) (.int .u32 (a : Int)) false).run Tryz.prog W = .ok v W) ∧ ((ok = true ∧ ∃ mb, v = .map (some mb) ∧ PMa w O A cnt ko k ob a mb) ∨ (ok = false ∧ v = .map none)) := by
  obtain ⟨ok, v, h1, h2, h3⟩ := h.m.look ht hz ha
  refine ⟨ok, v, h1, h2, ?_⟩
  rcases h3 with ⟨rfl, ⟨mb, rfl, h4, h5⟩, h6, h7⟩ | ⟨rfl, rfl⟩
  · exact .inl ⟨rfl, mb, rfl, h, h6, h4, h5, h7⟩
  · exact .inr ⟨rfl, rfl⟩

/-- postings[a], once more, in whatever world that has left the outer map alone. -/
theorem PMa.outer {w W : World} {O : Ow} {A : Nat → Prop} {cnt ko k ob a mb : Nat} (h : PMa w O A cnt ko k ob a mb) {t e : TypeId} (ht : Tryz.prog.underlying t = some (.map 94 e)) {z : Value} (hz : ∀ w, (zeroValue e).run Tryz.prog w = .ok z w) (ha : a < 4294967296) (hW : W.heap[ob]? = w.heap[ob]?) :
    (Instr.lookup t (.map (some ob)) (.int .u32 (a : Int)) false).run Tryz.prog W = .ok (.map (some mb)) W := (h.r.blk hW).look ht (hz W) ha

/-- postings[a][c]. -/
theorem PMa.look {w : World} {O : Ow} {A : Nat → Prop} {cnt ko k ob a mb c : Nat} (h : PMa w O A cnt ko k ob a mb) {t e : TypeId} (ht : Tryz.prog.underlying t = some (.map 94 e)) (hz : ∀ w, (zeroValue e).run Tryz.prog w = .ok (.slice none 0 0) w) (hc : c < 4294967296) :
    ∃ v : Value, (∀ W : World, W.heap[mb]? = w.heap[mb]? → (Instr.lookup t (.map (some mb)) (.int .u32 (c : Int)) false).run Tryz.prog W = .ok v W) ∧ SVp w O k a c v := by
  obtain ⟨ok, v, _, h2, h3⟩ := h.i.look ht hz hc
  refine ⟨v, h2, ?_⟩
  rcases h3 with ⟨_, ⟨_, h4⟩, _⟩ | ⟨_, rfl⟩
  · exact h4
  · exact SVp.nil _ _ _ _ _

theorem kept_size {P : Nat → Nat → Prop} {w w' : World} (h : Kept P w w') : w.heap.size ≤ w'.heap.size := h.size

/-- postings[a] = map{}, behind the new map in block mb. -/
theorem PM.newmap {w : World} {O : Ow} {A : Nat → Prop} {cnt ko k ob mb a : Nat} (h : PM w O A cnt ko k ob) {t e : TypeId} (ht : Tryz.prog.underlying t = some (.map 94 e)) (hk : ko < 1000000000) (ha : a < 4294967296) (hm : RM w mb 0 (fun _ _ => False)) (hO : (O mb).1 = 0) (hA : A mb) :
    ∃ w' O', (Instr.mapUpdate t (.map (some ob)) (.int .u32 (a : Int)) (.map (some mb))).run Tryz.prog w = .ok () w' ∧ PMa w' O' A cnt (ko + 1) k ob a mb ∧ Kept (pmP O) w w' := by
  obtain ⟨w', h1, h2, h3, hra⟩ := h.m.put ht (by unfold maxLen; omega) ha (.map (some mb))
  have hne : ob ≠ mb := fun e => by rw [← e, h.o] at hO; cases hO
  have hOe : Oe O (fun g => if g = mb then (2, a, 0) else O g) := fun g hg => if_neg (fun e => by rw [e] at hg; exact hg hO)
  have hi : RM w' mb k (fun c x => c < cnt ∧ SVp w' (fun g => if g = mb then (2, a, 0) else O g) k a c x) := (hm.kept h3 (fun o e => hne e.symm)).imp (Nat.zero_le _) (fun _ _ h => h.elim)
  have hmm : RM w' ob (ko + 1) (fun c x => IMp w' (fun g => if g = mb then (2, a, 0) else O g) cnt k c x ∧ (c = a → x = .map (some mb))) := by
    refine h2.imp (Nat.le_refl _) (fun c v hv => ?_)
    by_cases e : c = a
    · subst e
      rw [if_pos rfl] at hv
      subst hv
      exact ⟨⟨mb, rfl, if_pos rfl, hi⟩, fun _ => rfl⟩
    · rw [if_neg e] at hv
      exact ⟨hv.kept h3 (fun g h0 _ o e' => by rw [e', h.o] at h0; rcases h0 with h0 | h0 <;> cases h0) hOe (Nat.le_refl _), fun e' => absurd e' e⟩
  refine ⟨w', _, h1, ⟨⟨?_, hmm.imp (Nat.le_refl _) (fun _ _ h => h.1), fun g hg => ?_⟩, hmm, if_pos rfl, hi, hra⟩, h3.mono (fun i o _ e => by rw [e]; unfold pmP; rw [h.o]; simp)⟩
  · show (if ob = mb then _ else _) = _
    rw [if_neg hne]; exact h.o
  · by_cases e : g = mb
    · rw [e]; exact ⟨Nat.lt_of_lt_of_le hm.lt h3.size, hA⟩
    · simp only [if_neg e] at hg
      exact ⟨Nat.lt_of_lt_of_le (h.a g hg).1 h3.size, (h.a g hg).2⟩

/-- postings[a][c] = append(postings[a][c], x), behind the append. -/
theorem PMa.push {w w1 w2 : World} {O : Ow} {A B : Nat → Prop} {cnt ko k ob a mb c n x : Nat} {v v' : Value} {xs : List Nat} (h : PMa w O A cnt ko k ob a mb) {t e : TypeId} (ht : Tryz.prog.underlying t = some (.map 94 e)) (hk : k < 1000000000) (hc : c < cnt) (hc9 : c < 4294967296)
    (h1 : w.ownsRow 0 94 1 v xs.length (xs.map u32V)) (h2 : xs.length ≤ k) (h3 : ∀ y ∈ xs, y < 4294967296) (h4 : ∀ g, v.ownBlock = some g → O g = (3, a, c)) (ka : Kept (fun _ _ => False) w w1) (hn : n = xs.length) (hx : x < 4294967296)
    (ha : App w1 w2 94 1 v v' (n + 1) (xs.map u32V ++ [.int .u32 x])) (hA : ∀ g, g < w.heap.size → A g → B g) (hB : ∀ g, w.heap.size ≤ g → B g) :
    ∃ w3 O', (Instr.mapUpdate t (.map (some mb)) (.int .u32 (c : Int)) v').run Tryz.prog w2 = .ok () w3 ∧ PM w3 O' B cnt ko (k + 1) ob ∧ Kept (pmP O) w w3 := by
  subst hn
  have hrow := ownsRow_block h1 (w' := w1) (fun g e => ka.block g (h1.lt g e).2 (fun _ => id))
  have k2 : Kept (fun g _ => v.ownBlock = some g) w w2 := (ka.mono (Q := fun g _ => v.ownBlock = some g) (fun _ _ _ => False.elim)).trans (ha.kept hrow) (fun _ _ _ h => h)
  obtain ⟨O', hO'⟩ : ∃ O' : Ow, O' = fun g => if v'.ownBlock = some g then (3, a, c) else O g := ⟨_, rfl⟩
  have hnew : ∀ g, v'.ownBlock = some g → O g = (3, a, c) ∨ (w.heap.size ≤ g ∧ (O g).1 = 0) := fun g e => by
    rcases ha.mv with h5 | ⟨g2, h5, hg⟩
    · exact .inl (h4 g (h5.symm.trans e))
    · obtain rfl : g2 = g := Option.some.inj (h5.symm.trans e)
      have hg' : w.heap.size ≤ g2 := Nat.le_trans ka.size hg
      refine .inr ⟨hg', ?_⟩
      cases h6 : (O g2).1 with
      | zero => rfl
      | succ m => have := (h.p.a g2 (by rw [h6]; exact Nat.succ_ne_zero _)).1; omega
  have hOe : Oe O O' := fun g hg => by
    rw [hO']
    by_cases e : v'.ownBlock = some g
    · simp only [if_pos e]
      rcases hnew g e with h5 | ⟨_, h5⟩
      · exact h5.symm
      · exact absurd h5 hg
    · simp only [if_neg e]
  have hno : ∀ g, (O g ≠ (3, a, c)) → ∀ o : Nat, ¬ (v.ownBlock = some g) := fun g hg _ e => hg (h4 g e)
  -- the inner map, behind the append
  have hi2 := h.i.kept k2 (hno mb (by rw [h.o]; simp))
  obtain ⟨w3, r1, r2, r3, _⟩ := hi2.put ht (by unfold maxLen; omega) hc9 v'
  have k3 : Kept (fun g _ => v.ownBlock = some g ∨ g = mb) w w3 := (k2.mono (Q := fun g _ => v.ownBlock = some g ∨ g = mb) (fun _ _ _ e => .inl e)).trans (r3.mono (Q := fun g _ => v.ownBlock = some g ∨ g = mb) (fun _ _ _ e => .inr e)) (fun _ _ _ h => h)
  have hkeep : ∀ g, O g ≠ (3, a, c) → g ≠ mb → ∀ o : Nat, ¬ (v.ownBlock = some g ∨ g = mb) := fun g h5 h6 o e => by
    rcases e with e | e
    · exact h5 (h4 g e)
    · exact h6 e
  have hown : w3.ownsRow 0 94 1 v' (xs ++ [x]).length ((xs ++ [x]).map u32V) := by
    have h5 : w2.ownsRow 0 94 1 v' (xs ++ [x]).length ((xs ++ [x]).map u32V) := by
      have := ha.own
      simpa [u32V] using this
    refine ownsRow_block h5 (fun g e => r3.block g (h5.lt g e).2 (fun _ e' => ?_))
    rcases hnew g e with h6 | ⟨h6, _⟩
    · rw [e', h.o] at h6; cases h6
    · have := h.i.lt; omega
  have hi : RM w3 mb (k + 1) (fun d y => d < cnt ∧ SVp w3 O' (k + 1) a d y) := by
    refine r2.imp (Nat.le_refl _) (fun d y hd => ?_)
    by_cases e : d = c
    · subst e
      rw [if_pos rfl] at hd
      subst hd
      refine ⟨hc, xs ++ [x], hown, by simp; omega, fun y hy => ?_, fun g e => by rw [hO']; exact if_pos e⟩
      rcases List.mem_append.1 hy with hy | hy
      · exact h3 y hy
      · obtain rfl := List.mem_singleton.1 hy; exact hx
    · rw [if_neg e] at hd
      refine ⟨hd.1, hd.2.kept k3 (fun g eg => hkeep g (by rw [eg]; intro e'; cases e'; exact e rfl) (fun e' => by rw [e', h.o] at eg; cases eg)) hOe (Nat.le_succ _)⟩
  have hobmb : ob ≠ mb := fun e => by have := h.p.o; rw [e, h.o] at this; cases this
  have hmm : RM w3 ob ko (fun d y => IMp w3 O' cnt (k + 1) d y) := by
    refine (h.m.kept k3 (hkeep ob (by rw [h.p.o]; simp) hobmb)).imp (Nat.le_refl _) (fun d y hd => ?_)
    by_cases e : d = a
    · rw [hd.2 e, e]
      exact ⟨mb, rfl, (hOe mb (by rw [h.o]; simp)).trans h.o, hi⟩
    · exact hd.1.kept k3 (fun g _ h6 => hkeep g (fun e' => e (by rw [e'] at h6; exact h6.symm)) (fun e' => e (by rw [e', h.o] at h6; exact h6.symm))) hOe (Nat.le_succ _)
  refine ⟨w3, O', r1, ⟨(hOe ob (by rw [h.p.o]; simp)).trans h.p.o, hmm, fun g hg => ?_⟩, k3.mono (fun i o _ e => ?_)⟩
  · by_cases e : v'.ownBlock = some g
    · have hlt := (hown.lt g e).2
      refine ⟨hlt, ?_⟩
      rcases hnew g e with h5 | ⟨h5, _⟩
      · have := h.p.a g (by rw [h5]; simp); exact hA g this.1 this.2
      · exact hB g h5
    · rw [hO'] at hg
      simp only [if_neg e] at hg
      exact ⟨Nat.lt_of_lt_of_le (h.p.a g hg).1 k3.size, hA g (h.p.a g hg).1 (h.p.a g hg).2⟩
  · unfold pmP
    rcases e with e | e
    · rw [h4 i e]; simp
    · rw [e, h.o]; simp

end Go.Proofs.YtfipfoplmopkaaaGreatDoor

namespace Go.Proofs.YtfipfoplmopkaaaGreatDoor
open Go.RowKit Go.Maps

/-- A series: the numbers of its labels' words; what stands behind them; the sum. -/
structure Se where
  ps : List (Nat × Nat)
  tl : List UInt8
  sm : List UInt8
def pairB (p : Nat × Nat) : List UInt8 := Lib.uvarint p.1 ++ Lib.uvarint p.2
def pairsB (l : List (Nat × Nat)) : List UInt8 := (l.map pairB).flatten
theorem pairsB_cons (p : Nat × Nat) (l : List (Nat × Nat)) : pairsB (p :: l) = Lib.uvarint p.1 ++ (Lib.uvarint p.2 ++ pairsB l) := by simp [pairsB, pairB]
theorem pairsB_drop {l : List (Nat × Nat)} {i : Nat} (h : i < l.length) : pairsB (l.drop i) = Lib.uvarint l[i].1 ++ (Lib.uvarint l[i].2 ++ pairsB (l.drop (i + 1))) := by
  rw [List.drop_eq_getElem_cons h, pairsB_cons]
def Se.c (s : Se) : List UInt8 := Lib.uvarint s.ps.length ++ (pairsB s.ps ++ s.tl)
def Se.d (s : Se) : List UInt8 := Lib.uvarint s.c.length ++ (s.c ++ s.sm)
/-- The series, from the place p on. -/
def serBs : Nat → List Se → List UInt8
  | _, [] => []
  | p, s :: r => zeros (padN p 16) ++ (s.d ++ serBs (p + padN p 16 + s.d.length) r)

/-- What is asked of a series: numbers of words below n. -/
structure Se.ok (n : Nat) (s : Se) : Prop where
  p : ∀ q ∈ s.ps, q.1 < n ∧ q.2 < n
  l : s.ps.length < 1000000
  c : s.c.length < 100000000
  s4 : s.sm.length = 4

theorem Se.c_pos (s : Se) : 1 ≤ s.c.length := by
  have := Lib.uvarint_pos s.ps.length
  simp [Se.c]; omega
theorem Se.d_pos (s : Se) : 1 ≤ s.d.length := by
  have := Lib.uvarint_pos s.c.length
  simp [Se.d]; omega

theorem uv_head {x : Nat} (h : 1 ≤ x) : ∃ (u : UInt8) (r : List UInt8), Lib.uvarint x = u :: r ∧ u ≠ 0 := by
  by_cases h1 : x < 128
  · refine ⟨x.toUInt8, [], Lib.uvarint_small h1, fun e => ?_⟩
    have := congrArg UInt8.toNat e
    simp [Nat.toUInt8] at this
    omega
  · refine ⟨(x % 128 + 128).toUInt8, Lib.uvarint (x / 128), Lib.uvarint_big (by omega), fun e => ?_⟩
    have := congrArg UInt8.toNat e
    simp [Nat.toUInt8] at this
    omega
/-- The first byte of a series is not nought. -/
theorem Se.head (s : Se) (t : List UInt8) : ∃ (u : UInt8) (r : List UInt8), s.d ++ t = u :: r ∧ u ≠ 0 := by
  obtain ⟨u, r, h, hu⟩ := uv_head s.c_pos
  exact ⟨u, r ++ (s.c ++ s.sm) ++ t, by simp [Se.d, h], hu⟩

theorem padN_mod (p : Nat) : (p + padN p 16) % 16 = 0 := by unfold padN; omega

theorem serBs_snoc (s : Se) : ∀ (l : List Se) (p : Nat), serBs p (l ++ [s]) = serBs p l ++ (zeros (padN (p + (serBs p l).length) 16) ++ s.d)
  | [], p => by simp [serBs]
  | x :: r, p => by
    have ih := serBs_snoc s r (p + padN p 16 + x.d.length)
    simp only [List.cons_append, serBs, ih, List.append_assoc, List.length_append, zeros_len]
    rw [show p + (padN p 16 + (x.d.length + (serBs (p + padN p 16 + x.d.length) r).length)) = p + padN p 16 + x.d.length + (serBs (p + padN p 16 + x.d.length) r).length by omega]

/-- The number of all labels. -/
def seN (l : List Se) : Nat := (l.map fun s => s.ps.length).sum
theorem seN_drop {l : List Se} {j : Nat} (h : j < l.length) : seN (l.take (j + 1)) = seN (l.take j) + l[j].ps.length := by
  unfold seN
  rw [List.take_succ_eq_append_getElem h]
  simp only [List.map_append, List.map_cons, List.map_nil, List.sum_append, List.sum_cons, List.sum_nil, Nat.add_zero]
theorem seN_take_le (l : List Se) (j : Nat) : seN (l.take j) ≤ seN l := by
  unfold seN
  conv => rhs; rw [← List.take_append_drop j l]
  rw [List.map_append, List.sum_append]; omega
theorem seN_at {l : List Se} {j : Nat} (h : j < l.length) : seN (l.take j) + l[j].ps.length ≤ seN l := by
  rw [← seN_drop h]; exact seN_take_le l _

end Go.Proofs.YtfipfoplmopkaaaGreatDoor
