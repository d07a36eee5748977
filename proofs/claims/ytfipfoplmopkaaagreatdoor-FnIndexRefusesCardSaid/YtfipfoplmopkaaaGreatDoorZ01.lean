/- Labels as bytes: what two encodings tell of the strings. No condition. Labels: reading the data's strings: decodeSize(102), decodeString(103). Conditions: sizes below 255. Memory words for the proof of FnIndexRefuses: what a call may change ('Kept'), byte buffers, the struct Encbuf in memory. No condition. Labels: the data as a list of strings; Len(60), IsEmpty(58), CopyFrom(65). Conditions: sizes below 255. labels.Compare(57): it answers as the order of the strings. Conditions: sizes below 255. Contracts of functions of the library, laid over this program by the kit's command lay-plain.mjs (no condition beyond those that each states). The methods of Encbuf, by contract. No condition but bounds on lengths. indexFew's great condition, taken out of the translation; operations that are not wanted. No condition. -/
import Derived.Test.YtfipfoplmopkaaaGreatDoorProg
import Derived.WalkKit
import Derived.KernelRfl
import Derived.RowKit3
import Derived.Lib.Hide
import Derived.WideLaws
import Derived.Laws.Strings2
import Derived.Deep.QuietTactic
import Derived.Deep.AppendLies
import Derived.Deep.RegionLaw
import Derived.Deep.Onto
import Derived.Deep.DeepCutAuto
import Derived.Deep.CutBlock
import Derived.Deep.CutRange
import Derived.Deep.RegionHeld3
import Derived.OrdersHeld
import Derived.Sort.Walk0
import Derived.Shelf.Small.Bits
import Derived.Shelf.Small.Strs
import Derived.Shelf.Strconv.Itoa0
import Derived.Ground.MnProg
import Derived.Shelf.Bin.BEUint32
import Derived.Shelf.Bin.BEPutUint32
import Derived.Shelf.Bin.BEPutUint64
import Derived.Shelf.Bin.BEUint32Panics
import Derived.Shelf.Bin.PutUvarint
import Derived.Shelf.Bin.PutVarint
import Derived.Shelf.Bin.ReadersZ
import Derived.Outline
import Derived.WalkLawsBesides
import Derived.WalkSpells
import Derived.StillTailTactics

namespace Go.Proofs.YtfipfoplmopkaaaGreatDoor

/-- A string of labels' data: its length in one byte, its bytes. -/
def eS (s : List UInt8) : List UInt8 := UInt8.ofNat s.length :: s
def eF : List (List UInt8) → List UInt8
  | [] => []
  | s :: t => eS s ++ eF t

theorem eS_len (s : List UInt8) : (eS s).length = 1 + s.length := by simp [eS]; omega
theorem eF_app (a b : List (List UInt8)) : eF (a ++ b) = eF a ++ eF b := by
  induction a with
  | nil => rfl
  | cons s t ih => simp [eF, ih, List.append_assoc]
theorem eS_pos (s : List UInt8) : 0 < (eS s).length := by simp [eS]

theorem byte_inj {m n : Nat} (hm : m < 255) (hn : n < 255) (h : UInt8.ofNat m = UInt8.ofNat n) : m = n := by
  have := congrArg UInt8.toNat h
  simp at this
  omega

/-- Two encodings that begin alike have strings that are alike. -/
theorem eS_eq {s t x y : List UInt8} (hs : s.length < 255) (ht : t.length < 255) (h : eS s ++ x = eS t ++ y) : s = t ∧ x = y := by
  simp only [eS, List.cons_append, List.cons.injEq] at h
  have hl := byte_inj hs ht h.1
  exact List.append_inj h.2 hl

theorem eF_pre : ∀ (fs gs : List (List UInt8)), (∀ s ∈ fs, s.length < 255) → (∀ s ∈ gs, s.length < 255) → eF fs <+: eF gs → fs <+: gs
  | [], gs, _, _, _ => List.nil_prefix
  | s :: f, [], _, _, h => by
    obtain ⟨x, hx⟩ := h
    simp [eF, eS] at hx
  | s :: f, t :: g, hf, hg, h => by
    obtain ⟨x, hx⟩ := h
    simp only [eF, List.append_assoc] at hx
    obtain ⟨e, e2⟩ := eS_eq (hf s (by simp)) (hg t (by simp)) hx
    have ih := eF_pre f g (fun s h => hf s (by simp [h])) (fun s h => hg s (by simp [h])) ⟨x, e2⟩
    obtain ⟨y, hy⟩ := ih
    exact ⟨y, by simp [e, hy]⟩

/-- Where two encodings differ first, there is the first string that differs. -/
theorem eF_diff : ∀ (fs gs : List (List UInt8)), (∀ s ∈ fs, s.length < 255) → (∀ s ∈ gs, s.length < 255) → ∀ fd, fd < (eF fs).length → fd < (eF gs).length →
    (eF fs).take fd = (eF gs).take fd → (eF fs)[fd]? ≠ (eF gs)[fd]? →
    ∃ c s t f g, fs = c ++ s :: f ∧ gs = c ++ t :: g ∧ s ≠ t ∧ (eF c).length ≤ fd ∧ fd < (eF c).length + 1 + s.length
  | [], _, _, _, fd, h, _, _, _ => by simp [eF] at h
  | _ :: _, [], _, _, fd, _, h, _, _ => by simp [eF] at h
  | s :: f, t :: g, hf, hg, fd, h1, h2, htk, hne => by
    by_cases e : s = t
    · subst e
      have hfd : (eS s).length ≤ fd := by
        apply Nat.le_of_not_lt
        intro hlt
        apply hne
        simp only [eF]
        rw [List.getElem?_append_left hlt, List.getElem?_append_left hlt]
      have ih := eF_diff f g (fun x h => hf x (by simp [h])) (fun x h => hg x (by simp [h])) (fd - (eS s).length) (by simp only [eF, List.length_append] at h1; omega) (by simp only [eF, List.length_append] at h2; omega) (by
        have := congrArg (List.drop (eS s).length) htk
        simp only [eF, List.take_append, List.drop_append] at this
        rw [List.take_of_length_le hfd] at this
        simpa using this) (by
        intro hh; apply hne; simp only [eF]
        rw [List.getElem?_append_right hfd, List.getElem?_append_right hfd]; exact hh)
      obtain ⟨c, s', t', f', g', h3, h4, h5, h6, h7⟩ := ih
      refine ⟨s :: c, s', t', f', g', by rw [h3]; rfl, by rw [h4]; rfl, h5, ?_, ?_⟩
      · simp only [eF, List.length_append]; omega
      · simp only [eF, List.length_append]; omega
    · refine ⟨[], s, t, f, g, rfl, rfl, e, Nat.zero_le _, ?_⟩
      apply Nat.lt_of_not_le
      intro hle
      simp only [eF, List.length_nil, Nat.zero_add] at hle
      apply e
      have h0 : (eF (s :: f)).take 1 = (eF (t :: g)).take 1 := by
        have := congrArg (List.take 1) htk
        rwa [List.take_take, List.take_take, Nat.min_eq_left (by omega)] at this
      simp [eF, eS] at h0
      have hl := byte_inj (hf s (by simp)) (hg t (by simp)) h0
      have h9 : (eF (s :: f)).take (1 + s.length) = (eF (t :: g)).take (1 + s.length) := by
        have := congrArg (List.take (1 + s.length)) htk
        rwa [List.take_take, List.take_take, Nat.min_eq_left (by omega)] at this
      rw [eF, eF, List.take_append_of_le_length (by rw [eS_len]; omega), List.take_append_of_le_length (by rw [eS_len]; omega), List.take_of_length_le (by rw [eS_len]; omega), List.take_of_length_le (by rw [eS_len]; omega)] at h9
      simp only [eS, List.cons.injEq] at h9
      exact h9.2

/-- The order of labels, string by string. -/
def cmpF : List (List UInt8) → List (List UInt8) → Int
  | [], g => -(g.length : Int)
  | f, [] => f.length
  | s :: f, t :: g => if s = t then cmpF f g else if s < t then -1 else 1

theorem cmpF_app (c f g : List (List UInt8)) : cmpF (c ++ f) (c ++ g) = cmpF f g := by
  induction c with
  | nil => rfl
  | cons s c ih => simp [cmpF, ih]
theorem cmpF_diff (c : List (List UInt8)) (s t : List UInt8) (f g : List (List UInt8)) (h : s ≠ t) : cmpF (c ++ s :: f) (c ++ t :: g) = if s < t then -1 else 1 := by
  rw [cmpF_app]; simp [cmpF, h]
theorem cmpF_pre (f x : List (List UInt8)) : cmpF f (f ++ x) = -(x.length : Int) := by
  have := cmpF_app f [] x
  rw [List.append_nil] at this
  rw [this]; rfl
theorem cmpF_pre' (f x : List (List UInt8)) : cmpF (f ++ x) f = x.length := by
  have := cmpF_app f x []
  rw [List.append_nil] at this
  rw [this]; cases x <;> simp [cmpF]
theorem eF_len_le (x : List (List UInt8)) : x.length ≤ (eF x).length := by
  induction x with
  | nil => simp
  | cons s t ih => simp [eF, eS_len]; omega

/-- What the comparison of encodings answers where one begins the other. -/
theorem cmp_short (fs gs : List (List UInt8)) (hf : ∀ s ∈ fs, s.length < 255) (hg : ∀ s ∈ gs, s.length < 255) (h : eF fs <+: eF gs ∨ eF gs <+: eF fs) :
    (((eF fs).length : Int) - (eF gs).length ≤ 0 ↔ cmpF fs gs ≤ 0) := by
  rcases h with h | h
  · obtain ⟨x, rfl⟩ := eF_pre fs gs hf hg h
    rw [cmpF_pre, eF_app, List.length_append]; constructor <;> intro _ <;> omega
  · obtain ⟨x, rfl⟩ := eF_pre gs fs hg hf h
    rw [cmpF_pre', eF_app, List.length_append]
    have := eF_len_le x
    constructor
    · intro _; omega
    · intro _
      have : x = [] := by cases x with | nil => rfl | cons a b => simp only [List.length_cons] at *; omega
      subst this; simp [eF]

/-- A string of the data, where it lies. -/
theorem eF_at (c : List (List UInt8)) (s : List UInt8) (f : List (List UInt8)) : (eF (c ++ s :: f))[(eF c).length]? = some (UInt8.ofNat s.length) := by
  rw [eF_app, List.getElem?_append_right (Nat.le_refl _), Nat.sub_self]; rfl
theorem eF_sl (c : List (List UInt8)) (s : List UInt8) (f : List (List UInt8)) : ((eF (c ++ s :: f)).drop ((eF c).length + 1)).take s.length = s := by
  rw [eF_app, List.drop_append, List.drop_of_length_le (by omega), List.nil_append]
  have : (eF c).length + 1 - (eF c).length = 1 := by omega
  rw [this]
  simp [eF, eS]
theorem eF_snoc (c : List (List UInt8)) (s : List UInt8) : (eF (c ++ [s])).length = (eF c).length + 1 + s.length := by
  rw [eF_app, List.length_append]; simp [eF, eS_len]; omega

end Go.Proofs.YtfipfoplmopkaaaGreatDoor

namespace Go.Proofs.YtfipfoplmopkaaaGreatDoor
open Go.RowKit

/-- A byte of a string; 0 behind it. -/
def sb (s : ByteArray) (i : Nat) : Nat := if h : i < s.size then (s[i]'h).toNat else 0
theorem sb_at (s : ByteArray) (i : Nat) : ∀ h : i < s.size, (s[i]'h).toNat = sb s i := fun h => by simp [sb, h]
theorem sb_data (s : ByteArray) (i : Nat) (u : UInt8) (h : s.data.toList[i]? = some u) : i < s.size ∧ sb s i = u.toNat := by
  have h1 : i < s.data.toList.length := by
    by_cases hl : i < s.data.toList.length
    · exact hl
    · rw [List.getElem?_eq_none (by omega)] at h; cases h
  have h2 : i < s.size := by simpa using h1
  refine ⟨h2, ?_⟩
  rw [List.getElem?_eq_getElem h1] at h
  simp only [Option.some.injEq] at h
  simp only [sb, h2, dite_true]
  rw [← h]
  rfl
theorem ext_data (s : ByteArray) (i n : Nat) : (s.extract i (i + n)).data.toList = (s.data.toList.drop i).take n := by
  simp [ByteArray.data_extract, Array.toList_extract, List.extract]

set_option maxRecDepth 100000 in
set_option maxHeartbeats 1000000 in
theorem decSize_any (s : ByteArray) (i b : Nat) (w : World) (hi : i < s.size) (hb : sb s i = b) (h5 : b < 255) (hi9 : i < 100000000) :
    Calls Tryz.prog 102 #[.string s, .int .i64 i] w fun e w' => e = .returned (.tuple #[.int .i64 b, .int .i64 (i + 1)]) ∧ w' = w := by
  have hx := sb_at s i
  have hI : (i : Int) < s.size := by omega
  go_enter Tryz.func102, Tryz.ntmps102
  go_wp2
  go_ret2
  exact ⟨rfl, rfl⟩

set_option maxRecDepth 100000 in
set_option maxHeartbeats 1000000 in
theorem decStr_any (s : ByteArray) (i b : Nat) (w : World) (hi : i + 1 + b ≤ s.size) (hb : sb s i = b) (h5 : b < 255) (hi9 : i < 100000000) :
    Calls Tryz.prog 103 #[.string s, .int .i64 i] w fun e w' => e = .returned (.tuple #[.string (s.extract (i + 1) (i + 1 + b)), .int .i64 (i + 1 + b)]) ∧ w' = w := by
  have hd := Lib.hid (fun w => decSize_any s i b w (by omega) hb h5 hi9)
  have hI : (i : Int) + 1 + b ≤ s.size := by omega
  clear hb
  have hsl := fun w' => run_slice_string (P := Tryz.prog) w' 9 s .i64 .i64 ((i : Int) + 1) ((i : Int) + 1 + b) Tryz.underlying9 (by omega) (by omega) hI
  rw [show ((i : Int) + 1).toNat = i + 1 by omega, show ((i : Int) + 1 + b).toNat = i + 1 + b by omega] at hsl
  go_enter Tryz.func103, Tryz.ntmps103
  go_wp2_with (go_at_call 102; refine (hd.out _).mono ?_; rintro e w' ⟨rfl, rfl⟩)
  go_ret2
  exact ⟨rfl, rfl⟩

end Go.Proofs.YtfipfoplmopkaaaGreatDoor

namespace Go.Proofs.YtfipfoplmopkaaaGreatDoor
open Go.RowKit

/-- What a call leaves: all cells outside P, all blocks that P does not touch, are as they were. -/
structure Kept (P : Nat → Nat → Prop) (w w' : World) : Prop where
  os : w'.os = w.os
  tape : w'.tape = w.tape
  output : w'.output = w.output
  size : w.heap.size ≤ w'.heap.size
  cell : ∀ k off, k < w.heap.size → ¬ P k off → w'.cell? ⟨k, off, none⟩ = w.cell? ⟨k, off, none⟩
  fr : ∀ k off, k < w.heap.size → w'.frozen? ⟨k, off, none⟩ = w.frozen? ⟨k, off, none⟩
  block : ∀ k, k < w.heap.size → (∀ off, ¬ P k off) → w'.heap[k]? = w.heap[k]?

theorem Kept.refl (P : Nat → Nat → Prop) (w : World) : Kept P w w := ⟨rfl, rfl, rfl, Nat.le_refl _, fun _ _ _ _ => rfl, fun _ _ _ => rfl, fun _ _ _ => rfl⟩

theorem Kept.trans {P Q : Nat → Nat → Prop} {a b c : World} (h : Kept P a b) (k : Kept Q b c) (hq : ∀ i o, i < a.heap.size → Q i o → P i o) : Kept P a c :=
  ⟨k.os.trans h.os, k.tape.trans h.tape, k.output.trans h.output, Nat.le_trans h.size k.size,
   fun i o hi hn => (k.cell i o (Nat.lt_of_lt_of_le hi h.size) (fun hQ => hn (hq i o hi hQ))).trans (h.cell i o hi hn),
   fun i o hi => (k.fr i o (Nat.lt_of_lt_of_le hi h.size)).trans (h.fr i o hi),
   fun i hi hn => (k.block i (Nat.lt_of_lt_of_le hi h.size) (fun o hQ => hn o (hq i o hi hQ))).trans (h.block i hi hn)⟩

theorem Kept.mono {P Q : Nat → Nat → Prop} {w w' : World} (h : Kept P w w') (hq : ∀ i o, i < w.heap.size → P i o → Q i o) : Kept Q w w' :=
  ⟨h.os, h.tape, h.output, h.size, fun i o hi hn => h.cell i o hi (fun hP => hn (hq i o hi hP)), h.fr, fun i hi hn => h.block i hi (fun o hP => hn o (hq i o hi hP))⟩

theorem Kept.drew (P : Nat → Nat → Prop) (w : World) : Kept P w w.drew := ⟨rfl, rfl, rfl, Nat.le_refl _, fun _ _ _ _ => rfl, fun _ _ _ => rfl, fun _ _ _ => rfl⟩

theorem Kept.alloc (P : Nat → Nat → Prop) (w : World) (o : Obj) : Kept P w (w.alloc o) :=
  ⟨rfl, rfl, rfl, by simp, fun _ _ hk _ => World.cell?_alloc_lt w o _ hk, fun _ _ hk => World.frozen?_alloc_old w o _ (Nat.ne_of_lt hk), fun k hk _ => heap_alloc_old w o hk⟩

theorem Kept.grown {P : Nat → Nat → Prop} {w w' : World} {row : Option Nat} (h : w.grownBy w' row) (hp : ∀ k o, row = some k → P k o) (hfr : ∀ k o, row = some k → w'.frozen? ⟨k, o, none⟩ = w.frozen? ⟨k, o, none⟩) : Kept P w w' := by
  refine ⟨h.os, h.tape, h.output, h.size, fun k o hk hn => ?_, fun k o hk => ?_, fun k hk hn => ?_⟩
  · exact World.cell?_of_block (a := ⟨k, o, none⟩) (h.block k hk (fun e => hn (hp k o e.symm)))
  · by_cases e : row = some k
    · exact hfr k o e
    · exact World.frozen?_of_block (a := ⟨k, o, none⟩) (h.block k hk (fun e' => e e'.symm))
  · exact h.block k hk (fun e => hn 0 (hp k 0 e.symm))

theorem heap_setCell_other (w : World) (a : Addr) (v : Value) (k : Nat) (h : k ≠ a.block) : (w.setCell a v).heap[k]? = w.heap[k]? := by
  simp only [World.setCell, Array.getElem?_modify]
  rw [if_neg (fun e => h e.symm)]

theorem Kept.setCell {P : Nat → Nat → Prop} (w : World) (b o : Nat) (v : Value) (hp : P b o) : Kept P w (w.setCell ⟨b, o, none⟩ v) := by
  refine ⟨rfl, rfl, rfl, by simp, fun k o' hk hn => ?_, fun k o' hk => World.frozen?_setCell w _ _ _, fun k hk hn => ?_⟩
  · exact World.cell?_setCell_other w _ _ _ (fun e => hn (by cases e; exact hp))
  · exact heap_setCell_other w _ v k (fun e => hn o (by simp at e; subst e; exact hp))

/-- A byte as the model has it. -/
def bV (b : UInt8) : Value := .int .u8 (b.toNat : Int)
def bVs (l : List UInt8) : List Value := l.map bV
theorem bVs_append (a b : List UInt8) : bVs (a ++ b) = bVs a ++ bVs b := by simp [bVs]
@[simp] theorem bVs_length (a : List UInt8) : (bVs a).length = a.length := by simp [bVs]
theorem bVs_get {l : List UInt8} {j : Nat} {u : Value} (h : (bVs l)[j]? = some u) : ∃ b, l[j]? = some b ∧ u = bV b := by
  simp only [bVs, List.getElem?_map, Option.map_eq_some_iff] at h
  obtain ⟨b, hb, rfl⟩ := h
  exact ⟨b, hb, rfl⟩
theorem bVs_one {l : List UInt8} : ∀ u ∈ bVs l, u.oneCell' = true := by
  intro u hu
  simp only [bVs, List.mem_map] at hu
  obtain ⟨b, _, rfl⟩ := hu
  rfl

/-- The block of a value that was, or a new one. -/
def Mv (g g' : Option Nat) (w : World) : Prop := g' = g ∨ ∃ b, g' = some b ∧ w.heap.size ≤ b
theorem Mv.rfl' (g : Option Nat) (w : World) : Mv g g w := .inl rfl
theorem Mv.trans {g g1 g2 : Option Nat} {w w1 : World} (h : Mv g g1 w) (k : Mv g1 g2 w1) (hs : w.heap.size ≤ w1.heap.size) : Mv g g2 w := by
  rcases k with rfl | ⟨b, rfl, hb⟩
  · exact h
  · exact .inr ⟨b, rfl, Nat.le_trans hs hb⟩
theorem Mv.ne {g g' : Option Nat} {w : World} (h : Mv g g' w) {k : Nat} (hk : k < w.heap.size) (hn : g ≠ some k) : g' ≠ some k := by
  rcases h with rfl | ⟨b, rfl, hb⟩
  · exact hn
  · intro e; cases e; omega

/-- A slice of bytes that owns its array: the array's block g. -/
def Bf (w : World) (v : Value) (g : Option Nat) (l : List UInt8) : Prop := w.ownsRow 0 5 1 v l.length (bVs l) ∧ v.ownBlock = g

theorem ownsRow_block {w w' : World} {base : Nat} {e : TypeId} {size : Nat} {v : Value} {n : Nat} {xs : List Value} (h : w.ownsRow base e size v n xs) (hb : ∀ k, v.ownBlock = some k → w'.heap[k]? = w.heap[k]?) : w'.ownsRow base e size v n xs := by
  refine ⟨h.1, ?_⟩
  rcases h.2 with h' | ⟨g, cap, cur, rfl, h1, h2, h3⟩
  · exact .inl h'
  · exact .inr ⟨g, cap, cur, rfl, h1, (hb g rfl).trans h2, h3⟩

theorem Bf.lt {w : World} {v : Value} {g : Option Nat} {l : List UInt8} (h : Bf w v g l) : ∀ k, g = some k → k < w.heap.size := fun k hk => (h.1.lt k (h.2.trans hk)).2
theorem Bf.block {w w' : World} {v : Value} {g : Option Nat} {l : List UInt8} (h : Bf w v g l) (hb : ∀ k, g = some k → w'.heap[k]? = w.heap[k]?) : Bf w' v g l := ⟨ownsRow_block h.1 (fun k hk => hb k (h.2.symm.trans hk)), h.2⟩
theorem Bf.kept {w w' : World} {v : Value} {g : Option Nat} {l : List UInt8} {P : Nat → Nat → Prop} (h : Bf w v g l) (hk : Kept P w w') (hn : ∀ k o, g = some k → ¬ P k o) : Bf w' v g l :=
  h.block (fun k e => hk.block k (h.lt k e) (fun o => hn k o e))
theorem Bf.nil (w : World) : Bf w (.slice none 0 0) none [] := ⟨World.ownsRow_nil _ _ _ _, rfl⟩
theorem Bf.form {w : World} {v : Value} {g : Option Nat} {l : List UInt8} (h : Bf w v g l) : (v = .slice none 0 0 ∧ g = none ∧ l = []) ∨ ∃ b cap, v = .slice (some ⟨b, 0, none⟩) l.length cap ∧ g = some b ∧ l.length ≤ cap ∧ cap ≤ maxLen := by
  obtain ⟨h1, h2⟩ := h
  rcases h1.2 with ⟨rfl, h0⟩ | ⟨b, cap, cur, rfl, _, _, hle, hm, _⟩
  · exact .inl ⟨rfl, h2.symm, List.eq_nil_of_length_eq_zero h0⟩
  · exact .inr ⟨b, cap, rfl, h2.symm, hle, hm⟩
theorem Bf.cells {w : World} {v : Value} {b : Nat} {l : List UInt8} (h : Bf w v (some b) l) : ∀ j u, l[j]? = some u → w.cell? ⟨b, j, none⟩ = some (bV u) := by
  intro j u hu
  have := h.1.cells h.2 j (bV u) (by simp [bVs, hu])
  rwa [Addr.add_lit, Nat.zero_add] at this
theorem Bf.frz {w : World} {v : Value} {b : Nat} {l : List UInt8} (h : Bf w v (some b) l) (j : Nat) : w.frozen? ⟨b, j, none⟩ = false := by
  rcases h.form with ⟨_, hn, _⟩ | ⟨b', cap, rfl, hb, _⟩
  · cases hn
  · cases hb; exact h.1.frozenAt j

/-- What an append leaves: the old row written on, or a new row beside it. -/
structure App (w w' : World) (e size : Nat) (v v' : Value) (n : Nat) (xs : List Value) : Prop where
  own : w'.ownsRow 0 e size v' n xs
  lies : (v'.ownBlock = v.ownBlock ∧ w.grownBy w' v.ownBlock) ∨ (∃ g, v'.ownBlock = some g ∧ w.heap.size ≤ g ∧ w.grownBy w' none)

theorem run_app {P : Program} (w : World) (t ty e : TypeId) (i : TypeInfo) (z : Value) (size bytes : Nat) (ht : P.underlying t = some (.slice e)) (hi : P.info? e = some i) (hz : i.zero = some z)
    (hsize : i.size = size) (hby : i.bytes = bytes) (hzs : z.cells.size = size) (hsz : 0 < size) (v : Value) (n : Nat) (xs : List Value) (hown : w.ownsRow 0 e size v n xs)
    (ao : Option Addr) (m c : Nat) (news : List Value) (hl : news.length = m * size) (hno : ao = none → m = 0 ∧ c = 0) (hnews : ∀ ad, ao = some ad → ∀ j u, news[j]? = some u → w.cell? (ad.add j) = some u) (h1 : ∀ u ∈ news, u.oneCell' = true)
    (h63 : n + m ≤ maxLen) (hbytes : (n + m) * bytes ≤ 140737488355328) :
    ∃ v' w', (Builtin.append_ #[t, t] ty #[v, .slice ao m c]).run P w = .ok v' w' ∧ App w w' e size v v' (n + m) (xs ++ news) := by
  cases ao with
  | none =>
    obtain ⟨rfl, rfl⟩ := hno rfl
    obtain rfl : news = [] := List.eq_nil_of_length_eq_zero (by simpa using hl)
    exact ⟨v, w, run_append_owned_none w 0 t ty e i size ht hi v n xs hown, by simpa using hown, .inl ⟨rfl, .refl _ _⟩⟩
  | some a =>
    rcases hown.2 with ⟨rfl, rfl⟩ | ⟨g, cap, cur, rfl, hb, hg, hnc, hcm, hcs, htake⟩
    · obtain ⟨v', w', hr, h2, h3, h4, h5⟩ := run_append_own_at (P := P) w 0 t ty e i z size bytes ht hi hz hsize hby hzs hsz _ 0 xs hown a m c news hl (hnews a rfl) h1 h63 hbytes (Nat.zero_le _)
      refine ⟨v', w', hr, h2, ?_⟩
      rcases h5 with h5 | h5
      · exact .inl ⟨h5, h3⟩
      · exact .inr ⟨_, h5, Nat.le_refl _, h3⟩
    · by_cases hr : n + m ≤ cap
      · obtain ⟨w', hr', h2, h3⟩ := run_append_fits (P := P) w 0 t ty e i size ht hi hsize g n cap xs hown a m c news hl (hnews a rfl) h1 hr
        exact ⟨_, w', hr', h2, .inl ⟨rfl, h3⟩⟩
      · obtain ⟨v', w', hr', h2, h3⟩ := run_append_arg_grows (P := P) w t ty e i z size bytes ht hi hz hsize hby hzs hsz ⟨g, 0, none⟩ n cap xs hown.1 (hown.cells rfl) a m c news hl (hnews a rfl) (by omega) h63 hbytes
        obtain ⟨g', cap', rfl, hg', _⟩ := h2.form (by omega)
        exact ⟨_, w', hr', h2.mono (Nat.zero_le _), .inr ⟨g', rfl, hg', h3⟩⟩

section
variable {P : Program} (w : World) {ops : Array Oper} {rest : List Oper} {o : Oper} {a : Act} {K : Act → World → Prop} {Q : Exit → Act → World → Prop} {E : Prop}

theorem wp_app (s x : Operand) (t : TypeId) (ho : o.op = .call { callee := .builtin .append, args := #[s, x], argTypes := #[t, t] })
    (e : TypeId) (i : TypeInfo) (z : Value) (size bytes : Nat) (ht : P.underlying t = some (.slice e)) (hi : P.info? e = some i) (hz : i.zero = some z)
    (hsize : i.size = size) (hby : i.bytes = bytes) (hzs : z.cells.size = size) (hsz : 0 < size) (v : Value) (n : Nat) (xs : List Value) (hs : a.eval s = v) (hown : w.ownsRow 0 e size v n xs)
    (ao : Option Addr) (m c : Nat) (news : List Value) (hx : a.eval x = .slice ao m c) (hl : news.length = m * size) (hno : ao = none → m = 0 ∧ c = 0) (hnews : ∀ ad, ao = some ad → ∀ j u, news[j]? = some u → w.cell? (ad.add j) = some u) (h1 : ∀ u ∈ news, u.oneCell' = true)
    (h63 : n + m ≤ maxLen) (hbytes : (n + m) * bytes ≤ 140737488355328)
    (h : ∀ v' w', App w w' e size v v' (n + m) (xs ++ news) → K (a.put o.dst v') w') : o.wp P a w K Q := by
  obtain ⟨v', w', hr, h2⟩ := run_app (P := P) w t o.type e i z size bytes ht hi hz hsize hby hzs hsz v n xs hown ao m c news hl hno hnews h1 h63 hbytes
  unfold Oper.wp execOp
  simp only [ho, resolve, invoke, builtin, Sem.run_bind, Sem.run_pure, Result.andThen_ok, List.map_toArray, List.map_cons, List.map_nil, hs, hx, hr]
  exact h v' w' h2

theorem wpList_app (hgd : o.guard = none) (s x : Operand) (t : TypeId) (ho : o.op = .call { callee := .builtin .append, args := #[s, x], argTypes := #[t, t] })
    (e : TypeId) (i : TypeInfo) (z : Value) (size bytes : Nat) (ht : P.underlying t = some (.slice e)) (hi : P.info? e = some i) (hz : i.zero = some z)
    (hsize : i.size = size) (hby : i.bytes = bytes) (hzs : z.cells.size = size) (hsz : 0 < size) (v : Value) (n : Nat) (xs : List Value) (hs : a.eval s = v) (hown : w.ownsRow 0 e size v n xs)
    (ao : Option Addr) (m c : Nat) (news : List Value) (hx : a.eval x = .slice ao m c) (hl : news.length = m * size) (hno : ao = none → m = 0 ∧ c = 0) (hnews : ∀ ad, ao = some ad → ∀ j u, news[j]? = some u → w.cell? (ad.add j) = some u) (h1 : ∀ u ∈ news, u.oneCell' = true)
    (h63 : n + m ≤ maxLen) (hbytes : (n + m) * bytes ≤ 140737488355328)
    (h : ∀ v' w', App w w' e size v v' (n + m) (xs ++ news) → wpList P ops Q rest (a.put o.dst v') w') : wpList P ops Q (o :: rest) a w :=
  wpList_plain hgd fun _ hK => wp_app w s x t ho e i z size bytes ht hi hz hsize hby hzs hsz v n xs hs hown ao m c news hx hl hno hnews h1 h63 hbytes fun v' w' h2 => hK _ _ (h v' w' h2)

theorem step_app (hgd : o.guard = none) (s x : Operand) (t : TypeId) (ho : o.op = .call { callee := .builtin .append, args := #[s, x], argTypes := #[t, t] })
    (e : TypeId) (i : TypeInfo) (z : Value) (size bytes : Nat) (ht : P.underlying t = some (.slice e)) (hi : P.info? e = some i) (hz : i.zero = some z)
    (hsize : i.size = size) (hby : i.bytes = bytes) (hzs : z.cells.size = size) (hsz : 0 < size) (v : Value) (n : Nat) (xs : List Value) (hs : a.eval s = v) (hown : w.ownsRow 0 e size v n xs)
    (ao : Option Addr) (m c : Nat) (news : List Value) (hx : a.eval x = .slice ao m c) (hl : news.length = m * size) (hno : ao = none → m = 0 ∧ c = 0) (hnews : ∀ ad, ao = some ad → ∀ j u, news[j]? = some u → w.cell? (ad.add j) = some u) (h1 : ∀ u ∈ news, u.oneCell' = true)
    (h63 : n + m ≤ maxLen) (hbytes : (n + m) * bytes ≤ 140737488355328)
    (h : ∀ v' w', App w w' e size v v' (n + m) (xs ++ news) → K (a.put o.dst v') w') : if Region.wanted o (yielded ops a.tmps) = true then Oper.wp P o a w K Q else E := by
  have hw : Region.wanted o (yielded ops a.tmps) = true := by simp [Region.wanted, hgd]
  rw [if_pos hw]
  exact wp_app w s x t ho e i z size bytes ht hi hz hsize hby hzs hsz v n xs hs hown ao m c news hx hl hno hnews h1 h63 hbytes h
end

theorem ownsRow_frz {w : World} {base : Nat} {e : TypeId} {size : Nat} {v : Value} {n : Nat} {xs : List Value} (h : w.ownsRow base e size v n xs) {g : Nat} (hg : v.ownBlock = some g) (j : Nat) : w.frozen? ⟨g, j, none⟩ = false := by
  rcases h.2 with ⟨rfl, _⟩ | ⟨b, cap, cur, rfl, _⟩
  · cases hg
  · cases hg; exact h.frozenAt j

theorem App.mv {w w' : World} {e size : Nat} {v v' : Value} {n : Nat} {xs : List Value} (h : App w w' e size v v' n xs) : Mv v.ownBlock v'.ownBlock w := by
  rcases h.lies with ⟨h, _⟩ | ⟨g, h1, h2, _⟩
  · exact .inl h
  · exact .inr ⟨g, h1, h2⟩
theorem App.kept {w w' : World} {e size : Nat} {v v' : Value} {n n0 : Nat} {xs xs0 : List Value} (h : App w w' e size v v' n xs) (h0 : w.ownsRow 0 e size v n0 xs0) : Kept (fun k _ => v.ownBlock = some k) w w' := by
  rcases h.lies with ⟨he, hg⟩ | ⟨g, h1, h2, hg⟩
  · exact Kept.grown hg (fun _ _ e => e) (fun k o e => by rw [ownsRow_frz h0 e, ownsRow_frz h.own (he.trans e)])
  · exact Kept.grown hg (fun _ _ e => by cases e) (fun _ _ e => by cases e)
/-- What lay in the old row's head lies there still. -/
theorem App.head {w w' : World} {e size : Nat} {v v' : Value} {n n0 : Nat} {xs xs0 news : List Value} (h : App w w' e size v v' n xs) (h0 : w.ownsRow 0 e size v n0 xs0) (hx : xs = xs0 ++ news) {g : Nat} (hg : v.ownBlock = some g) (j : Nat) (hj : j < xs0.length) : w'.cell? ⟨g, j, none⟩ = w.cell? ⟨g, j, none⟩ := by
  rcases h.lies with ⟨he, _⟩ | ⟨g', h1, h2, hgr⟩
  · have a := h0.cells hg j xs0[j] (by simp [hj])
    have b := h.own.cells (he.trans hg) j xs0[j] (by rw [hx, List.getElem?_append_left hj]; simp [hj])
    rw [Addr.add_lit, Nat.zero_add] at a b
    rw [a, b]
  · exact World.cell?_of_block (a := ⟨g, j, none⟩) (hgr.block g (h0.lt g hg).2 (fun e => by cases e))

theorem App.bf {w w' : World} {v v' : Value} {l k : List UInt8} (h : App w w' 5 1 v v' (l.length + k.length) (bVs l ++ bVs k)) : Bf w' v' v'.ownBlock (l ++ k) := by
  refine ⟨?_, rfl⟩
  have := h.own
  rwa [← bVs_append, ← List.length_append] at this

theorem own_slice {w : World} {base : Nat} {e : TypeId} {size : Nat} {v : Value} {n : Nat} {xs : List Value} (h : w.ownsRow base e size v n xs) : ∃ ao c, v = .slice ao n c := by
  rcases h.2 with ⟨rfl, rfl⟩ | ⟨b, cap, cur, rfl, _⟩
  · exact ⟨_, _, rfl⟩
  · exact ⟨_, _, rfl⟩

/-- The struct Encbuf at (eb, o): its bytes l, their block g. -/
structure EB (w : World) (eb o : Nat) (g : Option Nat) (l : List UInt8) : Prop where
  lt : eb < w.heap.size
  b : ∃ v, w.cell? ⟨eb, o, none⟩ = some v ∧ Bf w v g l
  fr : ∀ j, j < 11 → w.frozen? ⟨eb, o + j, none⟩ = false
  c : ∀ j, j < 10 → ∃ x : Int, w.cell? ⟨eb, o + 1 + j, none⟩ = some (.int .u8 x)
  ne : g ≠ some eb

/-- What a method of Encbuf touches. -/
def ebP (eb o : Nat) (g : Option Nat) (k off : Nat) : Prop := (k = eb ∧ o ≤ off ∧ off ≤ o + 10) ∨ g = some k

/-- What a method of Encbuf that puts bytes leaves. -/
def Put (w : World) (eb o : Nat) (g : Option Nat) (l : List UInt8) (w' : World) : Prop := ∃ g', Mv g g' w ∧ EB w' eb o g' l ∧ Kept (ebP eb o g) w w'

theorem Put.trans {w w1 w2 : World} {eb o : Nat} {g g1 : Option Nat} {l : List UInt8} (hm : Mv g g1 w) (h : Kept (ebP eb o g) w w1) (k : Put w1 eb o g1 l w2) : Put w eb o g l w2 := by
  obtain ⟨g2, m2, e2, k2⟩ := k
  refine ⟨g2, hm.trans m2 h.size, e2, h.trans k2 fun i o' hi hP => ?_⟩
  rcases hP with hP | hP
  · exact .inl hP
  · rcases hm with rfl | ⟨b, rfl, hb'⟩
    · exact .inr hP
    · cases hP; omega

theorem EB.drew {w : World} {eb o : Nat} {g : Option Nat} {l : List UInt8} (h : EB w eb o g l) : EB w.drew eb o g l := ⟨h.lt, h.b, h.fr, h.c, h.ne⟩

theorem EB.kept {w w' : World} {eb o : Nat} {g : Option Nat} {l : List UInt8} {P : Nat → Nat → Prop} (h : EB w eb o g l) (hk : Kept P w w') (h1 : ∀ j, j < 11 → ¬ P eb (o + j)) (h2 : ∀ k o', g = some k → ¬ P k o') : EB w' eb o g l := by
  obtain ⟨v, hv, hb⟩ := h.b
  refine ⟨Nat.lt_of_lt_of_le h.lt hk.size, ⟨v, ?_, hb.kept hk h2⟩, fun j hj => ?_, fun j hj => ?_, h.ne⟩
  · rw [hk.cell eb o h.lt (by simpa using h1 0 (by omega))]; exact hv
  · rw [hk.fr eb (o + j) h.lt]; exact h.fr j hj
  · obtain ⟨x, hx⟩ := h.c j hj
    refine ⟨x, ?_⟩
    rw [hk.cell eb (o + 1 + j) h.lt (by have := h1 (1 + j) (by omega); rwa [← Nat.add_assoc] at this)]; exact hx

/-- Behind an append to the buffer and the store of the new slice. -/
theorem EB.put {w w1 : World} {eb o : Nat} {g : Option Nat} {l k : List UInt8} {v v' : Value} (h : EB w eb o g l) (hv : w.cell? ⟨eb, o, none⟩ = some v) (ha : App w w1 5 1 v v' (l.length + k.length) (bVs l ++ bVs k)) :
    Put w eb o g (l ++ k) (w1.setCell ⟨eb, o, none⟩ v') := by
  obtain ⟨v0, hv0, hb⟩ := h.b
  obtain rfl : v0 = v := by rw [hv] at hv0; exact (Option.some.inj hv0).symm
  have hk := ha.kept hb.1
  rw [hb.2] at hk
  have hm := ha.mv
  rw [hb.2] at hm
  have hne : v'.ownBlock ≠ some eb := hm.ne h.lt h.ne
  have hbf := ha.bf
  have hcell : w1.cell? ⟨eb, o, none⟩ = some v0 := by rw [hk.cell eb o h.lt h.ne]; exact hv
  refine ⟨v'.ownBlock, hm, ⟨?_, ⟨v', World.cell?_setCell_same _ _ _ hcell, ⟨ownsRow_setCell_other hbf.1 hne _, rfl⟩⟩, fun j hj => ?_, fun j hj => ?_, hne⟩, ?_⟩
  · simpa using Nat.lt_of_lt_of_le h.lt hk.size
  · rw [World.frozen?_setCell, hk.fr eb _ h.lt]; exact h.fr j hj
  · obtain ⟨x, hx⟩ := h.c j hj
    refine ⟨x, ?_⟩
    rw [World.cell?_setCell_other _ _ _ _ (by simp), hk.cell eb _ h.lt h.ne]
    exact hx
  · exact (hk.mono (fun i o' _ e => .inr e)).trans (Kept.setCell w1 eb o v' (.inl ⟨rfl, Nat.le_refl _, Nat.le_add_right _ _⟩)) (fun _ _ _ e => e)

theorem Tryz.info5 : (Tryz.prog.info? 5).map (fun i => (i.zero, i.size, i.bytes)) = some (some (.int .u8 0), 1, 1) := by kernel_rfl

/-- A store of another slice of the buffer's own array into the struct. -/
theorem EB.reslice {w : World} {eb o : Nat} {g : Option Nat} {l k : List UInt8} {v' : Value} (h : EB w eb o g l) (hb : Bf w v' g k) : Put w eb o g k (w.setCell ⟨eb, o, none⟩ v') := by
  obtain ⟨v, hv, _⟩ := h.b
  have hkp := Kept.setCell (P := ebP eb o g) w eb o v' (.inl ⟨rfl, Nat.le_refl _, Nat.le_add_right _ _⟩)
  refine ⟨g, .inl rfl, ⟨by simpa using h.lt, ⟨v', World.cell?_setCell_same _ _ _ hv, ⟨ownsRow_setCell_other hb.1 (hb.2.symm ▸ h.ne) _, hb.2⟩⟩, fun j hj => ?_, fun j hj => ?_, h.ne⟩, hkp⟩
  · rw [World.frozen?_setCell]; exact h.fr j hj
  · obtain ⟨x, hx⟩ := h.c j hj
    exact ⟨x, by rw [World.cell?_setCell_other _ _ _ _ (by simp)]; exact hx⟩

theorem Bf.take {w : World} {ao : Option Addr} {n c : Nat} {g : Option Nat} {l : List UInt8} (h : Bf w (.slice ao n c) g l) (m : Nat) (hm : m ≤ l.length) : Bf w (.slice ao m c) g (l.take m) := by
  obtain ⟨⟨h1, h2⟩, h3⟩ := h
  have hm' : (l.take m).length = m := by simp; omega
  refine ⟨⟨by simp [hm'], ?_⟩, by cases ao <;> exact h3⟩
  rcases h2 with ⟨he, h0⟩ | ⟨b, cap, cur, he, hz, hh, hle, hc, hs, ht⟩
  · cases he
    have : m = 0 := by omega
    subst this
    exact .inl ⟨rfl, by simp⟩
  · cases he
    refine .inr ⟨b, c, cur, by rw [hm'], hz, hh, by omega, hc, hs, ?_⟩
    have := congrArg (List.take m) ht
    simp only [Nat.mul_one, List.take_take, bVs, ← List.map_take] at this ⊢
    rw [hm']
    rwa [Nat.min_eq_left hm] at this

/-- Behind the append the struct's first cell is as it was. -/
theorem EB.cellApp {w w1 : World} {eb o : Nat} {g : Option Nat} {l : List UInt8} {v v' : Value} {n : Nat} {xs : List Value} (h : EB w eb o g l) (hv : w.cell? ⟨eb, o, none⟩ = some v) (hb : Bf w v g l) (ha : App w w1 5 1 v v' n xs) :
    w1.cell? ⟨eb, o, none⟩ = some v ∧ w1.frozen? ⟨eb, o, none⟩ = false := by
  have hk := ha.kept hb.1
  have h0 := h.fr 0 (by omega)
  rw [Nat.add_zero] at h0
  exact ⟨by rw [hk.cell eb o h.lt (by rw [hb.2]; exact h.ne)]; exact hv, by rw [hk.fr eb o h.lt]; exact h0⟩

/-! Stores of a row of cells. -/
theorem setCells_same (b : Nat) : ∀ (vs : List Value) (o : Nat) (w : World), (w.setCells b o vs).heap.size = w.heap.size ∧ (w.setCells b o vs).os = w.os ∧ (w.setCells b o vs).tape = w.tape ∧ (w.setCells b o vs).output = w.output ∧
    (∀ a, (w.setCells b o vs).frozen? a = w.frozen? a) ∧ (∀ k, k ≠ b → (w.setCells b o vs).heap[k]? = w.heap[k]?)
  | [], _, _ => ⟨rfl, rfl, rfl, rfl, fun _ => rfl, fun _ _ => rfl⟩
  | v :: r, o, w => by
    obtain ⟨h1, h2, h3, h4, h5, h6⟩ := setCells_same b r (o + 1) (w.setCell ⟨b, o, none⟩ v)
    exact ⟨by rw [World.setCells, h1]; simp, h2, h3, h4, fun a => by rw [World.setCells, h5]; exact World.frozen?_setCell w _ _ _, fun k hk => by rw [World.setCells, h6 k hk]; exact heap_setCell_other w _ _ k hk⟩

theorem Kept.setCells {P : Nat → Nat → Prop} (w : World) (b o : Nat) (vs : List Value) (hp : ∀ j, j < vs.length → P b (o + j)) : Kept P w (w.setCells b o vs) := by
  obtain ⟨h1, h2, h3, h4, h5, h6⟩ := setCells_same b vs o w
  refine ⟨h2, h3, h4, Nat.le_of_eq h1.symm, fun k o' _ hn => ?_, fun k o' _ => h5 _, fun k _ hn => ?_⟩
  · refine World.cell?_setCells_out b vs o w ⟨k, o', none⟩ fun e _ => ?_
    rcases Nat.lt_or_ge o' o with h | h
    · exact .inl h
    · rcases Nat.lt_or_ge o' (o + vs.length) with h' | h'
      · have := hp (o' - o) (by omega)
        rw [show o + (o' - o) = o' by omega] at this
        simp at e; subst e
        exact absurd this hn
      · exact .inr h'
  · cases vs with
    | nil => rfl
    | cons v r => exact h6 k (fun e => hn (o + 0) (e ▸ hp 0 (by simp)))

theorem setCells_get (b : Nat) : ∀ (vs : List Value) (o : Nat) (w : World), (∀ j, j < vs.length → ∃ u, w.cell? ⟨b, o + j, none⟩ = some u) → ∀ j u, vs[j]? = some u → (w.setCells b o vs).cell? ⟨b, o + j, none⟩ = some u
  | [], _, _, _, j, u, h => by simp at h
  | v :: r, o, w, hc, j, u, h => by
    obtain ⟨u0, h0⟩ := hc 0 (by simp)
    rw [World.setCells]
    cases j with
    | zero =>
      simp at h
      subst h
      rw [World.cell?_setCells_out b r (o + 1) _ ⟨b, o + 0, none⟩ (fun _ _ => .inl (by simp))]
      exact World.cell?_setCell_same w _ _ h0
    | succ j =>
      have := setCells_get b r (o + 1) (w.setCell ⟨b, o, none⟩ v) (fun i hi => by
        obtain ⟨u1, h1⟩ := hc (i + 1) (by simp; omega)
        refine ⟨u1, ?_⟩
        rw [World.cell?_setCell_other _ _ _ _ (by simp), show o + 1 + i = o + (i + 1) by omega]
        exact h1) j u (by simpa using h)
      rwa [show o + 1 + j = o + (j + 1) by omega] at this

/-- Stores into the array of the struct. -/
theorem EB.setC {w : World} {eb o : Nat} {g : Option Nat} {l : List UInt8} (h : EB w eb o g l) (k : List UInt8) (hk : k.length ≤ 10) : EB (w.setCells eb (o + 1) (bVs k)) eb o g l ∧ Kept (ebP eb o g) w (w.setCells eb (o + 1) (bVs k)) ∧
    (∀ j u, k[j]? = some u → (w.setCells eb (o + 1) (bVs k)).cell? ⟨eb, o + 1 + j, none⟩ = some (bV u)) ∧ (w.setCells eb (o + 1) (bVs k)).cell? ⟨eb, o, none⟩ = w.cell? ⟨eb, o, none⟩ := by
  have hkp : Kept (fun i j => i = eb ∧ o + 1 ≤ j ∧ j ≤ o + 10) w (w.setCells eb (o + 1) (bVs k)) := Kept.setCells w eb (o + 1) (bVs k) (fun j hj => ⟨rfl, by omega, by simp at hj; omega⟩)
  have hget := setCells_get eb (bVs k) (o + 1) w (fun j hj => by
    obtain ⟨x, hx⟩ := h.c j (by simp at hj; omega)
    exact ⟨_, hx⟩)
  have hge : ∀ j u, k[j]? = some u → (w.setCells eb (o + 1) (bVs k)).cell? ⟨eb, o + 1 + j, none⟩ = some (bV u) := fun j u hj => hget j (bV u) (by simp [bVs, hj])
  have h0 : (w.setCells eb (o + 1) (bVs k)).cell? ⟨eb, o, none⟩ = w.cell? ⟨eb, o, none⟩ := hkp.cell eb o h.lt (fun e => by omega)
  obtain ⟨v, hv, hb⟩ := h.b
  refine ⟨⟨Nat.lt_of_lt_of_le h.lt hkp.size, ⟨v, h0.trans hv, hb.kept hkp (fun i o' e hP => h.ne (by rw [e, hP.1]))⟩, fun j hj => ?_, fun j hj => ?_, h.ne⟩, hkp.mono (fun i j _ hP => .inl ⟨hP.1, by omega, hP.2.2⟩), hge, h0⟩
  · rw [hkp.fr eb _ h.lt]; exact h.fr j hj
  · rcases Nat.lt_or_ge j k.length with hjk | hjk
    · exact ⟨_, hge j k[j] (by simp [hjk])⟩
    · obtain ⟨x, hx⟩ := h.c j hj
      refine ⟨x, ?_⟩
      have := World.cell?_setCells_out eb (bVs k) (o + 1) w ⟨eb, o + 1 + j, none⟩ (fun _ _ => .inr (by simp; omega))
      rw [this]; exact hx

/-- The append of bytes, at the list of a region's operations. -/
theorem wpList_appB (w : World) {ops : Array Oper} {rest : List Oper} {o : Oper} {a : Act} {Q : Exit → Act → World → Prop} (hgd : o.guard = none) (s x : Operand)
    (ho : o.op = .call { callee := .builtin .append, args := #[s, x], argTypes := #[27, 27] }) (v : Value) (g : Option Nat) (l k : List UInt8) (hs : a.eval s = v) (hb : Bf w v g l)
    (ao : Option Addr) (m c : Nat) (hx : a.eval x = .slice ao m c) (hm : k.length = m) (hno : ao = none → m = 0 ∧ c = 0) (hk : ∀ ad, ao = some ad → ∀ j u, k[j]? = some u → w.cell? (ad.add j) = some (bV u)) (hl : l.length + m ≤ 1000000000000)
    (h : ∀ v' w', App w w' 5 1 v v' (l.length + k.length) (bVs l ++ bVs k) → wpList Tryz.prog ops Q rest (a.put o.dst v') w') : wpList Tryz.prog ops Q (o :: rest) a w := by
  obtain ⟨i0, hi, hz0, hz1, hz2⟩ := info_parts Tryz.info5
  refine wpList_app w hgd s x 27 ho 5 i0 (.int .u8 0) 1 1 Tryz.underlying27 hi hz0 hz1 hz2 rfl (by decide) v l.length (bVs l) hs hb.1 ao m c (bVs k) hx (by simp [hm]) hno (fun ad e j u hj => ?_) bVs_one (by unfold maxLen; omega) (by omega) (fun v' w' ha => h v' w' (by rw [hm]; exact ha))
  obtain ⟨b, hb', rfl⟩ := bVs_get hj
  exact hk ad e j b hb'

/-- The append of bytes, at a step of a region that draws its order. -/
theorem step_appB (w : World) {ops : Array Oper} {o : Oper} {a : Act} {K : Act → World → Prop} {Q : Exit → Act → World → Prop} {E : Prop} (hgd : o.guard = none) (s x : Operand)
    (ho : o.op = .call { callee := .builtin .append, args := #[s, x], argTypes := #[27, 27] }) (v : Value) (g : Option Nat) (l k : List UInt8) (hs : a.eval s = v) (hb : Bf w v g l)
    (ao : Option Addr) (m c : Nat) (hx : a.eval x = .slice ao m c) (hm : k.length = m) (hno : ao = none → m = 0 ∧ c = 0) (hk : ∀ ad, ao = some ad → ∀ j u, k[j]? = some u → w.cell? (ad.add j) = some (bV u)) (hl : l.length + m ≤ 1000000000000)
    (h : ∀ v' w', App w w' 5 1 v v' (l.length + k.length) (bVs l ++ bVs k) → K (a.put o.dst v') w') : if Region.wanted o (yielded ops a.tmps) = true then Oper.wp Tryz.prog o a w K Q else E := by
  obtain ⟨i0, hi, hz0, hz1, hz2⟩ := info_parts Tryz.info5
  refine step_app w hgd s x 27 ho 5 i0 (.int .u8 0) 1 1 Tryz.underlying27 hi hz0 hz1 hz2 rfl (by decide) v l.length (bVs l) hs hb.1 ao m c (bVs k) hx (by simp [hm]) hno (fun ad e j u hj => ?_) bVs_one (by unfold maxLen; omega) (by omega) (fun v' w' ha => h v' w' (by rw [hm]; exact ha))
  obtain ⟨b, hb', rfl⟩ := bVs_get hj
  exact hk ad e j b hb'

end Go.Proofs.YtfipfoplmopkaaaGreatDoor

namespace Go.Proofs.YtfipfoplmopkaaaGreatDoor
open Go.RowKit

/-- Where the j-th string of the data lies. -/
def ix (fs : List (List UInt8)) (j : Nat) : Nat := (eF (fs.take j)).length
theorem ix_0 (fs : List (List UInt8)) : ix fs 0 = 0 := rfl
theorem ix_succ {fs : List (List UInt8)} {j : Nat} (h : j < fs.length) : ix fs (j + 1) = ix fs j + 1 + (fs[j]'h).length := by
  unfold ix; rw [List.take_succ_eq_append_getElem h, eF_snoc]
theorem ix_split {fs : List (List UInt8)} {j : Nat} (h : j < fs.length) : fs = fs.take j ++ (fs[j]'h) :: fs.drop (j + 1) := by
  rw [← List.drop_eq_getElem_cons h, List.take_append_drop]
theorem ix_end (fs : List (List UInt8)) : ix fs fs.length = (eF fs).length := by unfold ix; rw [List.take_length]
theorem ix_le (fs : List (List UInt8)) (j : Nat) : ix fs j ≤ (eF fs).length := by
  have := congrArg (fun l => (eF l).length) (List.take_append_drop j fs)
  simp only [eF_app, List.length_append] at this
  unfold ix; omega

/-- A string is the data of labels: the strings fs, one behind the other. -/
structure LD (D : ByteArray) (fs : List (List UInt8)) : Prop where
  d : D.data.toList = eF fs
  l : ∀ s ∈ fs, s.length < 255
  n : D.size < 10000000

theorem LD.size {D : ByteArray} {fs : List (List UInt8)} (h : LD D fs) : D.size = (eF fs).length := by
  rw [← h.d]; simp
theorem LD.at {D : ByteArray} {fs : List (List UInt8)} (h : LD D fs) {j : Nat} (hj : j < fs.length) :
    ix fs j < D.size ∧ sb D (ix fs j) = (fs[j]'hj).length ∧ ix fs j + 1 + (fs[j]'hj).length ≤ D.size ∧ (fs[j]'hj).length < 255 ∧ (D.extract (ix fs j + 1) (ix fs j + 1 + (fs[j]'hj).length)).data.toList = fs[j]'hj := by
  have hl := h.l (fs[j]'hj) (List.getElem_mem hj)
  have hat := eF_at (fs.take j) (fs[j]'hj) (fs.drop (j + 1))
  rw [← ix_split hj] at hat
  have hle := ix_le fs (j + 1)
  rw [ix_succ hj] at hle
  obtain ⟨h1, h2⟩ := sb_data D (ix fs j) _ (by rw [h.d]; exact hat)
  refine ⟨h1, ?_, by rw [h.size]; exact hle, hl, ?_⟩
  · rw [h2]; simp; omega
  · rw [ext_data, h.d]
    have := eF_sl (fs.take j) (fs[j]'hj) (fs.drop (j + 1))
    rw [← ix_split hj] at this
    exact this

set_option maxRecDepth 100000 in
set_option maxHeartbeats 2000000 in
theorem labLen_any (D : ByteArray) (fs : List (List UInt8)) (n : Nat) (hD : LD D fs) (hn : fs.length = 2 * n) (w : World) :
    Calls Tryz.prog 60 #[.agg #[.string D]] w fun e w' => e = .returned (.int .i64 n) ∧ Kept (fun _ _ => False) w w' := by
  have HD := Lib.hid hD
  have HN := Lib.hid hn
  have hsz := hD.n
  have hn9 : n < 10000000 := by
    have h1 := eF_len_le fs
    rw [← hD.size] at h1; omega
  clear hD hn
  go_enter Tryz.func60, Tryz.ntmps60
  go_wp2_with fail
  obtain ⟨gb, hgb⟩ : ∃ gb, gb = w.heap.size := ⟨_, rfl⟩
  obtain ⟨w1, hw1⟩ : ∃ w1, w1 = w.alloc (.cells #[.string D] 73) := ⟨_, rfl⟩
  have hc1 : w1.cell? ⟨gb, 0, none⟩ = some (.string D) := by rw [hw1, hgb, World.cell?_alloc_new]; rfl
  have hk1 : Kept (fun _ _ => False) w w1 := by rw [hw1]; exact Kept.alloc _ _ _
  simp only [← hgb]
  rw [← hw1]
  have HK := Lib.hid hk1
  clear hw1 hgb hk1
  go_loopw [3, 4] (fun x y wr => ∃ k : Nat, k ≤ n ∧ x = .int .i64 k ∧ y = .int .i64 (ix fs (2 * k)) ∧ wr = w1) (fun x _ _ => n - (intOf x).toNat)
  case atStart => exact ⟨0, Nat.zero_le _, rfl, rfl, rfl⟩
  case round =>
    obtain ⟨k, hk, rfl, rfl, rfl⟩ := hrel
    by_cases hkn : k < n
    · have h0 : 2 * k < fs.length := by rw [HN.out]; omega
      have h1 : 2 * k + 1 < fs.length := by rw [HN.out]; omega
      obtain ⟨p1, p2, p3, p4, p5⟩ := HD.out.at h0
      obtain ⟨q1, q2, q3, q4, q5⟩ := HD.out.at h1
      have e1 := ix_succ h0
      have e2 : ix fs (2 * (k + 1)) = ix fs (2 * k + 1) + 1 + (fs[2 * k + 1]'h1).length := ix_succ h1
      rw [e1] at q1 q2 q3 e2
      obtain ⟨i0, hi0⟩ : ∃ i0, ix fs (2 * k) = i0 := ⟨_, rfl⟩
      obtain ⟨a, ha⟩ : ∃ a, (fs[2 * k]'h0).length = a := ⟨_, rfl⟩
      obtain ⟨b, hb⟩ : ∃ b, (fs[2 * k + 1]'h1).length = b := ⟨_, rfl⟩
      rw [hi0, ha] at p2 p3 q1 q2 q3 e2
      rw [hi0] at p1
      rw [ha] at p4
      rw [hb] at q2 q3 q4 e2
      rw [hi0]
      have hL : (i0 : Int) < D.size := by omega
      have E2 := Lib.hid e2
      have A1 := Lib.hid (fun w => decSize_any D i0 a w p1 p2 p4 (by omega))
      have A20 := fun w => decSize_any D (i0 + 1 + a) b w q1 q2 q4 (by omega)
      rw [show ((i0 + 1 + a : Nat) : Int) = (i0 : Int) + 1 + a by omega] at A20
      have A2 := Lib.hid A20
      have hi9 : i0 + 1 + a + 1 + b ≤ 10000000 := by omega
      clear p1 p2 p3 p4 p5 q1 q2 q3 q4 q5 e1 e2 hi0 ha hb A20
      go_wp2_with (first | (go_at_call 102; (with_reducible refine (A1.out _).mono ?_); rintro e w' ⟨rfl, rfl⟩) | (go_at_call 102; (with_reducible refine (A2.out _).mono ?_); rintro e w' ⟨rfl, rfl⟩))
      go_roundw
      case rel => exact ⟨k + 1, by omega, by go_num, by rw [E2.out]; go_num, trivial⟩
      case measure => simp only [intOf]; omega
    · obtain rfl : k = n := by omega
      have he : ix fs (2 * k) = D.size := by rw [← HN.out, ix_end, HD.out.size]
      have hL : ¬ ((ix fs (2 * k) : Nat) : Int) < D.size := by omega
      go_wp2
      go_ret
      exact ⟨rfl, HK.out⟩

set_option maxHeartbeats 1000000 in
theorem isEmpty_any (D : ByteArray) (w : World) : Calls Tryz.prog 58 #[.agg #[.string D]] w fun e w' => e = .returned (.bool ((D.size : Int) == 0)) ∧ Kept (fun _ _ => False) w w' := by
  go_enter Tryz.func58, Tryz.ntmps58
  go_wp2
  go_ret
  exact ⟨rfl, Kept.alloc _ _ _⟩

set_option maxHeartbeats 1000000 in
theorem copyFrom_any (D : ByteArray) (b o : Nat) (w : World) {x : Value} (hc : w.cell? ⟨b, o, none⟩ = some x) (hf : w.frozen? ⟨b, o, none⟩ = false) :
    Calls Tryz.prog 65 #[.pointer (some ⟨b, o, none⟩), .agg #[.string D]] w fun e w' => e = .returned (.tuple #[]) ∧ w' = (w.alloc (.cells #[.string D] 73)).setCell ⟨b, o, none⟩ (.string D) := by
  have hlt := World.block_lt_of_cell? _ _ hc
  have hc' : (w.alloc (.cells #[.string D] 73)).cell? ⟨b, o, none⟩ = some x := by rw [World.cell?_alloc_old _ _ _ (Nat.ne_of_lt hlt)]; exact hc
  have hf' : (w.alloc (.cells #[.string D] 73)).frozen? ⟨b, o, none⟩ = false := by rw [World.frozen?_alloc_old _ _ _ (Nat.ne_of_lt hlt)]; exact hf
  go_enter Tryz.func65, Tryz.ntmps65
  go_wp2
  go_end0
  exact ⟨rfl, rfl⟩

end Go.Proofs.YtfipfoplmopkaaaGreatDoor

namespace Go.Proofs.YtfipfoplmopkaaaGreatDoor
open Go.RowKit

/-- The first byte in which two strings differ: how far they are alike. -/
def alike (l1 l2 : List UInt8) (k : Nat) : Prop := l1.take k = l2.take k

theorem alike_sb {a b : ByteArray} {k : Nat} (h : alike a.data.toList b.data.toList k) (hk : k < a.size) (hk2 : k < b.size) (he : sb a k = sb b k) : alike a.data.toList b.data.toList (k + 1) := by
  have h1 : k < a.data.toList.length := by simpa using hk
  have h2 : k < b.data.toList.length := by simpa using hk2
  have e1 := (sb_data a k _ (List.getElem?_eq_getElem h1)).2
  have e2 := (sb_data b k _ (List.getElem?_eq_getElem h2)).2
  rw [e1, e2] at he
  unfold alike at *
  rw [List.take_succ_eq_append_getElem h1, List.take_succ_eq_append_getElem h2, h, UInt8.toNat_inj.mp he]

theorem differ_sb {a b : ByteArray} {k : Nat} (hk : k < a.size) (hk2 : k < b.size) (he : sb a k ≠ sb b k) : a.data.toList[k]? ≠ b.data.toList[k]? := by
  have h1 : k < a.data.toList.length := by simpa using hk
  have h2 : k < b.data.toList.length := by simpa using hk2
  have e1 := (sb_data a k _ (List.getElem?_eq_getElem h1)).2
  have e2 := (sb_data b k _ (List.getElem?_eq_getElem h2)).2
  rw [List.getElem?_eq_getElem h1, List.getElem?_eq_getElem h2]
  intro h
  simp only [Option.some.injEq] at h
  apply he; rw [e1, e2, h]

theorem ix_mono (fs : List (List UInt8)) {a b : Nat} (h : a ≤ b) : ix fs a ≤ ix fs b := by
  unfold ix
  obtain ⟨c, rfl⟩ := Nat.exists_eq_add_of_le h
  rw [List.take_add, eF_app, List.length_append]; omega

/-- The shorter and the longer of the two. -/
def SLq (A B S L : ByteArray) : Prop := (S = A ∧ L = B ∨ S = B ∧ L = A) ∧ S.size ≤ L.size

theorem cmp_end {A B S L : ByteArray} {fs gs : List (List UInt8)} (hA : LD A fs) (hB : LD B gs) (h : SLq A B S L) (ha : alike S.data.toList L.data.toList S.size) :
    ((A.size : Int) - B.size ≤ 0 ↔ cmpF fs gs ≤ 0) := by
  rw [hA.size, hB.size]
  refine cmp_short fs gs hA.l hB.l ?_
  unfold alike at ha
  rw [List.take_of_length_le (by simp)] at ha
  have hp : S.data.toList <+: L.data.toList := ⟨L.data.toList.drop S.size, by rw [ha]; simp⟩
  rcases h.1 with ⟨rfl, rfl⟩ | ⟨rfl, rfl⟩
  · left; rw [← hA.d, ← hB.d]; exact hp
  · right; rw [← hA.d, ← hB.d]; exact hp

theorem cmp_mid {A B S L : ByteArray} {fs gs : List (List UInt8)} (hA : LD A fs) (hB : LD B gs) (h : SLq A B S L) {fd : Nat} (hfd : fd < S.size) (ha : alike S.data.toList L.data.toList fd) (hd : sb S fd ≠ sb L fd) :
    ∃ J, ∃ (hf : J < fs.length) (hg : J < gs.length), ix fs J ≤ fd ∧ fd < ix fs J + 1 + (fs[J]'hf).length ∧ ix gs J = ix fs J ∧ cmpF fs gs = if fs[J]'hf < gs[J]'hg then -1 else 1 := by
  have hfl : fd < L.size := Nat.lt_of_lt_of_le hfd h.2
  have hne := differ_sb hfd hfl hd
  have key : (eF fs).take fd = (eF gs).take fd ∧ (eF fs)[fd]? ≠ (eF gs)[fd]? ∧ fd < (eF fs).length ∧ fd < (eF gs).length := by
    rw [← hA.size, ← hB.size, ← hA.d, ← hB.d]
    unfold alike at ha
    rcases h.1 with ⟨rfl, rfl⟩ | ⟨rfl, rfl⟩
    · exact ⟨ha, hne, hfd, hfl⟩
    · exact ⟨ha.symm, hne.symm, hfl, hfd⟩
  obtain ⟨c, s, t, f, g, h1, h2, h3, h4, h5⟩ := eF_diff fs gs hA.l hB.l fd key.2.2.1 key.2.2.2 key.1 key.2.1
  have hf : c.length < fs.length := by rw [h1]; simp
  have hg : c.length < gs.length := by rw [h2]; simp
  have e1 : fs[c.length]'hf = s := by simp [h1]
  have e2 : gs[c.length]'hg = t := by simp [h2]
  have e3 : ix fs c.length = (eF c).length := by unfold ix; rw [h1, List.take_left]
  have e4 : ix gs c.length = (eF c).length := by unfold ix; rw [h2, List.take_left]
  exact ⟨c.length, hf, hg, by rw [e3]; exact h4, by rw [e3, e1]; exact h5, by rw [e3, e4], by rw [e1, e2, h1, h2]; exact cmpF_diff c s t f g h3⟩

def fl (fs : List (List UInt8)) (j : Nat) : Nat := (fs.getD j []).length
theorem LD.af {D : ByteArray} {fs : List (List UInt8)} (h : LD D fs) {j : Nat} (hj : j < fs.length) :
    ix fs j < D.size ∧ sb D (ix fs j) = fl fs j ∧ ix fs (j + 1) = ix fs j + 1 + fl fs j ∧ ix fs (j + 1) ≤ D.size ∧ fl fs j < 255 ∧ (D.extract (ix fs j + 1) (ix fs j + 1 + fl fs j)).data.toList = fs.getD j [] := by
  have e : fs.getD j [] = fs[j]'hj := by simp [hj]
  obtain ⟨h1, h2, h3, h4, h5⟩ := h.at hj
  unfold fl
  rw [e, ix_succ hj]
  exact ⟨h1, h2, rfl, h3, h4, h5⟩

/-- The two boxes lie as they lay. -/
def CW (w0 : World) (ga gb : Nat) (A B : ByteArray) (wr : World) : Prop :=
  wr.cell? ⟨ga, 0, none⟩ = some (.string A) ∧ wr.cell? ⟨gb, 0, none⟩ = some (.string B) ∧ Kept (fun _ _ => False) w0 wr
theorem CW.drewN {w0 wr : World} {ga gb : Nat} {A B : ByteArray} (h : CW w0 ga gb A B wr) (n : Nat) : CW w0 ga gb A B (wr.drewN n) :=
  ⟨h.1, h.2.1, h.2.2.trans ⟨rfl, rfl, rfl, Nat.le_refl _, fun _ _ _ _ => rfl, fun _ _ _ => rfl, fun _ _ _ => rfl⟩ (fun _ _ _ => id)⟩

/-- What Compare answers. -/
def CmpR (fs gs : List (List UInt8)) (w : World) (e : Ending) (w' : World) : Prop :=
  ∃ r : Int, e = .returned (.int .i64 r) ∧ (r ≤ 0 ↔ cmpF fs gs ≤ 0) ∧ Kept (fun _ _ => False) w w'

set_option maxRecDepth 100000 in
set_option maxHeartbeats 4000000 in
theorem compare_any (A B : ByteArray) (fs gs : List (List UInt8)) (hA : LD A fs) (hB : LD B gs) (w : World) :
    Calls Tryz.prog 57 #[.agg #[.string A], .agg #[.string B]] w (CmpR fs gs w) := by
  have HA := Lib.hid hA
  have HB := Lib.hid hB
  have hA9 := hA.n
  have hB9 := hB.n
  clear hA hB
  go_enter Tryz.func57, Tryz.ntmps57
  go_wp2_with fail
  obtain ⟨w2, hw2⟩ : ∃ w2, w2 = (w.alloc (.cells #[.string A] 73)).alloc (.cells #[.string B] 73) := ⟨_, rfl⟩
  have c1 : w2.cell? ⟨w.heap.size, 0, none⟩ = some (.string A) := by rw [hw2]; simp
  have c2 : w2.cell? ⟨w.heap.size + 1, 0, none⟩ = some (.string B) := by rw [hw2]; simp
  have hk : Kept (fun _ _ => False) w w2 := by rw [hw2]; exact (Kept.alloc _ _ _).trans (Kept.alloc _ _ _) (fun _ _ _ => id)
  obtain ⟨gb, hgb⟩ : ∃ gb, gb = w.heap.size + 1 := ⟨_, rfl⟩
  obtain ⟨ga, hga⟩ : ∃ ga, ga = w.heap.size := ⟨_, rfl⟩
  rw [← hgb] at c2
  rw [← hga] at c1
  simp only [← hgb]
  simp only [← hga]
  rw [← hw2]
  have HC : Hid (CW w ga gb A B w2) := Lib.hid ⟨c1, c2, hk⟩
  clear hk hw2 hgb hga
  go_quiet (fail)
  have HC' := Lib.hid (HC.out.drewN nq)
  clear HC c1 c2
  generalize w2.drewN nq = w3 at *
  have c1 := HC'.out.1
  have c2 := HC'.out.2.1
  go_upto_if 25 with fail
  go_cut [5, 6] (fun x y wc => ∃ S L : ByteArray, x = .string S ∧ y = .string L ∧ Hid (SLq A B S L) ∧ Hid (CW w ga gb A B wc))
  case first =>
    by_cases hlt : B.size < A.size
    · rw [show decide (B.size < A.size) = true from decide_eq_true hlt]
      go_wp2_with fail
      go_quiet (fail)
      go_wp2_with fail
      go_meet
      exact ⟨B, A, rfl, rfl, ⟨Or.inr ⟨rfl, rfl⟩, by omega⟩, HC'.out.drewN _⟩
    · rw [show decide (B.size < A.size) = false from decide_eq_false hlt]
      go_wp2_with fail
      go_meet
      exact ⟨A, B, rfl, rfl, ⟨Or.inl ⟨rfl, rfl⟩, by omega⟩, HC'.out⟩
  case rest =>
    obtain ⟨S, L, rfl, rfl, HS, HW⟩ := hcut
    have hSL : S.size ≤ L.size := HS.out.2
    have hS9 : S.size < 10000000 := by rcases HS.out.1 with ⟨rfl, _⟩ | ⟨rfl, _⟩ <;> omega
    clear HC' c1 c2
    go_wp2_with fail
    go_loopw [7] (fun x wr => ∃ k : Nat, k ≤ S.size ∧ x = .int .i64 k ∧ Hid (alike S.data.toList L.data.toList k) ∧ Hid (CW w ga gb A B wr)) (fun x _ => S.size - (intOf x).toNat)
    case atStart => exact ⟨0, Nat.zero_le _, rfl, Lib.hid rfl, HW⟩
    case round =>
      obtain ⟨k, hk, rfl, HAL, HWr⟩ := hrel
      by_cases hlt : k < S.size
      · have hx1 := sb_at S k
        have hx2 := sb_at L k
        have hI1 : (k : Int) < S.size := by omega
        have hI2 : (k : Int) < L.size := by omega
        by_cases he : sb S k = sb L k
        · have HN := Lib.hid (alike_sb HAL.out hlt (by omega) he)
          go_wp2_with fail
          go_quiet (fail)
          go_wp2_with fail
          go_roundw
          case rel => exact ⟨k + 1, by omega, by go_num, HN, Lib.hid (HWr.out.drewN _)⟩
          case measure => simp only [intOf]; omega
        · obtain ⟨J, hf, hg, j1, j2, j3, j4⟩ := cmp_mid HA.out HB.out HS.out hlt HAL.out he
          have hkA : k < A.size := by rcases HS.out.1 with ⟨rfl, _⟩ | ⟨_, rfl⟩ <;> omega
          have he2 : ((sb S k : Int) != (sb L k : Int)) = true := by simp; omega
          go_wp2_with fail
          go_quiet (fail)
          have HC4 := Lib.hid (HWr.out.drewN nq)
          generalize wr.drewN nq = w4 at *
          have c1 := HC4.out.1
          have c2 := HC4.out.2.1
          have j2' : k < ix fs (J + 1) := by rw [ix_succ hf]; exact j2
          have HJ := Lib.hid (And.intro j1 j2')
          have h00 : 0 < fs.length := by omega
          obtain ⟨p1, p2, p3, p4, p5, _⟩ := HA.out.af h00
          obtain ⟨z0, hz0⟩ : ∃ z0, fl fs 0 = z0 := ⟨_, rfl⟩
          rw [ix_0] at p1 p2 p3
          rw [hz0] at p2 p3 p5
          have D0 : Hid (∀ w, Calls Tryz.prog 102 #[.string A, .int .i64 0] w fun e w' => e = .returned (.tuple #[.int .i64 (z0 : Nat), .int .i64 1]) ∧ w' = w) := Lib.hid (fun w => decSize_any A 0 z0 w p1 p2 p5 (by decide))
          have HZ0 := Lib.hid hz0
          have HJ4 := Lib.hid j4
          have HJ3 := Lib.hid j3
          clear p1 p2 p3 p4 p5 hz0 j1 j2 j2' j3 j4 he he2 hx1 hx2 HAL HWr
          go_wp2_with (go_at_call 102; (with_reducible refine (D0.out _).mono ?_); rintro e w' ⟨rfl, rfl⟩)
          clear c1 c2 D0
          go_loopw [7, 9, 10] (fun x y z wr => ∃ j : Nat, j ≤ J ∧ x = .int .i64 (ix fs j : Nat) ∧ y = .int .i64 (fl fs j : Nat) ∧ z = .int .i64 ((ix fs j : Nat) + 1) ∧ Hid (CW w ga gb A B wr)) (fun x _ _ _ => A.size - (intOf x).toNat)
          case atStart => exact ⟨0, Nat.zero_le _, rfl, by rw [HZ0.out], rfl, HC4⟩
          case round =>
            obtain ⟨j, hj, rfl, rfl, rfl, HC6⟩ := hrel
            have c1 := HC6.out.1
            have c2 := HC6.out.2.1
            obtain ⟨p1, p2, p3, p4, p5, p6⟩ := HA.out.af (show j < fs.length by omega)
            by_cases hlt2 : ix fs (j + 1) ≤ k
            · have hjJ : j + 1 ≤ J := by
                rcases Nat.lt_or_ge j J with h | h
                · exact h
                · have hh := HJ.out.2
                  rw [show j = J by omega] at hlt2; omega
              obtain ⟨q1, q2, q3, q4, q5, q6⟩ := HA.out.af (show j + 1 < fs.length by omega)
              obtain ⟨a, ha⟩ : ∃ a, ix fs j = a := ⟨_, rfl⟩
              obtain ⟨n, hn⟩ : ∃ n, fl fs j = n := ⟨_, rfl⟩
              obtain ⟨m, hm⟩ : ∃ m, fl fs (j + 1) = m := ⟨_, rfl⟩
              obtain ⟨b, hb⟩ : ∃ b, ix fs (j + 1) = b := ⟨_, rfl⟩
              rw [hb] at hlt2 q1 q2 p3 p4
              rw [hm] at q2 q5
              rw [ha, hn] at p3
              rw [ha] at p1
              have D1 : Hid (∀ w, Calls Tryz.prog 102 #[.string A, .int .i64 ((a : Int) + 1 + n)] w fun e w' => e = .returned (.tuple #[.int .i64 (m : Nat), .int .i64 ((a : Int) + 1 + n + 1)]) ∧ w' = w) := Lib.hid (fun w => by
                have := decSize_any A b m w q1 q2 q5 (by omega)
                rw [show (b : Int) = (a : Int) + 1 + n by omega] at this
                exact this)
              have hle : (a : Int) + 1 + n ≤ k := by omega
              have hin : a + 1 + n + 1 + m < 20000000 := by omega
              have HB3 := Lib.hid p3
              have HHB := Lib.hid hb
              have HHM := Lib.hid hm
              rw [ha, hn]
              clear p1 p2 p3 p4 p5 p6 q1 q2 q3 q4 q5 q6 hlt2 ha hn hm hb
              go_wp2_with (go_at_call 102; (with_reducible refine (D1.out _).mono ?_); rintro e w' ⟨rfl, rfl⟩)
              go_roundw
              case rel => exact ⟨j + 1, hjJ, by rw [HHB.out, HB3.out]; go_num, by rw [HHM.out], by rw [HHB.out, HB3.out]; go_num, HC6⟩
              case measure => simp only [intOf]; omega
            · obtain rfl : j = J := by
                rcases Nat.lt_or_ge j J with h | h
                · have := ix_mono fs (show j + 1 ≤ J from h)
                  have := HJ.out.1; omega
                · omega
              obtain ⟨q1, q2, q3, q4, q5, q6⟩ := HB.out.af hg
              rw [HJ3.out] at q1 q2 q3 q6
              obtain ⟨a, ha⟩ : ∃ a, ix fs j = a := ⟨_, rfl⟩
              obtain ⟨n, hn⟩ : ∃ n, fl fs j = n := ⟨_, rfl⟩
              obtain ⟨m, hm⟩ : ∃ m, fl gs j = m := ⟨_, rfl⟩
              rw [ha, hn] at p3 p6
              rw [ha] at p1 p2 q1 q2 q3 q6
              rw [hn] at p2 p5
              rw [hm] at q2 q3 q5 q6
              have D1 := Lib.hid (fun w => decStr_any A a n w (by omega) p2 p5 (by omega))
              have D2 := Lib.hid (fun w => decStr_any B a m w (by omega) q2 q5 (by omega))
              obtain ⟨X, hX⟩ : ∃ X, X = A.extract (a + 1) (a + 1 + n) := ⟨_, rfl⟩
              obtain ⟨Y, hY⟩ : ∃ Y, Y = B.extract (a + 1) (a + 1 + m) := ⟨_, rfl⟩
              rw [← hX] at D1 p6
              rw [← hY] at D2 q6
              have hin : a + 1 + n < 20000000 ∧ a + 1 + m < 20000000 := by omega
              have hin1 := hin.1
              have hin2 := hin.2
              have hnle : ¬ ((a : Int) + 1 + n ≤ k) := by omega
              have hcmp : cmpF fs gs = if Op.bytesLess X.toList Y.toList = true then -1 else 1 := by
                rw [HJ4.out, bytesLess_eq, Lib.toList_data, Lib.toList_data, p6, q6]
                simp [hf, hg]
              have HCMP := Lib.hid hcmp
              rw [ha, hn]
              clear p1 p2 p3 p4 p5 p6 q1 q2 q3 q4 q5 q6 hlt2 ha hn hm hX hY hcmp
              go_wp2_with (first | (go_at_call 103; (with_reducible refine (D1.out _).mono ?_); rintro e w' ⟨rfl, rfl⟩) | (go_at_call 103; (with_reducible refine (D2.out _).mono ?_); rintro e w' ⟨rfl, rfl⟩))
              · go_ret
                have hb : Op.bytesLess X.toList Y.toList = true := by assumption
                exact ⟨-1, rfl, by rw [HCMP.out, if_pos hb], HC6.out.2.2⟩
              · go_ret
                have hb : Op.bytesLess X.toList Y.toList = false := by assumption
                exact ⟨1, rfl, by rw [HCMP.out, hb]; decide, HC6.out.2.2⟩
      · obtain rfl : k = S.size := by omega
        have HE := Lib.hid (cmp_end HA.out HB.out HS.out HAL.out)
        have c1 := HWr.out.1
        have c2 := HWr.out.2.1
        go_wp2_with fail
        go_ret
        exact ⟨_, rfl, HE.out, HWr.out.2.2⟩

end Go.Proofs.YtfipfoplmopkaaaGreatDoor

namespace Go.Proofs
open Go.Shelf
def Tryz.lays128_ren : Go.Shelf.Ren := ⟨fun | 128 => 174 | n => n, fun | 51 => 94 | 3 => 3 | 4 => 4 | 46 => 194 | 5 => 5 | 9 => 9 | n => n, fun | n => n⟩
theorem Tryz.lays128 : Go.Proofs.Lays.n128 Tryz.prog Tryz.lays128_ren := {
  mixed := by kernel_rfl
  f128 := Tryz.func174.trans (congrArg some (by kernel_rfl))
  t3 := Tryz.underlying3
  a3 := Tryz.isAgg3
  z3 := Tryz.sizeOf3
  v3 := Tryz.zeroValue3
  t4 := Tryz.underlying4
  a4 := Tryz.isAgg4
  z4 := Tryz.sizeOf4
  v4 := Tryz.zeroValue4
  t5 := Tryz.underlying5
  a5 := Tryz.isAgg5
  z5 := Tryz.sizeOf5
  v5 := Tryz.zeroValue5
  t9 := Tryz.underlying9
  a9 := Tryz.isAgg9
  z9 := Tryz.sizeOf9
  v9 := Tryz.zeroValue9
  t46 := Tryz.underlying194
  a46 := Tryz.isAgg194
  z46 := Tryz.sizeOf194
  v46 := Tryz.zeroValue194
  t51 := Tryz.underlying94
  a51 := Tryz.isAgg94
  z51 := Tryz.sizeOf94
  v51 := Tryz.zeroValue94 }
/-- bits.Len32: "Len32 returns the minimum number of bits required to represent x; the result is 0 for x == 0.": IT RETURNS 'Lib.bitLen x'; the world is as it was. ('h0', 'h1': x is a uint32.) (LAID: no walk: one application.) -/
theorem Tryz.bits_Len32 (x : Int) (w : World) (h0 : 0 ≤ x) (h1 : x ≤ 4294967295) :
    Calls Tryz.prog 174 #[.int .u32 x] w fun e w' => e = .returned (.int .i64 (Lib.bitLen x.toNat)) ∧ w' = w := Any.bits_Len32 Tryz.lays128 x w h0 h1
def Tryz.lays125_ren : Go.Shelf.Ren := ⟨fun | 125 => 150 | 128 => 174 | 129 => 175 | n => n, fun | 46 => 194 | 3 => 3 | 51 => 94 | 53 => 32 | 4 => 4 | 5 => 5 | 9 => 9 | n => n, fun | n => n⟩
theorem Tryz.lays125 : Go.Proofs.Lays.n125 Tryz.prog Tryz.lays125_ren := {
  mixed := by kernel_rfl
  f125 := Tryz.func150.trans (congrArg some (by kernel_rfl))
  f128 := Tryz.func174.trans (congrArg some (by kernel_rfl))
  f129 := Tryz.func175.trans (congrArg some (by kernel_rfl))
  t3 := Tryz.underlying3
  a3 := Tryz.isAgg3
  z3 := Tryz.sizeOf3
  v3 := Tryz.zeroValue3
  t4 := Tryz.underlying4
  a4 := Tryz.isAgg4
  z4 := Tryz.sizeOf4
  v4 := Tryz.zeroValue4
  t5 := Tryz.underlying5
  a5 := Tryz.isAgg5
  z5 := Tryz.sizeOf5
  v5 := Tryz.zeroValue5
  t9 := Tryz.underlying9
  a9 := Tryz.isAgg9
  z9 := Tryz.sizeOf9
  v9 := Tryz.zeroValue9
  t46 := Tryz.underlying194
  a46 := Tryz.isAgg194
  z46 := Tryz.sizeOf194
  v46 := Tryz.zeroValue194
  t51 := Tryz.underlying94
  a51 := Tryz.isAgg94
  z51 := Tryz.sizeOf94
  v51 := Tryz.zeroValue94
  t53 := Tryz.underlying32
  a53 := Tryz.isAgg32
  z53 := Tryz.sizeOf32
  v53 := Tryz.zeroValue32 }
/-- bits.Len: "Len returns the minimum number of bits required to represent x; the result is 0 for x == 0.": IT RETURNS 'Lib.bitLen x'; the world is as it was. (A uint has 64 bits in the model.) ITS CALLEE bits.Len64 IS MET BY ITS OWN CONTRACT OFF THE SHELF (lay that first). (LAID: no walk: one application.) -/
theorem Tryz.bits_Len (x : Int) (w : World) (h0 : 0 ≤ x) (h1 : x ≤ 18446744073709551615) :
    Calls Tryz.prog 150 #[.int .u64 x] w fun e w' => e = .returned (.int .i64 (Lib.bitLen x.toNat)) ∧ w' = w := Any.bits_Len Tryz.lays125 x w h0 h1
def Tryz.lays213_ren : Go.Shelf.Ren := ⟨fun | 213 => 151 | 265 => 176 | n => n, fun | 9 => 9 | 3 => 3 | n => n, fun | n => n⟩
theorem Tryz.lays213 : Go.Proofs.Lays.n213 Tryz.prog Tryz.lays213_ren := {
  mixed := by kernel_rfl
  f213 := Tryz.func151.trans (congrArg some (by kernel_rfl))
  f265 := Tryz.func176.trans (congrArg some (by kernel_rfl))
  t3 := Tryz.underlying3
  a3 := Tryz.isAgg3
  z3 := Tryz.sizeOf3
  v3 := Tryz.zeroValue3
  t9 := Tryz.underlying9
  a9 := Tryz.isAgg9
  z9 := Tryz.sizeOf9
  v9 := Tryz.zeroValue9 }
open Go.RowKit in
/-- internal/bytealg.CompareString (what strings.Compare calls): IT RETURNS 'Lib.compareBytes a b'; the world is as it was. (LAID: no walk: one application.) -/
theorem Tryz.bytealg_CompareString (a b : ByteArray) (w : World) :
    Calls Tryz.prog 151 #[.string a, .string b] w fun e w' => e = .returned (.int .i64 (Lib.compareBytes a.data.toList b.data.toList)) ∧ w' = w := Any.bytealg_CompareString Tryz.lays213 a b w
def Tryz.lays106_ren : Go.Shelf.Ren := ⟨fun | 106 => 109 | 213 => 151 | 265 => 176 | n => n, fun | 9 => 9 | 3 => 3 | n => n, fun | n => n⟩
theorem Tryz.lays106 : Go.Proofs.Lays.n106 Tryz.prog Tryz.lays106_ren := {
  mixed := by kernel_rfl
  f106 := Tryz.func109.trans (congrArg some (by kernel_rfl))
  f213 := Tryz.func151.trans (congrArg some (by kernel_rfl))
  f265 := Tryz.func176.trans (congrArg some (by kernel_rfl))
  t3 := Tryz.underlying3
  a3 := Tryz.isAgg3
  z3 := Tryz.sizeOf3
  v3 := Tryz.zeroValue3
  t9 := Tryz.underlying9
  a9 := Tryz.isAgg9
  z9 := Tryz.sizeOf9
  v9 := Tryz.zeroValue9 }
open Go.RowKit in
/-- strings.Compare: "Compare returns an integer comparing two strings lexicographically. The result will be 0 if a == b, -1 if a < b, and +1 if a > b.": IT RETURNS 'Lib.compareBytes a b'; the world is as it was. (LAID: no walk: one application.) -/
theorem Tryz.strings_Compare (a b : ByteArray) (w : World) :
    Calls Tryz.prog 109 #[.string a, .string b] w fun e w' => e = .returned (.int .i64 (Lib.compareBytes a.data.toList b.data.toList)) ∧ w' = w := Any.strings_Compare Tryz.lays106 a b w
def Tryz.lays129_ren : Go.Shelf.Ren := ⟨fun | 129 => 175 | n => n, fun | 53 => 32 | 3 => 3 | 4 => 4 | 46 => 194 | 5 => 5 | 9 => 9 | n => n, fun | n => n⟩
theorem Tryz.lays129 : Go.Proofs.Lays.n129 Tryz.prog Tryz.lays129_ren := {
  mixed := by kernel_rfl
  f129 := Tryz.func175.trans (congrArg some (by kernel_rfl))
  t3 := Tryz.underlying3
  a3 := Tryz.isAgg3
  z3 := Tryz.sizeOf3
  v3 := Tryz.zeroValue3
  t4 := Tryz.underlying4
  a4 := Tryz.isAgg4
  z4 := Tryz.sizeOf4
  v4 := Tryz.zeroValue4
  t5 := Tryz.underlying5
  a5 := Tryz.isAgg5
  z5 := Tryz.sizeOf5
  v5 := Tryz.zeroValue5
  t9 := Tryz.underlying9
  a9 := Tryz.isAgg9
  z9 := Tryz.sizeOf9
  v9 := Tryz.zeroValue9
  t46 := Tryz.underlying194
  a46 := Tryz.isAgg194
  z46 := Tryz.sizeOf194
  v46 := Tryz.zeroValue194
  t53 := Tryz.underlying32
  a53 := Tryz.isAgg32
  z53 := Tryz.sizeOf32
  v53 := Tryz.zeroValue32 }
/-- bits.Len64: "Len64 returns the minimum number of bits required to represent x; the result is 0 for x == 0.": IT RETURNS 'Lib.bitLen x'; the world is as it was. ('h0', 'h1': x is a uint64.) (LAID: no walk: one application.) -/
theorem Tryz.bits_Len64 (x : Int) (w : World) (h0 : 0 ≤ x) (h1 : x ≤ 18446744073709551615) :
    Calls Tryz.prog 175 #[.int .u64 x] w fun e w' => e = .returned (.int .i64 (Lib.bitLen x.toNat)) ∧ w' = w := Any.bits_Len64 Tryz.lays129 x w h0 h1
def Tryz.laysBin39_ren : Go.Shelf.Ren := ⟨fun | 39 => 180 | n => n, fun | 37 => 157 | 22 => 27 | 29 => 94 | 0 => 0 | 5 => 5 | 45 => 194 | n => n, fun | n => n⟩
theorem Tryz.laysBin39 : Go.Proofs.LaysBin.n39 Tryz.prog Tryz.laysBin39_ren := {
  mixed := by kernel_rfl
  f39 := Tryz.func180.trans (congrArg some (by kernel_rfl))
  t0 := Tryz.underlying0
  a0 := Tryz.isAgg0
  z0 := Tryz.sizeOf0
  v0 := Tryz.zeroValue0
  i0 := by kernel_rfl
  t5 := Tryz.underlying5
  a5 := Tryz.isAgg5
  z5 := Tryz.sizeOf5
  v5 := Tryz.zeroValue5
  i5 := by kernel_rfl
  t22 := Tryz.underlying27
  a22 := Tryz.isAgg27
  z22 := Tryz.sizeOf27
  v22 := Tryz.zeroValue27
  i22 := by kernel_rfl
  t29 := Tryz.underlying94
  a29 := Tryz.isAgg94
  z29 := Tryz.sizeOf94
  v29 := Tryz.zeroValue94
  i29 := by kernel_rfl
  t37 := Tryz.underlying157
  a37 := Tryz.isAgg157
  z37 := Tryz.sizeOf157
  v37 := Tryz.zeroValue157
  i37 := by kernel_rfl
  t45 := Tryz.underlying194
  a45 := Tryz.isAgg194
  z45 := Tryz.sizeOf194
  v45 := Tryz.zeroValue194
  i45 := by kernel_rfl }
open Go.RowKit in
/-- binary.BigEndian.Uint32: "Uint32 returns the uint32 representation of b[0:4].": THE NUMBER THAT THE FIRST 4 BYTES SPELL, the greatest byte first ('Lib.beNat'). Of what was there nothing has turned (the receiver, an empty struct, is laid in a new block without cells; the statement's order is drawn). (LAID: no walk: one application.) -/
theorem Tryz.binary_BE_Uint32 (g o n c : Nat) (b0 b1 b2 b3 : UInt8) (w : World) (hn : 4 ≤ n) (c0 : w.cell? ⟨g, o, none⟩ = some (.int .u8 b0.toNat)) (c1 : w.cell? ⟨g, o + 1, none⟩ = some (.int .u8 b1.toNat)) (c2 : w.cell? ⟨g, o + 2, none⟩ = some (.int .u8 b2.toNat)) (c3 : w.cell? ⟨g, o + 3, none⟩ = some (.int .u8 b3.toNat)) :
    Calls Tryz.prog 180 #[.agg #[], .slice (some ⟨g, o, none⟩) n c] w fun e w' => e = .returned (.int .u32 (Lib.beNat [b0, b1, b2, b3])) ∧ Below w.heap.size w w' := Any.binary_BE_Uint32 Tryz.laysBin39 g o n c b0 b1 b2 b3 w hn c0 c1 c2 c3
def Tryz.laysBin40_ren : Go.Shelf.Ren := ⟨fun | 40 => 85 | n => n, fun | 37 => 157 | 22 => 27 | 29 => 94 | 0 => 0 | 5 => 5 | 45 => 194 | n => n, fun | n => n⟩
theorem Tryz.laysBin40 : Go.Proofs.LaysBin.n40 Tryz.prog Tryz.laysBin40_ren := {
  mixed := by kernel_rfl
  f40 := Tryz.func85.trans (congrArg some (by kernel_rfl))
  t0 := Tryz.underlying0
  a0 := Tryz.isAgg0
  z0 := Tryz.sizeOf0
  v0 := Tryz.zeroValue0
  i0 := by kernel_rfl
  t5 := Tryz.underlying5
  a5 := Tryz.isAgg5
  z5 := Tryz.sizeOf5
  v5 := Tryz.zeroValue5
  i5 := by kernel_rfl
  t22 := Tryz.underlying27
  a22 := Tryz.isAgg27
  z22 := Tryz.sizeOf27
  v22 := Tryz.zeroValue27
  i22 := by kernel_rfl
  t29 := Tryz.underlying94
  a29 := Tryz.isAgg94
  z29 := Tryz.sizeOf94
  v29 := Tryz.zeroValue94
  i29 := by kernel_rfl
  t37 := Tryz.underlying157
  a37 := Tryz.isAgg157
  z37 := Tryz.sizeOf157
  v37 := Tryz.zeroValue157
  i37 := by kernel_rfl
  t45 := Tryz.underlying194
  a45 := Tryz.isAgg194
  z45 := Tryz.sizeOf194
  v45 := Tryz.zeroValue194
  i45 := by kernel_rfl }
open Go.RowKit in
/-- binary.BigEndian.PutUint32: "PutUint32 stores v into b[0:4].": v's 4 BYTES, the greatest first ('Lib.beBytes 4 v'), ARE LAID IN THE SLICE's FIRST 4 CELLS ('World.setCells'); nothing else turns (the receiver, an empty struct, is laid in a new block without cells). (LAID: no walk: one application.) -/
theorem Tryz.binary_BE_PutUint32 (g o n c v : Nat) (hv : v < 4294967296) (x0 x1 x2 x3 : Value) (w : World) (hn : 4 ≤ n) (c0 : w.cell? ⟨g, o, none⟩ = some x0) (c1 : w.cell? ⟨g, o + 1, none⟩ = some x1) (c2 : w.cell? ⟨g, o + 2, none⟩ = some x2) (c3 : w.cell? ⟨g, o + 3, none⟩ = some x3) (f0 : w.frozen? ⟨g, o, none⟩ = false) (f1 : w.frozen? ⟨g, o + 1, none⟩ = false) (f2 : w.frozen? ⟨g, o + 2, none⟩ = false) (f3 : w.frozen? ⟨g, o + 3, none⟩ = false) :
    Calls Tryz.prog 85 #[.agg #[], .slice (some ⟨g, o, none⟩) n c, .int .u32 v] w fun e w' => e = .returned (.tuple #[]) ∧ w' = (w.alloc (.cells #[] 157)).setCells g o (Lib.byteCells (Lib.beBytes 4 v)) := Any.binary_BE_PutUint32 Tryz.laysBin40 g o n c v hv x0 x1 x2 x3 w hn c0 c1 c2 c3 f0 f1 f2 f3
def Tryz.laysBin43_ren : Go.Shelf.Ren := ⟨fun | 43 => 86 | n => n, fun | 37 => 157 | 22 => 27 | 33 => 32 | 0 => 0 | 5 => 5 | 45 => 194 | n => n, fun | n => n⟩
theorem Tryz.laysBin43 : Go.Proofs.LaysBin.n43 Tryz.prog Tryz.laysBin43_ren := {
  mixed := by kernel_rfl
  f43 := Tryz.func86.trans (congrArg some (by kernel_rfl))
  t0 := Tryz.underlying0
  a0 := Tryz.isAgg0
  z0 := Tryz.sizeOf0
  v0 := Tryz.zeroValue0
  i0 := by kernel_rfl
  t5 := Tryz.underlying5
  a5 := Tryz.isAgg5
  z5 := Tryz.sizeOf5
  v5 := Tryz.zeroValue5
  i5 := by kernel_rfl
  t22 := Tryz.underlying27
  a22 := Tryz.isAgg27
  z22 := Tryz.sizeOf27
  v22 := Tryz.zeroValue27
  i22 := by kernel_rfl
  t33 := Tryz.underlying32
  a33 := Tryz.isAgg32
  z33 := Tryz.sizeOf32
  v33 := Tryz.zeroValue32
  i33 := by kernel_rfl
  t37 := Tryz.underlying157
  a37 := Tryz.isAgg157
  z37 := Tryz.sizeOf157
  v37 := Tryz.zeroValue157
  i37 := by kernel_rfl
  t45 := Tryz.underlying194
  a45 := Tryz.isAgg194
  z45 := Tryz.sizeOf194
  v45 := Tryz.zeroValue194
  i45 := by kernel_rfl }
open Go.RowKit in
/-- binary.BigEndian.PutUint64: "PutUint64 stores v into b[0:8].": v's 8 BYTES, the greatest first ('Lib.beBytes 8 v'), ARE LAID IN THE SLICE's FIRST 8 CELLS ('World.setCells'); nothing else turns (the receiver, an empty struct, is laid in a new block without cells). (LAID: no walk: one application.) -/
theorem Tryz.binary_BE_PutUint64 (g o n c v : Nat) (hv : v < 18446744073709551616) (x0 x1 x2 x3 x4 x5 x6 x7 : Value) (w : World) (hn : 8 ≤ n) (c0 : w.cell? ⟨g, o, none⟩ = some x0) (c1 : w.cell? ⟨g, o + 1, none⟩ = some x1) (c2 : w.cell? ⟨g, o + 2, none⟩ = some x2) (c3 : w.cell? ⟨g, o + 3, none⟩ = some x3) (c4 : w.cell? ⟨g, o + 4, none⟩ = some x4) (c5 : w.cell? ⟨g, o + 5, none⟩ = some x5) (c6 : w.cell? ⟨g, o + 6, none⟩ = some x6) (c7 : w.cell? ⟨g, o + 7, none⟩ = some x7) (f0 : w.frozen? ⟨g, o, none⟩ = false) (f1 : w.frozen? ⟨g, o + 1, none⟩ = false) (f2 : w.frozen? ⟨g, o + 2, none⟩ = false) (f3 : w.frozen? ⟨g, o + 3, none⟩ = false) (f4 : w.frozen? ⟨g, o + 4, none⟩ = false) (f5 : w.frozen? ⟨g, o + 5, none⟩ = false) (f6 : w.frozen? ⟨g, o + 6, none⟩ = false) (f7 : w.frozen? ⟨g, o + 7, none⟩ = false) :
    Calls Tryz.prog 86 #[.agg #[], .slice (some ⟨g, o, none⟩) n c, .int .u64 v] w fun e w' => e = .returned (.tuple #[]) ∧ w' = (w.alloc (.cells #[] 157)).setCells g o (Lib.byteCells (Lib.beBytes 8 v)) := Any.binary_BE_PutUint64 Tryz.laysBin43 g o n c v hv x0 x1 x2 x3 x4 x5 x6 x7 w hn c0 c1 c2 c3 c4 c5 c6 c7 f0 f1 f2 f3 f4 f5 f6 f7
open Go.RowKit in
/-- binary.BigEndian.Uint32, b SHORTER THAN 4: IT PANICS: Go's 'runtime error: index out of range [3] with length n' ('Lib.boundsPanicked'). THE WORLD: the receiver's new block without cells, and the draw of the panic's flag. (LAID: no walk: one application.) -/
theorem Tryz.binary_BE_Uint32_panics (ao : Option Addr) (n c : Nat) (w : World) (hn : n < 4) (hnil : ao = none → n = 0) :
    Calls Tryz.prog 180 #[.agg #[], .slice ao n c] w fun e w' => Lib.boundsPanicked Tryz.prog 3 n e ∧ w' = (w.alloc (.cells #[] 157)).drew := Any.binary_BE_Uint32_panics Tryz.laysBin39 ao n c w hn hnil
def Tryz.laysBin46_ren : Go.Shelf.Ren := ⟨fun | 46 => 89 | n => n, fun | 22 => 27 | 33 => 32 | 3 => 3 | 4 => 4 | 5 => 5 | 0 => 0 | 45 => 194 | n => n, fun | n => n⟩
theorem Tryz.laysBin46 : Go.Proofs.LaysBin.n46 Tryz.prog Tryz.laysBin46_ren := {
  mixed := by kernel_rfl
  f46 := Tryz.func89.trans (congrArg some (by kernel_rfl))
  t0 := Tryz.underlying0
  a0 := Tryz.isAgg0
  z0 := Tryz.sizeOf0
  v0 := Tryz.zeroValue0
  i0 := by kernel_rfl
  t3 := Tryz.underlying3
  a3 := Tryz.isAgg3
  z3 := Tryz.sizeOf3
  v3 := Tryz.zeroValue3
  i3 := by kernel_rfl
  t4 := Tryz.underlying4
  a4 := Tryz.isAgg4
  z4 := Tryz.sizeOf4
  v4 := Tryz.zeroValue4
  i4 := by kernel_rfl
  t5 := Tryz.underlying5
  a5 := Tryz.isAgg5
  z5 := Tryz.sizeOf5
  v5 := Tryz.zeroValue5
  i5 := by kernel_rfl
  t22 := Tryz.underlying27
  a22 := Tryz.isAgg27
  z22 := Tryz.sizeOf27
  v22 := Tryz.zeroValue27
  i22 := by kernel_rfl
  t33 := Tryz.underlying32
  a33 := Tryz.isAgg32
  z33 := Tryz.sizeOf32
  v33 := Tryz.zeroValue32
  i33 := by kernel_rfl
  t45 := Tryz.underlying194
  a45 := Tryz.isAgg194
  z45 := Tryz.sizeOf194
  v45 := Tryz.zeroValue194
  i45 := by kernel_rfl }
open Go.RowKit in
/-- binary.PutUvarint: "PutUvarint encodes a uint64 into buf and returns the number of bytes written. If the buffer is too small, PutUvarint will panic.": WHERE buf HAS ROOM: x's VARINT ('Lib.uvarint x') IS LAID IN buf's FIRST CELLS ('World.setCells'); its length comes back; nothing else turns. (LAID: no walk: one application.) -/
theorem Tryz.binary_PutUvarint (g o n c x : Nat) (hx : x < 18446744073709551616) (w : World) (hn : (Lib.uvarint x).length ≤ n) (hcell : ∀ j, j < (Lib.uvarint x).length → (w.cell? ⟨g, o + j, none⟩).isSome = true ∧ w.frozen? ⟨g, o + j, none⟩ = false) :
    Calls Tryz.prog 89 #[.slice (some ⟨g, o, none⟩) n c, .int .u64 x] w fun e w' => e = .returned (.int .i64 (Lib.uvarint x).length) ∧ w' = w.setCells g o (Lib.byteCells (Lib.uvarint x)) := Any.binary_PutUvarint Tryz.laysBin46 g o n c x hx w hn hcell
def Tryz.laysBin49_ren : Go.Shelf.Ren := ⟨fun | 49 => 90 | 46 => 89 | n => n, fun | 22 => 27 | 2 => 2 | 3 => 3 | 33 => 32 | 45 => 194 | 4 => 4 | 5 => 5 | 0 => 0 | n => n, fun | n => n⟩
theorem Tryz.laysBin49 : Go.Proofs.LaysBin.n49 Tryz.prog Tryz.laysBin49_ren := {
  mixed := by kernel_rfl
  f46 := Tryz.func89.trans (congrArg some (by kernel_rfl))
  f49 := Tryz.func90.trans (congrArg some (by kernel_rfl))
  t0 := Tryz.underlying0
  a0 := Tryz.isAgg0
  z0 := Tryz.sizeOf0
  v0 := Tryz.zeroValue0
  i0 := by kernel_rfl
  t2 := Tryz.underlying2
  a2 := Tryz.isAgg2
  z2 := Tryz.sizeOf2
  v2 := Tryz.zeroValue2
  i2 := by kernel_rfl
  t3 := Tryz.underlying3
  a3 := Tryz.isAgg3
  z3 := Tryz.sizeOf3
  v3 := Tryz.zeroValue3
  i3 := by kernel_rfl
  t4 := Tryz.underlying4
  a4 := Tryz.isAgg4
  z4 := Tryz.sizeOf4
  v4 := Tryz.zeroValue4
  i4 := by kernel_rfl
  t5 := Tryz.underlying5
  a5 := Tryz.isAgg5
  z5 := Tryz.sizeOf5
  v5 := Tryz.zeroValue5
  i5 := by kernel_rfl
  t22 := Tryz.underlying27
  a22 := Tryz.isAgg27
  z22 := Tryz.sizeOf27
  v22 := Tryz.zeroValue27
  i22 := by kernel_rfl
  t33 := Tryz.underlying32
  a33 := Tryz.isAgg32
  z33 := Tryz.sizeOf32
  v33 := Tryz.zeroValue32
  i33 := by kernel_rfl
  t45 := Tryz.underlying194
  a45 := Tryz.isAgg194
  z45 := Tryz.sizeOf194
  v45 := Tryz.zeroValue194
  i45 := by kernel_rfl }
open Go.RowKit in
/-- binary.PutVarint: "PutVarint encodes an int64 into buf and returns the number of bytes written. If the buffer is too small, PutVarint will panic.": WHERE buf HAS ROOM: THE VARINT OF x's ZIG-ZAG ('Lib.uvarint (Lib.zigzag x)') IS LAID IN buf's FIRST CELLS; its length comes back; nothing else turns. (LAID: no walk: one application.) -/
theorem Tryz.binary_PutVarint (g o n c : Nat) (x : Int) (h0 : -9223372036854775808 ≤ x) (h1 : x ≤ 9223372036854775807) (w : World) (hn : (Lib.uvarint (Lib.zigzag x)).length ≤ n) (hcell : ∀ j, j < (Lib.uvarint (Lib.zigzag x)).length → (w.cell? ⟨g, o + j, none⟩).isSome = true ∧ w.frozen? ⟨g, o + j, none⟩ = false) :
    Calls Tryz.prog 90 #[.slice (some ⟨g, o, none⟩) n c, .int .i64 x] w fun e w' => e = .returned (.int .i64 (Lib.uvarint (Lib.zigzag x)).length) ∧ w' = w.setCells g o (Lib.byteCells (Lib.uvarint (Lib.zigzag x))) := Any.binary_PutVarint Tryz.laysBin49 g o n c x h0 h1 w hn hcell
open Go.RowKit in
/-- binary.BigEndian.Uint32, ITS PREMISES 'open_ints'' CONCLUSION TO THE LETTER: a slice at WHATEVER address a, the numbers zs that its cells hold: THE NUMBER THAT THE FIRST 4 SPELL ('Lib.beZ'). (LAID: no walk: one application.) -/
theorem Tryz.binary_BE_Uint32_z (a : Addr) (n c : Nat) (zs : List Int) (w : World) (hn : 4 ≤ n) (hl : 4 ≤ zs.length) (hcell : ∀ i, i < zs.length → w.cell? (a.add i) = some (.int .u8 (zs.getD i 0))) (hw : ∀ z ∈ zs, (Lit.int .u8 z).wf = true) :
    Calls Tryz.prog 180 #[.agg #[], .slice (some a) n c] w fun e w' => e = .returned (.int .u32 (Lib.beZ (zs.take 4))) ∧ Below w.heap.size w w' := Any.binary_BE_Uint32_z Tryz.laysBin39 a n c zs w hn hl hcell hw
end Go.Proofs

namespace Go.Proofs.YtfipfoplmopkaaaGreatDoor
open Go.RowKit

/-- Encbuf.Reset: the buffer is empty, its array kept. -/
theorem reset_any (eb o : Nat) (g : Option Nat) (l : List UInt8) (w : World) (h : EB w eb o g l) :
    Calls Tryz.prog 55 #[.pointer (some ⟨eb, o, none⟩)] w fun e w' => e = .returned (.tuple #[]) ∧ Put w eb o g [] w' := by
  obtain ⟨v, hv, hb⟩ := h.b
  have h0 := h.fr 0 (by omega)
  rw [Nat.add_zero] at h0
  obtain ⟨ao, n, c, rfl⟩ : ∃ ao n c, v = .slice ao n c := by rcases hb.form with ⟨rfl, _⟩ | ⟨b, cap, rfl, _⟩ <;> exact ⟨_, _, _, rfl⟩
  have H := Lib.hid h
  have HB := Lib.hid hb
  clear h hb
  go_enter Tryz.func55, Tryz.ntmps55
  go_wp2
  go_end0
  exact ⟨rfl, H.out.reslice (by simpa using HB.out.take 0 (Nat.zero_le _))⟩

/-- Encbuf.PutByte. -/
theorem putByte_any (eb o : Nat) (g : Option Nat) (l : List UInt8) (x : UInt8) (w : World) (h : EB w eb o g l) (hn : l.length < 1000000000) :
    Calls Tryz.prog 35 #[.pointer (some ⟨eb, o, none⟩), bV x] w fun e w' => e = .returned (.tuple #[]) ∧ Put w eb o g (l ++ [x]) w' := by
  obtain ⟨v, hv, hb⟩ := h.b
  have h0 := h.fr 0 (by omega)
  rw [Nat.add_zero] at h0
  have hlt := h.lt
  unfold bV
  have H := Lib.hid h
  have HB := Lib.hid hb
  clear h hb
  go_enter Tryz.func35, Tryz.ntmps35
  go_wp2_with (at_builtin; refine wpList_appB _ rfl _ _ rfl v g l [x] rfl ⟨HB.out.1.alloc _, HB.out.2⟩ (some ⟨w.heap.size, 0, none⟩) 1 1 rfl rfl ?c0 ?c1 ?c2 ?_)
  case c0 => intro e; cases e
  case c1 =>
    intro ad e j u hj
    cases e
    match j, hj with
    | 0, hj => simp at hj; subst hj; simp [Addr.add, bV]
  case c2 => omega
  intro v' w' ha
  obtain ⟨ao', c', rfl⟩ := own_slice ha.own
  have hcell : w'.cell? ⟨eb, o, none⟩ = some v := by
    have hk := ha.kept (HB.out.1.alloc _)
    rw [hk.cell eb o (by simp; omega) (by rw [HB.out.2]; exact H.out.ne), World.cell?_alloc_lt _ _ _ hlt]
    exact hv
  have hfr : w'.frozen? ⟨eb, o, none⟩ = false := by
    have hk := ha.kept (HB.out.1.alloc _)
    rw [hk.fr eb o (by simp; omega), World.frozen?_alloc_old _ _ _ (Nat.ne_of_lt hlt)]
    exact h0
  have HA := Lib.hid ha
  clear ha
  go_wp2
  go_end0
  refine ⟨rfl, ?_⟩
  have hal : EB (w.alloc (.cells #[.int .u8 x.toNat] 5)) eb o g l := H.out.kept (Kept.alloc (fun _ _ => False) _ _) (fun _ _ => id) (fun _ _ _ => id)
  exact Put.trans (.inl rfl) (Kept.alloc _ _ _) (hal.put (by rw [World.cell?_alloc_lt _ _ _ hlt]; exact hv) HA.out)

/-- The bytes of a number of 32 bits, the highest first. -/
def be32 (x : Nat) : List UInt8 := [UInt8.ofNat (x / 16777216), UInt8.ofNat (x / 65536), UInt8.ofNat (x / 256), UInt8.ofNat x]
theorem be32_vs (x : Nat) (hx : x < 4294967296) : bVs (be32 x) = [.int .u8 ((x : Int) / 16777216), .int .u8 ((x : Int) / 65536 % 256), .int .u8 ((x : Int) / 256 % 256), .int .u8 ((x : Int) % 256)] := by
  have h : ((x / 16777216 % 256 : Nat) : Int) = (x : Int) / 16777216 := by omega
  have e : (Value.int .u8 ((x : Int) / 16777216)) = .int .u8 ((x / 16777216 % 256 : Nat) : Int) := by rw [h]
  rw [e]
  simp [bVs, be32, bV]

set_option maxRecDepth 100000 in
theorem putU32_any (b off n c x : Nat) (w : World) (hx : x < 4294967296) (hn : 4 ≤ n) (hn' : n ≤ 10000)
    (hc : ∀ j, j < 4 → ∃ y : Int, w.cell? ⟨b, off + j, none⟩ = some (.int .u8 y)) (hf : ∀ j, j < 4 → w.frozen? ⟨b, off + j, none⟩ = false) :
    Calls Tryz.prog 85 #[.agg #[], .slice (some ⟨b, off, none⟩) n c, .int .u32 x] w fun e w' => e = .returned (.tuple #[]) ∧ w' = (w.setCells b off (bVs (be32 x))).alloc (.cells #[] 157) := by
  obtain ⟨y0, h0⟩ := hc 0 (by omega)
  obtain ⟨y1, h1⟩ := hc 1 (by omega)
  obtain ⟨y2, h2⟩ := hc 2 (by omega)
  obtain ⟨y3, h3⟩ := hc 3 (by omega)
  have f0 := hf 0 (by omega)
  have f1 := hf 1 (by omega)
  have f2 := hf 2 (by omega)
  have f3 := hf 3 (by omega)
  rw [Nat.add_zero] at h0 f0
  have hb : b < w.heap.size := World.block_lt_of_cell? _ _ h0
  clear hc hf
  rw [be32_vs x hx]
  go_enter Tryz.func85, Tryz.ntmps85
  go_wp2
  go_end0
  exact ⟨rfl, rfl⟩

set_option maxRecDepth 100000 in
/-- Encbuf.PutBE32. -/
theorem putBE32_any (eb o : Nat) (g : Option Nat) (l : List UInt8) (x : Nat) (w : World) (h : EB w eb o g l) (hn : l.length < 1000000000) (hx : x < 4294967296) :
    Calls Tryz.prog 36 #[.pointer (some ⟨eb, o, none⟩), .int .u32 x] w fun e w' => e = .returned (.tuple #[]) ∧ Put w eb o g (l ++ be32 x) w' := by
  have H := Lib.hid h
  clear h
  go_enter Tryz.func36, Tryz.ntmps36
  go_wp2
  go_still_tail 6, (by kernel_rfl)
  go_wp2_with fail
  refine (putU32_any eb (o + 1) _ _ x _ hx (by omega) (by omega) (fun j hj => H.out.drew.c j (by omega)) (fun j hj => by have := H.out.drew.fr (1 + j) (by omega); rwa [← Nat.add_assoc] at this)).mono ?_
  rintro e w1 ⟨rfl, hw1⟩
  obtain ⟨E1, K1, C1, V1⟩ := H.out.drew.setC (be32 x) (by simp [be32])
  have A1 := Kept.alloc (fun _ _ => False) (w.drew.setCells eb (o + 1) (bVs (be32 x))) (.cells #[] 157)
  have E2 : EB w1 eb o g l := by rw [hw1]; exact E1.kept A1 (fun _ _ => id) (fun _ _ _ => id)
  have K2 : Kept (ebP eb o g) w w1 := by rw [hw1]; exact ((Kept.drew _ w).trans K1 (fun _ _ _ => id)).trans A1 (fun _ _ _ h => h.elim)
  have C2 : ∀ j u, (be32 x)[j]? = some u → w1.cell? ⟨eb, o + 1 + j, none⟩ = some (bV u) := fun j u hj => by rw [hw1, World.cell?_alloc_lt _ _ _ E1.lt]; exact C1 j u hj
  clear hw1 A1 C1 V1 E1 K1
  obtain ⟨v, hv, hb⟩ := E2.b
  have h0 := E2.fr 0 (by omega)
  rw [Nat.add_zero] at h0
  have HE := Lib.hid E2
  have HB := Lib.hid hb
  have HC := Lib.hid C2
  clear E2 hb C2
  go_wp2
  go_region_law (refine step_appB _ rfl _ _ rfl v g l (be32 x) rfl HB.out (some ⟨eb, o + 1, none⟩) 4 10 rfl rfl (fun e => by cases e) (fun ad e j u hj => by cases e; rw [Addr.add_lit]; exact HC.out j u hj) (by omega) (fun v' w' ha => ?_); obtain ⟨ao', c', rfl⟩ := own_slice ha.own; obtain ⟨hcell, hfr⟩ := HE.out.drew.cellApp hv HB.out ha; have HA := Lib.hid ha; clear ha)
  go_wp2
  go_end0
  exact ⟨rfl, Put.trans (.inl rfl) (K2.trans (Kept.drew _ _) (fun _ _ _ => id)) (HE.out.drew.put hv HA.out)⟩

theorem bVs_cells (l : List UInt8) : Lib.byteCells l = bVs l := rfl

/-- Behind a call that wrote into the struct's array: what the walk goes on from. -/
theorem EB.wrote {w w1 : World} {eb o : Nat} {g : Option Nat} {l : List UInt8} (h : EB w eb o g l) (k : List UInt8) (hk : k.length ≤ 10) (A : World → World) (hA : ∀ x, Kept (fun _ _ => False) x (A x)) (hw : w1 = A (w.setCells eb (o + 1) (bVs k))) :
    EB w1 eb o g l ∧ Kept (ebP eb o g) w w1 ∧ (∀ j u, k[j]? = some u → w1.cell? ⟨eb, o + 1 + j, none⟩ = some (bV u)) := by
  obtain ⟨E1, K1, C1, _⟩ := h.setC k hk
  subst hw
  exact ⟨E1.kept (hA _) (fun _ _ => id) (fun _ _ _ => id), K1.trans (hA _) (fun _ _ _ h => h.elim), fun j u hj => by rw [(hA _).cell _ _ E1.lt id]; exact C1 j u hj⟩

set_option maxRecDepth 100000 in
/-- Encbuf.PutUvarint64. -/
theorem putUvarint64_any (eb o : Nat) (g : Option Nat) (l : List UInt8) (x : Nat) (w : World) (h : EB w eb o g l) (hn : l.length < 1000000000) (hx : x < 18446744073709551616) :
    Calls Tryz.prog 44 #[.pointer (some ⟨eb, o, none⟩), .int .u64 x] w fun e w' => e = .returned (.tuple #[]) ∧ Put w eb o g (l ++ Lib.uvarint x) w' := by
  have H := Lib.hid h
  have hlen := Lib.uvarint_length64 hx
  have HX := Lib.hid hx
  clear h hx
  obtain ⟨m, hm⟩ : ∃ m, m = (Lib.uvarint x).length := ⟨_, rfl⟩
  rw [← hm] at hlen
  have HM := Lib.hid hm
  clear hm
  go_enter Tryz.func44, Tryz.ntmps44
  go_wp2_with fail
  refine (Tryz.binary_PutUvarint eb (o + 1) 10 10 x HX.out w (by rw [← HM.out]; exact hlen) (fun j hj => ?_)).mono ?_
  · rw [← HM.out] at hj
    obtain ⟨y, hy⟩ := H.out.c j (by omega)
    have := H.out.fr (1 + j) (by omega)
    rw [← Nat.add_assoc] at this
    exact ⟨by rw [hy]; rfl, this⟩
  rw [← HM.out]
  rintro e w1 ⟨rfl, hw1⟩
  obtain ⟨E2, K2, C2⟩ := H.out.wrote (Lib.uvarint x) (by rw [← HM.out]; exact hlen) id (fun _ => Kept.refl _ _) hw1
  clear hw1
  obtain ⟨v, hv, hb⟩ := E2.b
  have h0 := E2.fr 0 (by omega)
  rw [Nat.add_zero] at h0
  have HE := Lib.hid E2
  have HB := Lib.hid hb
  have HC := Lib.hid C2
  clear E2 hb C2
  have hi1 : (m : Int) ≤ 10 := by omega
  have hi0 : (0 : Int) ≤ (m : Int) := by omega
  go_wp2
  go_region_law (refine step_appB _ rfl _ _ rfl v g l (Lib.uvarint x) rfl HB.out (some ⟨eb, o + 1, none⟩) m 10 rfl HM.out.symm (fun e => by cases e) (fun ad e j u hj => by cases e; rw [Addr.add_lit]; exact HC.out j u hj) (by omega) (fun v' w' ha => ?_); obtain ⟨ao', c', rfl⟩ := own_slice ha.own; obtain ⟨hcell, hfr⟩ := HE.out.drew.cellApp hv HB.out ha; have HA := Lib.hid ha; clear ha)
  go_wp2
  go_end0
  exact ⟨rfl, Put.trans (.inl rfl) (K2.trans (Kept.drew _ _) (fun _ _ _ => id)) (HE.out.drew.put hv HA.out)⟩

end Go.Proofs.YtfipfoplmopkaaaGreatDoor

namespace Go.Proofs.YtfipfoplmopkaaaGreatDoor
open Go.RowKit

def regsOf : Code → List (Nat × Code)
  | .region k ops b => [(k, .region k ops b)]
  | .loop c => regsOf c
  | .seq a b => regsOf a ++ regsOf b
  | .block _ c => regsOf c
  | .scope c => regsOf c
  | .cond _ a b => regsOf a ++ regsOf b
  | _ => []
/-- Region k of function 7. -/
noncomputable def rg7 (k : Nat) : Code := ((((Tryz.f7.body.map regsOf).getD []).find? (fun p => p.1 == k)).map (·.2)).getD .skip
/-- What a leaf leaves. -/
def RK (w w' : World) : Prop := Kept (fun _ _ => False) w w'

/-- A row of operations of a region none of which is wanted. -/
def allOff (ops : Array Oper) : List Oper → Act → Bool
  | [], _ => true
  | o :: r, a => !Region.wanted o (yielded ops a.tmps) && allOff ops r (a.put o.dst undef)
def putAll : List Oper → Act → Act
  | [], a => a
  | o :: r, a => putAll r (a.put o.dst undef)
theorem wpStill_off {P : Program} {ops : Array Oper} {w : World} {Q : Act → Prop} : ∀ (l rest : List Oper) (a : Act), allOff ops l a = true → wpStill P ops w Q rest (putAll l a) → wpStill P ops w Q (l ++ rest) a
  | [], _, _, _, h => h
  | o :: r, rest, a, h1, h => by
    simp only [allOff, Bool.and_eq_true, Bool.not_eq_true'] at h1
    show wpStill P ops w Q (o :: (r ++ rest)) a
    unfold wpStill
    rw [if_neg (by rw [h1.1]; exact Bool.false_ne_true)]
    exact wpStill_off r rest _ h1.2 h
theorem skipK {P : Program} {ops : Array Oper} {w : World} {Q : Act → Prop} {K : Act → Prop} (n : Nat) {rest : List Oper} (hK : ∀ a, wpStill P ops w Q rest a → K a) {a : Act} (h1 : allOff ops (rest.take n) a = true) (h2 : wpStill P ops w Q (rest.drop n) (putAll (rest.take n) a)) : K a :=
  hK a (by have := wpStill_off _ _ a h1 h2; rwa [List.take_append_drop] at this)

end Go.Proofs.YtfipfoplmopkaaaGreatDoor
