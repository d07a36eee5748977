/- impl.Encode(18) at one number of seven-bit groups: two bytes. Condition: the cells of the argument. impl.AddIntervals(17) at the intervals 1, 2 and 3, 4; laws.indexAwake(8): true. No condition. slices.Sort of numbers of 32 bits: it comes to an end, and every number keeps what all have. First part. Conditions: the row is there. slices.Sort of numbers of 32 bits: the choice of a pivot. Conditions: the row is there. slices.Sort of numbers of 32 bits: the heap; a range turned round. Conditions: the row is there. slices.Sort of numbers of 32 bits: the heap's sort; a range turned round. Conditions: the row is there. slices.Sort of numbers of 32 bits: the partition by equality. Conditions: the row is there. -/
import Derived.Test.YtfipfoplmopkaaaGreatDoorZ12
import Derived.Test.YtfipfoplmopkaaaGreatDoorZ01
import Derived.RegionTactic
import Derived.Deep.RegionHeld3
import Derived.IntWalk

namespace Go.Proofs.YtfipfoplmopkaaaGreatDoor
open Go.RowKit

/-- A fresh Encbuf. -/
theorem EB.fresh (w : World) (t : TypeId) : EB (w.alloc (.cells #[.slice none 0 0, .int .u8 0, .int .u8 0, .int .u8 0, .int .u8 0, .int .u8 0, .int .u8 0, .int .u8 0, .int .u8 0, .int .u8 0, .int .u8 0] t)) w.heap.size 0 none [] := by
  refine ⟨by rw [World.size_alloc]; omega, ⟨_, by rw [World.cell?_alloc_new]; rfl, Bf.nil _⟩, fun j hj => by simp, fun j hj => ⟨0, ?_⟩, by intro h; cases h⟩
  rw [World.cell?_alloc_new]
  match j, hj with
  | 0, _ => rfl
  | 1, _ => rfl
  | 2, _ => rfl
  | 3, _ => rfl
  | 4, _ => rfl
  | 5, _ => rfl
  | 6, _ => rfl
  | 7, _ => rfl
  | 8, _ => rfl
  | 9, _ => rfl

set_option maxHeartbeats 2000000 in
theorem enc300_any (w : World) (b : Nat) (h0 : w.cell? ⟨b, 0, none⟩ = some (.int .i64 8)) (h1 : w.cell? ⟨b, 1, none⟩ = some (.int .u64 300)) (h2 : w.cell? ⟨b, 2, none⟩ = some (.slice none 0 0)) :
    Calls Tryz.prog 18 #[.slice (some ⟨b, 0, none⟩) 1 1] w fun e w' => (∃ ao c, e = .returned (.slice ao 2 c)) ∧ Kept (fun _ _ => False) w w' := by
  have hb := World.block_lt_of_cell? _ _ h0
  go_enter Tryz.func18, Tryz.ntmps18
  go_wp2
  refine wp_loop_rounds 2 ?_
  rw [rounds_succ]
  have hp := (putUvarint64_any w.heap.size 0 none [] 300 _ ((EB.fresh w 91).kept (Kept.alloc (fun _ _ => False) _ (.cells #[.int .i64 8, .int .u64 300, .slice none 0 0] 55)) (fun _ _ => id) (fun _ _ _ => id)) (by simp) (by omega))
  rw [show ((300 : Nat) : Int) = 300 from rfl] at hp
  have HP := Lib.hid hp
  clear hp
  have hu : (Lib.uvarint 300).length = 2 := by rw [Lib.uvarint_big (by decide), Lib.uvarint_small (by decide)]; rfl
  have HU := Lib.hid hu
  clear hu
  go_wp2_with fail
  (with_reducible refine HP.out.mono ?_)
  rintro e w1 ⟨rfl, g1, hm, he, hk⟩
  have HK : Hid (Kept (fun _ _ => False) w w1) := Lib.hid (((Kept.alloc _ w _).trans (Kept.alloc _ _ _) (fun _ _ _ => id)).trans hk (fun k o hlt e => by
    rcases e with ⟨e, _⟩ | e
    · exact absurd e (Nat.ne_of_lt hlt)
    · cases e))
  obtain ⟨v, hv, hb⟩ := he.b
  have hlen : ([] ++ Lib.uvarint 300).length = 2 := HU.out
  obtain ⟨ao, c, rfl⟩ := own_slice hb.1
  have hn := hb.1
  rw [hlen] at hn
  obtain ⟨b2, cap, hvv, hg, hsz⟩ := hn.form (by omega)
  cases hvv
  obtain rfl : g1 = some b2 := hb.2.symm
  have HC : Hid (∀ j u, (Lib.uvarint 300)[j]? = some u → w1.cell? ⟨b2, j, none⟩ = some (bV u)) := Lib.hid (fun j u hj => hb.cells j u hj)
  have hs1 := Lib.hid he.lt
  rw [hlen] at hv
  clear hk hm he hb hn HP hlen
  go_wp2_with fail
  rw [rounds_succ]
  go_wp2_with fail
  have hv2 := (World.cell?_alloc_lt w1 (.cells #[] 5) ⟨w.heap.size, 0, none⟩ hs1.out).trans hv
  (with_reducible refine (get_any w.heap.size 0 _ _ hv2).mono ?_)
  rintro e w2 ⟨rfl, rfl⟩
  have HB0 : Hid (Bf (w1.alloc (.cells #[] 5)) (.slice (some ⟨w1.heap.size, 0, none⟩) 0 0) (some w1.heap.size) []) := Lib.hid ⟨World.ownsRow_lit w1 #[] 0 (Nat.zero_le _) (Nat.zero_le _) rfl, rfl⟩
  clear hv2 hv
  go_wp2_with (at_builtin; refine wpList_appB _ rfl _ _ rfl (.slice (some ⟨w1.heap.size, 0, none⟩) 0 0) (some w1.heap.size) [] (Lib.uvarint 300) rfl HB0.out (some ⟨b2, 0, none⟩) 2 c rfl HU.out (fun e => by cases e) ?c1 ?c2 ?_)
  case c1 =>
    intro ad e j u hj
    cases e
    rw [Addr.add_lit, Nat.zero_add]
    rw [World.cell?_alloc_lt _ _ _ (World.block_lt_of_cell? _ _ (HC.out j u hj))]
    exact HC.out j u hj
  case c2 => decide
  intro v' w3 ha
  obtain ⟨ao', c', rfl⟩ := own_slice ha.own
  have hk := ha.kept HB0.out.1
  have hfin : Kept (fun _ _ => False) w w3 := (HK.out.trans (Kept.alloc _ _ _) (fun _ _ _ => id)).trans hk (fun k _ hlt e => by
    have e2 : some w1.heap.size = some k := e
    cases e2
    have := HK.out.size
    omega)
  have HF := Lib.hid hfin
  have HL : Hid (([] : List UInt8).length + (Lib.uvarint 300).length = 2) := Lib.hid (by rw [HU.out]; rfl)
  first | rw [HL.out] | rw [HU.out]
  clear ha hk hfin
  go_wp2_with fail
  go_ret
  exact ⟨⟨_, _, rfl⟩, HF.out⟩

end Go.Proofs.YtfipfoplmopkaaaGreatDoor

namespace Go.Proofs.YtfipfoplmopkaaaGreatDoor
open Go.RowKit

theorem new2 (w : World) (o1 o2 : Obj) :
    let w2 := (w.alloc o1).alloc o2
    w2.heap[w.heap.size]? = some o1 ∧ w2.heap[w.heap.size + 1]? = some o2 := by
  refine ⟨?_, ?_⟩
  all_goals
    show ((w.heap.push o1).push o2)[_]? = _
    simp only [Array.getElem?_push, Array.size_push]
  · rw [if_neg (by omega), if_pos trivial]
  · rw [if_pos trivial]

set_option maxRecDepth 100000 in
set_option maxHeartbeats 2000000 in
theorem addAwake_any (w : World) (b : Nat) (h0 : w.cell? ⟨b, 0, none⟩ = some (.int .i64 1)) (h1 : w.cell? ⟨b, 1, none⟩ = some (.int .i64 2)) (h2 : w.cell? ⟨b, 2, none⟩ = some (.int .i64 3)) (h3 : w.cell? ⟨b, 3, none⟩ = some (.int .i64 4)) :
    Calls Tryz.prog 17 #[.slice (some ⟨b, 0, none⟩) 2 2] w fun e w' => ∃ g c, e = .returned (.slice (some ⟨g, 0, none⟩) 1 c) ∧ w'.cell? ⟨g, 1, none⟩ = some (.int .i64 4) ∧ Kept (fun _ _ => False) w w' := by
  have hmf : ∀ (fn : Fn) (first cap : Array Value) (w : World), (Instr.makeFunc fn first cap).run Tryz.prog w = .ok (.func fn first cap) w := fun _ _ _ _ => rfl
  obtain ⟨n, hn⟩ : ∃ n, n = w.heap.size := ⟨_, rfl⟩
  obtain ⟨w3, hw3⟩ : ∃ w3, w3 = (w.alloc (.cells #[.slice (some ⟨b, 0, none⟩) 2 2] 49)).alloc (.cells #[.slice none 0 0] 49) := ⟨_, rfl⟩
  have z3 : w3.heap.size = n + 2 := by rw [hw3, hn]; simp only [World.size_alloc]
  obtain ⟨x1, x2⟩ := new2 w (.cells #[.slice (some ⟨b, 0, none⟩) 2 2] 49) (.cells #[.slice none 0 0] 49)
  rw [← hw3, ← hn] at x1 x2
  obtain ⟨w4, hw4⟩ : ∃ w4, w4 = w3.alloc (.cells #[.bool false] 4) := ⟨_, rfl⟩
  have z4 : w4.heap.size = n + 3 := by rw [hw4, World.size_alloc, z3]
  have o4 : ∀ k, k < n + 2 → w4.heap[k]? = w3.heap[k]? := fun k hk => by rw [hw4]; exact heap_alloc_old _ _ (by rw [z3]; exact hk)
  have y1 := (o4 n (by omega)).trans x1
  have y2 := (o4 (n + 1) (by omega)).trans x2
  have k3 : Kept (fun _ _ => False) w w3 := by rw [hw3]; exact (Kept.alloc _ _ _).trans (Kept.alloc _ _ _) (fun _ _ _ => id)
  have k4 : Kept (fun _ _ => False) w w4 := by rw [hw4]; exact k3.trans (Kept.alloc _ _ _) (fun _ _ _ => id)
  have h4c : w4.cell? ⟨n + 2, 0, none⟩ = some (.bool false) := by rw [hw4, ← z3, World.cell?_alloc_new]; rfl
  have h4f : w4.frozen? ⟨n + 2, 0, none⟩ = false := by rw [hw4, ← z3]; simp
  have hb := World.block_lt_of_cell? _ _ h0
  have c4 : ∀ j v, w.cell? ⟨b, j, none⟩ = some v → w4.cell? ⟨b, j, none⟩ = some v := fun j v h => (k4.cell b j hb id).trans h
  have key := cl32_any w4 n (n + 1) b ((cellOf y1 0).trans rfl) ((cellOf y2 0).trans rfl) (frzOf y2 0) (c4 0 _ h0) (c4 1 _ h1) (c4 2 _ h2) (c4 3 _ h3)
  have KEY : Hid (Calls Tryz.prog 19 #[.func (.func 32) #[] #[.pointer (some ⟨n, 0, none⟩), .pointer (some ⟨n + 1, 0, none⟩)]] w3 (fun e w' =>
      e = .returned (.bool true) ∧ ∃ g c, w'.cell? ⟨n + 1, 0, none⟩ = some (.slice (some ⟨g, 0, none⟩) 1 c) ∧ w'.cell? ⟨g, 1, none⟩ = some (.int .i64 4) ∧ Kept (fun _ _ => False) w w')) := Lib.hid (by
    have hs := safe32 _ w3 (YP w4 (n + 1)) (by rw [← hw4]; exact key)
      (fun w' hq => by
        obtain ⟨g, c, q1, q3, hk⟩ := hq
        rw [z3]
        exact ⟨⟨_, (hk.cell (n + 2) 0 (by omega) (fun e => by omega)).trans h4c⟩, (hk.fr (n + 2) 0 (by omega)).trans h4f⟩)
    refine hs.mono ?_
    rintro e w' ⟨he, w1, ⟨g, c, q1, q3, hk⟩, rfl⟩
    rw [z3]
    have cc : ∀ k j, (k ≠ n + 2 ∨ j ≠ 0) → ((w1.setCell ⟨n + 2, 0, none⟩ (.bool true)).setCell ⟨n + 2, 0, none⟩ (.bool true)).cell? ⟨k, j, none⟩ = w1.cell? ⟨k, j, none⟩ := fun k j hk => by
      rw [World.cell?_setCell_other _ _ _ _ (by first | (simp; done) | (simp; omega)), World.cell?_setCell_other _ _ _ _ (by first | (simp; done) | (simp; omega))]
    refine ⟨he, g, c, (cc _ _ (.inl (by omega))).trans q1, (cc _ _ (.inr (by decide))).trans q3, ?_⟩
    exact ((k4.trans hk (fun k _ hlt e => by omega)).trans (Kept.setCell (P := fun k _ => k = n + 2) w1 (n + 2) 0 (.bool true) rfl) (fun k _ hlt e => by omega)).trans (Kept.setCell (P := fun k _ => k = n + 2) _ (n + 2) 0 (.bool true) rfl) (fun k _ hlt e => by omega))
  have HW3 := Lib.hid hw3
  clear key k3 k4 o4 x1 x2 y1 y2 z4 h4c h4f hw4 z3 c4 hb h0 h1 h2 h3 hw3
  subst hn
  go_enter Tryz.func17, Tryz.ntmps17
  go_wp2_with fail
  rw [← HW3.out]
  (with_reducible refine KEY.out.mono ?_)
  rintro e w7 ⟨rfl, g, c, q1, q3, hk⟩
  have FIN := Lib.hid (And.intro q3 hk)
  clear hk KEY HW3 q3
  go_wp2_with fail
  go_ret
  exact ⟨g, c, rfl, FIN.out⟩

set_option maxRecDepth 100000 in
set_option maxHeartbeats 2000000 in
theorem awake_any (w : World) : Calls Tryz.prog 8 #[] w fun e w' => e = .returned (.bool true) ∧ Kept (fun _ _ => False) w w' := by
  obtain ⟨wA, hwA⟩ : ∃ wA, wA = ((w.alloc (.cells #[.int .u64 1, .int .u64 2] 32)).alloc (.cells #[.int .u64 2] 32)).alloc (.cells #[.int .i64 0, .slice (some ⟨w.heap.size, 0, none⟩) 2 2, .slice none 0 0, .int .i64 0, .slice (some ⟨w.heap.size + 1, 0, none⟩) 1 1, .slice none 0 0] 48) := ⟨_, rfl⟩
  obtain ⟨x1, x2, x3⟩ := new3 w (.cells #[.int .u64 1, .int .u64 2] 32) (.cells #[.int .u64 2] 32) (.cells #[.int .i64 0, .slice (some ⟨w.heap.size, 0, none⟩) 2 2, .slice none 0 0, .int .i64 0, .slice (some ⟨w.heap.size + 1, 0, none⟩) 1 1, .slice none 0 0] 48)
  rw [← hwA] at x1 x2 x3
  have kA : Kept (fun _ _ => False) w wA := by rw [hwA]; exact ((Kept.alloc _ _ _).trans (Kept.alloc _ _ _) (fun _ _ _ => id)).trans (Kept.alloc _ _ _) (fun _ _ _ => id)
  have EX := Lib.hid (expandAwake_any wA (w.heap.size + 1 + 1) w.heap.size (w.heap.size + 1) 2 1 ((cellOf x3 0).trans rfl) ((cellOf x3 1).trans rfl) ((cellOf x3 2).trans rfl) ((cellOf x3 3).trans rfl) ((cellOf x3 4).trans rfl) ((cellOf x3 5).trans rfl)
    (fun j hj => by
      rw [cellOf x1 (0 + j)]
      match j, hj with
      | 0, _ => rfl
      | 1, _ => rfl)
    (fun j hj => by
      rw [cellOf x2 (0 + j)]
      match j, hj with
      | 0, _ => rfl))
  have HWA := Lib.hid hwA
  have KA := Lib.hid kA
  clear hwA x1 x2 x3 kA
  go_enter Tryz.func8, Tryz.ntmps8
  go_wp2_with fail
  rw [← HWA.out]
  (with_reducible refine EX.out.mono ?_)
  rintro e w1 ⟨g, c, rfl, hg, hk⟩
  have hgl := World.block_lt_of_cell? _ _ hg
  have K1 := Lib.hid (KA.out.trans hk (fun _ _ _ => id))
  have AD := Lib.hid (addAwake_any (w1.alloc (.cells #[.int .i64 1, .int .i64 2, .int .i64 3, .int .i64 4] 52)) w1.heap.size (by rw [World.cell?_alloc_new]; rfl) (by rw [World.cell?_alloc_new]; rfl) (by rw [World.cell?_alloc_new]; rfl) (by rw [World.cell?_alloc_new]; rfl))
  clear hk EX HWA KA
  go_wp2_with fail
  (with_reducible refine AD.out.mono ?_)
  rintro e w2 ⟨g2, c2, rfl, hg2, hk⟩
  have hk2 : Kept (fun _ _ => False) w1 w2 := (Kept.alloc _ _ _).trans hk (fun _ _ _ => id)
  have hg' := (hk2.cell g 0 hgl id).trans hg
  have K2 := Lib.hid (K1.out.trans hk2 (fun _ _ _ => id))
  have EN := Lib.hid (enc300_any (w2.alloc (.cells #[.int .i64 8, .int .u64 300, .slice none 0 0] 55)) w2.heap.size (by rw [World.cell?_alloc_new]; rfl) (by rw [World.cell?_alloc_new]; rfl) (by rw [World.cell?_alloc_new]; rfl))
  clear hk hk2 hg hgl AD K1
  go_wp2_with fail
  (with_reducible refine EN.out.mono ?_)
  rintro e w3 ⟨⟨ao, c3, rfl⟩, hk⟩
  have K3 := Lib.hid ((K2.out.trans (Kept.alloc _ _ _) (fun _ _ _ => id)).trans hk (fun _ _ _ => id))
  clear hk EN K2
  go_wp2_with fail
  go_ret
  exact ⟨rfl, K3.out⟩

end Go.Proofs.YtfipfoplmopkaaaGreatDoor

namespace Go.Proofs.YtfipfoplmopkaaaGreatDoor
open Go.RowKit

theorem isNaN_any (x : Int) (w : World) : Calls Tryz.prog 212 #[.int .u32 x] w fun e w' => e = .returned (.bool false) ∧ w = w' := by
  go_enter Tryz.func212, Tryz.ntmps212
  go_wp2
  go_ret
  exact ⟨by simp, rfl⟩
theorem less_any (x y : Int) (w : World) : Calls Tryz.prog 197 #[.int .u32 x, .int .u32 y] w fun e w' => e = .returned (.bool (decide (x < y))) ∧ w = w' := by
  go_enter Tryz.func197, Tryz.ntmps197
  go_wp2_with fail
  refine (isNaN_any _ _).mono ?_
  rintro e w' ⟨rfl, rfl⟩
  go_wp2
  go_ret
  exact ⟨rfl, rfl⟩

theorem less_t {x y : Int} (h : x < y) (w : World) : Calls Tryz.prog 197 #[.int .u32 x, .int .u32 y] w fun e w' => e = .returned (.bool true) ∧ w = w' := (less_any x y w).mono fun _ _ ⟨a, b⟩ => ⟨by rw [a, decide_eq_true h], b⟩
theorem less_f {x y : Int} (h : ¬ x < y) (w : World) : Calls Tryz.prog 197 #[.int .u32 x, .int .u32 y] w fun e w' => e = .returned (.bool false) ∧ w = w' := (less_any x y w).mono fun _ _ ⟨a, b⟩ => ⟨by rw [a, decide_eq_false h], b⟩

/-- The cells b, off .. off + n - 1 hold numbers of 32 bits that have Q. -/
def UR (Q : Int → Prop) (w : World) (b off n : Nat) : Prop := ∀ j, j < n → (∃ x : Int, w.cell? ⟨b, off + j, none⟩ = some (.int .u32 x) ∧ Q x) ∧ w.frozen? ⟨b, off + j, none⟩ = false
theorem UR.set {Q : Int → Prop} {w : World} {b off n : Nat} (h : UR Q w b off n) (i : Nat) (hi : i < n) {x : Int} (hx : Q x) : UR Q (w.setCell ⟨b, off + i, none⟩ (.int .u32 x)) b off n := by
  intro j hj
  refine ⟨?_, by rw [World.frozen?_setCell]; exact (h j hj).2⟩
  by_cases e : j = i
  · subst e
    obtain ⟨y, hy, _⟩ := (h j hj).1
    exact ⟨x, World.cell?_setCell_same _ _ _ hy, hx⟩
  · obtain ⟨y, hy, hq⟩ := (h j hj).1
    exact ⟨y, by rw [World.cell?_setCell_other _ _ _ _ (fun e' => e (by have := congrArg Addr.off e'; simp at this; omega))]; exact hy, hq⟩
/-- What each part of the sort leaves. -/
def US (Q : Int → Prop) (b off n : Nat) (w w' : World) : Prop := UR Q w' b off n ∧ Kept (fun k _ => k = b) w w'
theorem US.refl {Q : Int → Prop} {b off n : Nat} {w : World} (h : UR Q w b off n) : US Q b off n w w := ⟨h, Kept.refl _ _⟩
theorem US.trans {Q : Int → Prop} {b off n : Nat} {w w1 w2 : World} (h : US Q b off n w w1) (k : US Q b off n w1 w2) : US Q b off n w w2 := ⟨k.1, h.2.trans k.2 (fun _ _ _ h => h)⟩
theorem US.drew {Q : Int → Prop} {b off n : Nat} {w w1 : World} (h : US Q b off n w w1) : US Q b off n w w1.drew := ⟨h.1, h.2.trans (Kept.drew _ _) (fun _ _ _ h => h)⟩
/-- Behind an exchange. -/
theorem US.swap {Q : Int → Prop} {b off n : Nat} {w w1 : World} (h : US Q b off n w w1) (i j : Nat) (hi : i < n) (hj : j < n) {x y : Int} (hx : Q x) (hy : Q y) : US Q b off n w ((w1.setCell ⟨b, off + i, none⟩ (.int .u32 x)).setCell ⟨b, off + j, none⟩ (.int .u32 y)) :=
  ⟨(h.1.set i hi hx).set j hj hy, (h.2.trans (Kept.setCell (P := fun k _ => k = b) _ _ _ _ rfl) (fun _ _ _ h => h)).trans (Kept.setCell (P := fun k _ => k = b) _ _ _ _ rfl) (fun _ _ _ h => h)⟩

theorem cell_setCell_some {w : World} {p q : Addr} {x v : Value} (h : w.cell? q = some v) : ∃ v', (w.setCell p x).cell? q = some v' := by
  by_cases e : q = p
  · subst e; exact ⟨x, World.cell?_setCell_same _ _ _ h⟩
  · exact ⟨v, by rw [World.cell?_setCell_other _ _ _ _ (fun e' => e (by first | exact e' | exact e'.symm))]; exact h⟩

set_option maxRecDepth 100000 in
set_option maxHeartbeats 1000000 in
theorem insSort_any (Q : Int → Prop) (b off n c i0 i1 : Nat) (w : World) (h : UR Q w b off n) (h0 : i0 ≤ i1) (h1 : i1 ≤ n) (hn : n < 1000000000) :
    Calls Tryz.prog 191 #[.slice (some ⟨b, off, none⟩) n c, .int .i64 i0, .int .i64 i1] w fun e w' => e = .returned (.tuple #[]) ∧ US Q b off n w w' := by
  have H := Lib.hid h
  clear h
  go_enter Tryz.func191, Tryz.ntmps191
  go_wp2_with fail
  go_loopw [6] (fun x wr => ∃ i : Nat, i0 < i ∧ x = .int .i64 i ∧ Hid (US Q b off n w wr)) (fun x _ => i1 - (intOf x).toNat)
  case atStart => exact ⟨i0 + 1, by omega, by go_num, Lib.hid (US.refl H.out)⟩
  case round =>
    obtain ⟨i, hi, rfl, HR⟩ := hrel
    by_cases hlt : i < i1
    · go_wp2_with fail
      go_loopw [7] (fun x ws => ∃ j : Nat, i0 ≤ j ∧ j ≤ i ∧ x = .int .i64 j ∧ Hid (US Q b off n w ws)) (fun x _ => (intOf x).toNat)
      case atStart => exact ⟨i, by omega, Nat.le_refl _, rfl, HR⟩
      case round =>
        obtain ⟨j, hj0, hji, rfl, HS⟩ := hrel
        by_cases hgt : i0 < j
        · obtain ⟨q, rfl⟩ : ∃ q, j = q + 1 := ⟨j - 1, by omega⟩
          obtain ⟨⟨x, hx, qx⟩, fx⟩ := HS.out.1 (q + 1) (by omega)
          obtain ⟨⟨y, hy, qy⟩, fy⟩ := HS.out.1 q (by omega)
          have e1 : (q : Int) + 1 < n := by omega
          have e2 : (q : Int) < n := by omega
          have e3 : (0 : Int) ≤ (q : Int) + 1 := by omega
          have e5 : (i0 : Int) < (q : Int) + 1 := by omega
          have z1 : IntKind.i64.wrap (q : Int) = q := IntWalk.i64_in _ (by omega)
          have z2 : ((q : Int) + 1).toNat = q + 1 := by omega
          go_wp2_with fail
          go_region_held3 (fun w' => w'.cell? ⟨b, off + (q + 1), none⟩ = some (.int .u32 x) ∧ w'.cell? ⟨b, off + q, none⟩ = some (.int .u32 y)) (first | exact ⟨hx, hy⟩ | go_keep) (first | (go_at_call 197; refine (less_any _ _ _).mono ?_; rintro e w' ⟨rfl, rfl⟩))
          by_cases hxy : x < y
          · go_wp2_with fail
            obtain ⟨v1, hv1⟩ := cell_setCell_some (w := wr.drew) (p := ⟨b, off + (q + 1), none⟩) (x := .int .u32 y) hy
            obtain ⟨v2, hv2⟩ := cell_setCell_some (w := wr.drew) (p := ⟨b, off + q, none⟩) (x := .int .u32 x) hx
            go_region
            all_goals
              go_wp2_with fail
              go_roundw
              case rel => exact ⟨q, by omega, by omega, by go_num, Lib.hid (by first | (with_reducible exact (HS.out.swap (q + 1) q (by omega) (by omega) qy qx).drew.drew) | (with_reducible exact (HS.out.swap q (q + 1) (by omega) (by omega) qx qy).drew.drew))⟩
              case measure => simp [intOf]
          · go_wp2_with fail
            refine ⟨⟨i + 1, by omega, by go_num, Lib.hid HS.out.drew⟩, by simp [intOf]; omega⟩
        · have e1 : decide ((i0 : Int) < j) = false := by simp; omega
          go_wp2_with fail
          go_region
          go_wp2_with fail
          refine ⟨⟨i + 1, by omega, by go_num, Lib.hid HS.out.drew⟩, by simp [intOf]; omega⟩
    · go_wp2
      go_end0
      exact ⟨rfl, HR.out⟩

end Go.Proofs.YtfipfoplmopkaaaGreatDoor

namespace Go.Proofs.YtfipfoplmopkaaaGreatDoor
open Go.RowKit

theorem UR.kept {Q : Int → Prop} {w w' : World} {b off n : Nat} {P : Nat → Prop} (h : UR Q w b off n) (hk : Kept (fun k _ => P k) w w') (hP : ¬ P b) : UR Q w' b off n := fun j hj => by
  obtain ⟨⟨x, hx, hq⟩, hf⟩ := h j hj
  have hb := World.block_lt_of_cell? _ _ hx
  exact ⟨⟨x, (hk.cell _ _ hb hP).trans hx, hq⟩, (hk.fr _ _ hb).trans hf⟩

/-- The count of exchanges: a number in a cell of its own. -/
structure CT (sp : Nat) (s : Nat) (w w' : World) : Prop where
  c : w'.cell? ⟨sp, 0, none⟩ = some (.int .i64 s)
  f : w'.frozen? ⟨sp, 0, none⟩ = false
  k : Kept (fun k _ => k = sp) w w'
theorem CT.trans {sp s s' : Nat} {w w1 w2 : World} (h : CT sp s w w1) (k : CT sp s' w1 w2) : CT sp s' w w2 := ⟨k.c, k.f, h.k.trans k.k (fun _ _ _ h => h)⟩

def Ord2 (sp s i j : Nat) (w : World) (e : Ending) (w' : World) : Prop := ∃ i' j' s' : Nat, e = .returned (.tuple #[.int .i64 i', .int .i64 j']) ∧ ((i' = i ∧ j' = j) ∨ (i' = j ∧ j' = i)) ∧ s' ≤ s + 1 ∧ CT sp s' w w'

set_option maxRecDepth 100000 in
set_option maxHeartbeats 1000000 in
theorem order2_any (Q : Int → Prop) (b off n c sp s i j : Nat) (w : World) (h : UR Q w b off n) (hi : i < n) (hj : j < n) (hc : w.cell? ⟨sp, 0, none⟩ = some (.int .i64 s)) (hf : w.frozen? ⟨sp, 0, none⟩ = false) (hs : s < 1000000) :
    Calls Tryz.prog 215 #[.slice (some ⟨b, off, none⟩) n c, .int .i64 i, .int .i64 j, .pointer (some ⟨sp, 0, none⟩)] w (Ord2 sp s i j w) := by
  obtain ⟨⟨x, hx, qx⟩, fx⟩ := h i hi
  obtain ⟨⟨y, hy, qy⟩, fy⟩ := h j hj
  have e1 : (i : Int) < n := by omega
  have e2 : (j : Int) < n := by omega
  clear h qx qy fx fy
  go_enter Tryz.func215, Tryz.ntmps215
  go_wp2_with fail
  go_region_held3 (fun w' => w'.cell? ⟨b, off + i, none⟩ = some (.int .u32 x) ∧ w'.cell? ⟨b, off + j, none⟩ = some (.int .u32 y)) (first | exact ⟨hx, hy⟩ | go_keep) (first | (go_at_call 197; refine (less_any _ _ _).mono ?_; rintro e w' ⟨rfl, rfl⟩))
  by_cases hxy : y < x
  · go_wp2
    go_ret2
    refine ⟨j, i, s + 1, rfl, .inr ⟨rfl, rfl⟩, Nat.le_refl _, ?_, ?_, ?_⟩
    · exact World.cell?_setCell_same _ _ _ hc
    · simp [World.frozen?_setCell, hf]
    · exact (Kept.setCell (P := fun k _ => k = sp) w sp 0 _ rfl).trans (Kept.drew _ _) (fun _ _ _ h => h)
  · go_wp2
    go_ret2
    exact ⟨i, j, s, rfl, .inl ⟨rfl, rfl⟩, by omega, hc, by simpa using hf, Kept.drew _ _⟩

def Med (sp s lo hi : Nat) (w : World) (e : Ending) (w' : World) : Prop := ∃ m s' : Nat, e = .returned (.int .i64 m) ∧ lo ≤ m ∧ m < hi ∧ s' ≤ s + 3 ∧ CT sp s' w w'

set_option maxRecDepth 100000 in
set_option maxHeartbeats 1000000 in
theorem median_any (Q : Int → Prop) (b off n c sp s i j k lo hi : Nat) (w : World) (h : UR Q w b off n) (hi0 : lo ≤ i ∧ i < hi) (hj0 : lo ≤ j ∧ j < hi) (hk0 : lo ≤ k ∧ k < hi) (hh : hi ≤ n) (hc : w.cell? ⟨sp, 0, none⟩ = some (.int .i64 s)) (hf : w.frozen? ⟨sp, 0, none⟩ = false) (hs : s < 900000) (hb : b ≠ sp) :
    Calls Tryz.prog 211 #[.slice (some ⟨b, off, none⟩) n c, .int .i64 i, .int .i64 j, .int .i64 k, .pointer (some ⟨sp, 0, none⟩)] w (Med sp s lo hi w) := by
  have H := Lib.hid h
  have HC := Lib.hid hc
  have HF := Lib.hid hf
  clear h hc hf
  go_enter Tryz.func211, Tryz.ntmps211
  go_wp2_with fail
  refine (order2_any Q b off n c sp s i j w H.out (by omega) (by omega) HC.out HF.out (by omega)).mono ?_
  rintro e w1 ⟨i1, j1, s1, rfl, h1, hs1, t1⟩
  have T1 := Lib.hid t1
  have HU1 := Lib.hid (H.out.kept t1.k hb)
  have b1 : lo ≤ i1 ∧ i1 < hi ∧ lo ≤ j1 ∧ j1 < hi := by omega
  clear t1 h1
  go_wp2_with fail
  refine (order2_any Q b off n c sp s1 j1 k w1 HU1.out (by omega) (by omega) T1.out.c T1.out.f (by omega)).mono ?_
  rintro e w2 ⟨j2, k2, s2, rfl, h2, hs2, t2⟩
  have T2 := Lib.hid (T1.out.trans t2)
  have HU2 := Lib.hid (HU1.out.kept t2.k hb)
  have b2 : lo ≤ j2 ∧ j2 < hi ∧ lo ≤ k2 ∧ k2 < hi := by omega
  clear t2 h2
  go_wp2_with fail
  refine (order2_any Q b off n c sp s2 i1 j2 w2 HU2.out (by omega) (by omega) T2.out.c T2.out.f (by omega)).mono ?_
  rintro e w3 ⟨i3, j3, s3, rfl, h3, hs3, t3⟩
  have T3 := Lib.hid (T2.out.trans t3)
  have b3 : lo ≤ j3 ∧ j3 < hi := by omega
  clear t3 h3
  go_wp2
  go_ret
  exact ⟨j3, s3, rfl, b3.1, b3.2, by omega, T3.out⟩

set_option maxRecDepth 100000 in
set_option maxHeartbeats 1000000 in
theorem medianAdj_any (Q : Int → Prop) (b off n c sp s i lo hi : Nat) (w : World) (h : UR Q w b off n) (hi0 : lo < i ∧ i + 1 < hi) (hh : hi ≤ n) (hn : n < 1000000000) (hc : w.cell? ⟨sp, 0, none⟩ = some (.int .i64 s)) (hf : w.frozen? ⟨sp, 0, none⟩ = false) (hs : s < 900000) (hb : b ≠ sp) :
    Calls Tryz.prog 210 #[.slice (some ⟨b, off, none⟩) n c, .int .i64 i, .pointer (some ⟨sp, 0, none⟩)] w (Med sp s lo hi w) := by
  have H := Lib.hid h
  have HC := Lib.hid hc
  have HF := Lib.hid hf
  clear h hc hf
  obtain ⟨q, rfl⟩ : ∃ q, i = q + 1 := ⟨i - 1, by omega⟩
  have M := Lib.hid (median_any Q b off n c sp s q (q + 1) (q + 2) lo hi w H.out (by omega) (by omega) (by omega) hh HC.out HF.out hs hb)
  go_enter Tryz.func210, Tryz.ntmps210
  go_wp2_with fail
  refine Calls.mono (by simpa [Int.add_assoc] using M.out) ?_
  rintro e w1 ⟨m, s1, rfl, h1, h2, h3, t1⟩
  have T1 := Lib.hid t1
  clear t1
  go_wp2
  go_ret
  exact ⟨m, s1, rfl, h1, h2, h3, T1.out⟩

def Piv (lo hi : Nat) (w : World) (e : Ending) (w' : World) : Prop := ∃ m : Nat, ∃ t : Int, e = .returned (.tuple #[.int .i64 m, .int .i64 t]) ∧ lo ≤ m ∧ m < hi ∧ 0 ≤ t ∧ t ≤ 2 ∧ Kept (fun _ _ => False) w w'

set_option maxRecDepth 100000 in
set_option maxHeartbeats 2000000 in
theorem choosePivot_any (Q : Int → Prop) (b off n c lo l : Nat) (w : World) (h : UR Q w b off n) (hl : 13 ≤ l) (hh : lo + l ≤ n) (hn : n < 1000000000) (hb : b < w.heap.size) :
    Calls Tryz.prog 194 #[.slice (some ⟨b, off, none⟩) n c, .int .i64 lo, .int .i64 ((lo + l : Nat) : Int)] w (Piv lo (lo + l) w) := by
  have H := Lib.hid h
  clear h
  obtain ⟨q, hq⟩ : ∃ q, q = l / 4 := ⟨_, rfl⟩
  have zl : (lo : Int) + l - lo = l := by omega
  have z : (l : Int) / 4 = q := by omega
  have hq3 : 3 ≤ q ∧ 4 * q ≤ l := by omega
  have e8 : (8 : Int) ≤ l := by omega
  have h50 : 50 ≤ l → 12 ≤ q := by omega
  clear hq
  obtain ⟨sp, hsp⟩ : ∃ sp, sp = w.heap.size := ⟨_, rfl⟩
  obtain ⟨w1, hw1⟩ : ∃ w1, w1 = w.alloc (.cells #[.int .i64 0] 3) := ⟨_, rfl⟩
  have c1 : w1.cell? ⟨sp, 0, none⟩ = some (.int .i64 ((0 : Nat) : Int)) := by rw [hw1, hsp, World.cell?_alloc_new]; rfl
  have f1 : w1.frozen? ⟨sp, 0, none⟩ = false := by rw [hw1, hsp]; simp
  have k1 : Kept (fun _ _ => False) w w1 := by rw [hw1]; exact Kept.alloc _ _ _
  have T1 := Lib.hid (CT.mk c1 f1 (Kept.refl (fun k _ => k = sp) w1))
  have U1 := Lib.hid (UR.kept (P := fun _ => False) H.out k1 id)
  have hbs : b ≠ sp := by omega
  have HW := Lib.hid hw1
  have HS := Lib.hid hsp
  have K1 := Lib.hid k1
  clear c1 f1 k1 hw1 hsp
  go_enter Tryz.func194, Tryz.ntmps194
  by_cases hbig : 50 ≤ l
  · have e50 : (50 : Int) ≤ l := by omega
    have M := Lib.hid (medianAdj_any Q b off n c sp 0 (lo + q) lo (lo + l) w1 U1.out (by omega) hh hn T1.out.c T1.out.f (by omega) hbs)
    go_wp2_with fail
    rw [← HW.out, ← HS.out]
    refine Calls.mono (by simpa using M.out) ?_
    rintro e w2 ⟨m1, s1, rfl, a1, b1, c1, t1⟩
    have T2 := Lib.hid (T1.out.trans t1)
    have U2 := Lib.hid (U1.out.kept t1.k hbs)
    clear t1 M
    have M := Lib.hid (medianAdj_any Q b off n c sp s1 (lo + q * 2) lo (lo + l) w2 U2.out (by omega) hh hn T2.out.c T2.out.f (by omega) hbs)
    go_wp2_with fail
    refine Calls.mono (by simpa using M.out) ?_
    rintro e w3 ⟨m2, s2, rfl, a2, b2, c2, t2⟩
    have T3 := Lib.hid (T2.out.trans t2)
    have U3 := Lib.hid (U2.out.kept t2.k hbs)
    clear t2 M
    have M := Lib.hid (medianAdj_any Q b off n c sp s2 (lo + q * 3) lo (lo + l) w3 U3.out (by omega) hh hn T3.out.c T3.out.f (by omega) hbs)
    go_wp2_with fail
    refine Calls.mono (by simpa using M.out) ?_
    rintro e w4 ⟨m3, s3, rfl, a3, b3, c3, t3⟩
    have T4 := Lib.hid (T3.out.trans t3)
    have U4 := Lib.hid (U3.out.kept t3.k hbs)
    clear t3 M
    go_wp2_with fail
    refine (median_any Q b off n c sp s3 m1 m2 m3 lo (lo + l) w4 U4.out ⟨a1, b1⟩ ⟨a2, b2⟩ ⟨a3, b3⟩ hh T4.out.c T4.out.f (by omega) hbs).mono ?_
    rintro e w5 ⟨m4, s4, rfl, a4, b4, c4, t4⟩
    have T5 := Lib.hid (T4.out.trans t4)
    have cc := T5.out.c
    have KF : Hid (Kept (fun _ _ => False) w w5) := Lib.hid (K1.out.trans T5.out.k (fun i o hi (e : i = sp) => by have := HS.out; omega))
    clear t4
    go_wp2
    all_goals
      go_ret2
      exact ⟨m4, _, rfl, a4, b4, by decide, by decide, KF.out⟩
  · have e50 : ¬ (50 : Int) ≤ l := by omega
    have M := Lib.hid (median_any Q b off n c sp 0 (lo + q) (lo + q * 2) (lo + q * 3) lo (lo + l) w1 U1.out (by omega) (by omega) (by omega) hh T1.out.c T1.out.f (by omega) hbs)
    go_wp2_with fail
    rw [← HW.out, ← HS.out]
    refine Calls.mono (by simpa using M.out) ?_
    rintro e w5 ⟨m4, s4, rfl, a4, b4, c4, t4⟩
    have T5 := Lib.hid (T1.out.trans t4)
    have cc := T5.out.c
    have KF : Hid (Kept (fun _ _ => False) w w5) := Lib.hid (K1.out.trans T5.out.k (fun i o hi (e : i = sp) => by have := HS.out; omega))
    clear t4
    go_wp2
    all_goals
      go_ret2
      exact ⟨m4, _, rfl, a4, b4, by decide, by decide, KF.out⟩

end Go.Proofs.YtfipfoplmopkaaaGreatDoor

namespace Go.Proofs.YtfipfoplmopkaaaGreatDoor
open Go.RowKit

set_option maxRecDepth 100000 in
set_option maxHeartbeats 2000000 in
theorem siftDown_any (Q : Int → Prop) (b off n c lo hi f : Nat) (w : World) (h : UR Q w b off n) (hh : f + hi ≤ n) (hlo : lo < 1000000000) (hn : n < 1000000000) :
    Calls Tryz.prog 209 #[.slice (some ⟨b, off, none⟩) n c, .int .i64 lo, .int .i64 hi, .int .i64 f] w fun e w' => e = .returned (.tuple #[]) ∧ US Q b off n w w' := by
  have H := Lib.hid h
  clear h
  go_enter Tryz.func209, Tryz.ntmps209
  go_wp2_with fail
  go_loopw [8] (fun x wr => ∃ r : Nat, r < 1000000000 ∧ x = .int .i64 r ∧ Hid (US Q b off n w wr)) (fun x _ => 1000000000 - (intOf x).toNat)
  case atStart => exact ⟨lo, hlo, rfl, Lib.hid (US.refl H.out)⟩
  case round =>
    obtain ⟨r, hr, rfl, HR⟩ := hrel
    obtain ⟨d, hd⟩ : ∃ d, d = 2 * r + 1 := ⟨_, rfl⟩
    have ZD := Lib.hid (show 2 * (r : Int) + 1 = d by omega)
    have hrd : r < d := by omega
    have HDD := Lib.hid hd
    clear hd
    by_cases hlt : d < hi
    · have e1 : ¬ (hi : Int) ≤ 2 * (r : Int) + 1 := by have := HDD.out; omega
      obtain ⟨⟨y, hy, qy⟩, fy⟩ := HR.out.1 (f + d) (by omega)
      have a1 : (f : Int) + d < n := by omega
      have a2 : ((f : Int) + d).toNat = f + d := by omega
      have a3 : (0 : Int) ≤ (f : Int) + d := by omega
      have z1 : IntKind.i64.wrap ((f : Int) + d) = (f : Int) + d := IntWalk.i64_in _ (by omega)
      have z0 : IntKind.i64.wrap ((d : Int) + 1) = (d : Int) + 1 := IntWalk.i64_in _ (by omega)
      have hsplit : ¬ d + 1 < hi ∨ (d + 1 < hi) := by omega
      rcases hsplit with hg | hg
      case' inl =>
        have g1 : decide ((d : Int) + 1 < hi) = false := by simp; omega
        have g2 : ¬ (d : Int) + 1 < hi := by omega
        go_wp2_with fail
        rw [ZD.out]
        go_region
        go_wp2_with fail
        obtain ⟨e, he⟩ : ∃ e, e = d := ⟨_, rfl⟩
        rw [← he]
        have HE : Hid (r < e ∧ e < hi) := Lib.hid (by omega)
        clear he g1 g2
      case' inr =>
        have g1 : (d : Int) + 1 < hi := by omega
        obtain ⟨⟨z, hz, qz⟩, fz⟩ := HR.out.1 (f + d + 1) (by omega)
        have a4 : (f : Int) + d + 1 < n := by omega
        have a5 : ((f : Int) + d + 1).toNat = f + d + 1 := by omega
        have a6 : (0 : Int) ≤ (f : Int) + d + 1 := by omega
        have z2 : IntKind.i64.wrap ((f : Int) + d + 1) = (f : Int) + d + 1 := IntWalk.i64_in _ (by omega)
        go_wp2_with fail
        rw [ZD.out]
        go_region_held3 (fun w' => w'.cell? ⟨b, off + (f + d), none⟩ = some (.int .u32 y) ∧ w'.cell? ⟨b, off + (f + d + 1), none⟩ = some (.int .u32 z)) (first | exact ⟨hy, hz⟩ | go_keep) (first | (go_at_call 197; refine (less_any _ _ _).mono ?_; rintro e w' ⟨rfl, rfl⟩))
        by_cases hyz : y < z
      case' pos =>
        go_wp2_with fail
        obtain ⟨e, he⟩ : ∃ e, e = d + 1 := ⟨_, rfl⟩
        rw [show (d : Int) + 1 = (e : Int) by omega]
        have HE : Hid (r < e ∧ e < hi) := Lib.hid (by omega)
        clear he
      case' neg =>
        go_wp2_with fail
        obtain ⟨e, he⟩ : ∃ e, e = d := ⟨_, rfl⟩
        rw [← he]
        have HE : Hid (r < e ∧ e < hi) := Lib.hid (by omega)
        clear he
      all_goals
        have HRD : Hid (US Q b off n w wr.drew) := Lib.hid HR.out.drew
        generalize wr.drew = ws at HRD ⊢
        clear z0 z1 a1 a2 a3 hy qy fy
        obtain ⟨⟨u, hu, qu⟩, fu⟩ := HRD.out.1 (f + r) (by have := HE.out; omega)
        obtain ⟨⟨v, hv, qv⟩, fv⟩ := HRD.out.1 (f + e) (by have := HE.out; omega)
        have b1 : (f : Int) + e < n := by have := HE.out; omega
        have b2 : ((f : Int) + e).toNat = f + e := by omega
        have b3 : (0 : Int) ≤ (f : Int) + e := by omega
        have b4 : (f : Int) + r < n := by have := HE.out; omega
        have b5 : ((f : Int) + r).toNat = f + r := by omega
        have b6 : (0 : Int) ≤ (f : Int) + r := by omega
        have z1 : IntKind.i64.wrap ((f : Int) + e) = (f : Int) + e := IntWalk.i64_in _ (by omega)
        have z2 : IntKind.i64.wrap ((f : Int) + r) = (f : Int) + r := IntWalk.i64_in _ (by omega)
        by_cases huv : u < v
        · have hef : r < e ∧ e < hi := HE.out
          go_region_held3 (fun w' => w'.cell? ⟨b, off + (f + r), none⟩ = some (.int .u32 u) ∧ w'.cell? ⟨b, off + (f + e), none⟩ = some (.int .u32 v)) (first | exact ⟨hu, hv⟩ | go_keep) (first | (go_at_call 197; refine (less_t huv _).mono ?_; rintro e w' ⟨rfl, rfl⟩))
          go_wp2_with fail
          obtain ⟨v1, hv1⟩ := cell_setCell_some (w := ws.drew) (p := ⟨b, off + (f + r), none⟩) (x := .int .u32 v) hv
          obtain ⟨v2, hv2⟩ := cell_setCell_some (w := ws.drew) (p := ⟨b, off + (f + e), none⟩) (x := .int .u32 u) hu
          go_region
          all_goals
            go_wp2_with fail
            go_roundw
            case rel => exact ⟨e, by omega, rfl, Lib.hid (by first | (with_reducible exact (HRD.out.swap (f + r) (f + e) (by omega) (by omega) qv qu).drew.drew) | (with_reducible exact (HRD.out.swap (f + e) (f + r) (by omega) (by omega) qu qv).drew.drew))⟩
            case measure => simp [intOf]; omega
        · go_region_held3 (fun w' => w'.cell? ⟨b, off + (f + r), none⟩ = some (.int .u32 u) ∧ w'.cell? ⟨b, off + (f + e), none⟩ = some (.int .u32 v)) (first | exact ⟨hu, hv⟩ | go_keep) (first | (go_at_call 197; refine (less_f huv _).mono ?_; rintro e w' ⟨rfl, rfl⟩))
          go_wp2
          refine bodyPost_ret (results_none rfl _ _ _) rfl ?_
          exact ⟨rfl, HRD.out.drew⟩
    · have e1 : (hi : Int) ≤ 2 * (r : Int) + 1 := by have := HDD.out; omega
      go_wp2
      go_end0
      exact ⟨rfl, HR.out⟩

end Go.Proofs.YtfipfoplmopkaaaGreatDoor

namespace Go.Proofs.YtfipfoplmopkaaaGreatDoor
open Go.RowKit

set_option maxRecDepth 100000 in
set_option maxHeartbeats 2000000 in
theorem heapSort_any (Q : Int → Prop) (b off n c f l : Nat) (w : World) (h : UR Q w b off n) (hl : 1 ≤ l) (hh : f + l ≤ n) (hn : n < 1000000000) :
    Calls Tryz.prog 192 #[.slice (some ⟨b, off, none⟩) n c, .int .i64 f, .int .i64 ((f + l : Nat) : Int)] w fun e w' => e = .returned (.tuple #[]) ∧ US Q b off n w w' := by
  have H := Lib.hid h
  clear h
  have ZL := Lib.hid (show (f : Int) + l - f = l by omega)
  obtain ⟨q0, hq0⟩ : ∃ q0, q0 = (l - 1) / 2 := ⟨_, rfl⟩
  have Z0 := Lib.hid (show ((l : Int) - 1) / 2 = q0 by omega)
  have hq1 : q0 < l := by omega
  have hl1 : (1 : Int) ≤ l := by omega
  clear hq0
  go_enter Tryz.func192, Tryz.ntmps192
  go_wp2_with fail
  simp only [ZL.out, Z0.out, Int.natCast_add]
  go_loopw [9] (fun x wr => ∃ z : Int, -1 ≤ z ∧ z < l ∧ x = .int .i64 z ∧ Hid (US Q b off n w wr)) (fun x _ => (intOf x + 1).toNat)
  case atStart => exact ⟨q0, by omega, by omega, rfl, Lib.hid (US.refl H.out)⟩
  case round =>
    obtain ⟨z, hz0, hz1, rfl, HR⟩ := hrel
    by_cases hz : 0 ≤ z
    · obtain ⟨q, rfl⟩ : ∃ q : Nat, z = q := ⟨z.toNat, by omega⟩
      go_wp2_with fail
      refine (siftDown_any Q b off n c q l f wr HR.out.1 hh (by omega) hn).mono ?_
      rintro e w1 ⟨rfl, u1⟩
      have U1 := Lib.hid (HR.out.trans u1)
      clear u1
      go_wp2_with fail
      go_roundw
      case rel => exact ⟨(q : Int) - 1, by omega, by omega, rfl, U1⟩
      case measure => simp [intOf]
    · obtain rfl : z = -1 := by omega
      go_wp2_with fail
      go_loopw [10] (fun x wr2 => ∃ z : Int, -1 ≤ z ∧ z < l ∧ x = .int .i64 z ∧ Hid (US Q b off n w wr2)) (fun x _ => (intOf x + 1).toNat)
      case atStart => exact ⟨(l : Int) - 1, by omega, by omega, congrArg (Value.int .i64) (by omega), HR⟩
      case round =>
        obtain ⟨z, hz0, hz1, rfl, HR⟩ := hrel
        by_cases hz : 0 ≤ z
        · obtain ⟨q, rfl⟩ : ∃ q : Nat, z = q := ⟨z.toNat, by omega⟩
          obtain ⟨⟨u, hu, qu⟩, fu⟩ := HR.out.1 f (by omega)
          obtain ⟨⟨v, hv, qv⟩, fv⟩ := HR.out.1 (f + q) (by omega)
          have b1 : (f : Int) + q < n := by omega
          have b2 : ((f : Int) + q).toNat = f + q := by omega
          have b3 : (0 : Int) ≤ (f : Int) + q := by omega
          have b4 : (f : Int) < n := by omega
          have z1 : IntKind.i64.wrap ((f : Int) + q) = (f : Int) + q := IntWalk.i64_in _ (by omega)
          go_wp2_with fail
          obtain ⟨v1, hv1⟩ := cell_setCell_some (w := wr) (p := ⟨b, off + f, none⟩) (x := .int .u32 v) hv
          obtain ⟨v2, hv2⟩ := cell_setCell_some (w := wr) (p := ⟨b, off + (f + q), none⟩) (x := .int .u32 u) hu
          go_region
          all_goals
            go_wp2_with fail
            have UU : ∀ ws, Hid (US Q b off n w ws) → Hid (Calls Tryz.prog 209 #[.slice (some ⟨b, off, none⟩) n c, .int .i64 0, .int .i64 q, .int .i64 f] ws fun e w' => e = .returned (.tuple #[]) ∧ Hid (US Q b off n w w')) := fun ws hs => by
              have e0 : ((0 : Nat) : Int) = 0 := rfl
              have t := siftDown_any Q b off n c 0 q f ws hs.out.1 (by omega) (by decide) hn
              rw [e0] at t
              exact Lib.hid (t.mono fun _ _ ⟨x, y⟩ => ⟨x, Lib.hid (hs.out.trans y)⟩)
            first
              | ((with_reducible refine (UU _ (Lib.hid (HR.out.swap f (f + q) (by omega) (by omega) qv qu).drew)).out.mono ?_); rintro e w1 ⟨rfl, U1⟩)
              | ((with_reducible refine (UU _ (Lib.hid (HR.out.swap (f + q) f (by omega) (by omega) qu qv).drew)).out.mono ?_); rintro e w1 ⟨rfl, U1⟩)
            clear UU
            go_wp2_with fail
            go_roundw
            case rel => exact ⟨(q : Int) - 1, by omega, by omega, rfl, U1⟩
            case measure => simp [intOf]
        · obtain rfl : z = -1 := by omega
          go_wp2
          go_end0
          exact ⟨rfl, HR.out⟩

set_option maxRecDepth 100000 in
set_option maxHeartbeats 2000000 in
theorem reverse_any (Q : Int → Prop) (b off n c lo hi : Nat) (w : World) (h : UR Q w b off n) (h1 : 1 ≤ hi) (hh : hi ≤ n) (hlo : lo ≤ n) (hn : n < 1000000000) :
    Calls Tryz.prog 195 #[.slice (some ⟨b, off, none⟩) n c, .int .i64 lo, .int .i64 hi] w fun e w' => e = .returned (.tuple #[]) ∧ US Q b off n w w' := by
  have H := Lib.hid h
  clear h
  obtain ⟨q, rfl⟩ : ∃ q, hi = q + 1 := ⟨hi - 1, by omega⟩
  go_enter Tryz.func195, Tryz.ntmps195
  go_wp2_with fail
  go_loopw [6, 7] (fun x y wr => ∃ i : Nat, ∃ j : Int, x = .int .i64 i ∧ y = .int .i64 j ∧ j < n ∧ -1 ≤ j ∧ i ≤ n ∧ Hid (US Q b off n w wr)) (fun _ y _ => (intOf y + 1).toNat)
  case atStart => exact ⟨lo, q, rfl, by go_num, by omega, by omega, hlo, Lib.hid (US.refl H.out)⟩
  case round =>
    obtain ⟨i, j, rfl, rfl, hj1, hj2, hi1, HR⟩ := hrel
    by_cases hlt : (i : Int) < j
    · obtain ⟨p, rfl⟩ : ∃ p : Nat, j = p := ⟨j.toNat, by omega⟩
      obtain ⟨⟨u, hu, qu⟩, fu⟩ := HR.out.1 i (by omega)
      obtain ⟨⟨v, hv, qv⟩, fv⟩ := HR.out.1 p (by omega)
      have b1 : (i : Int) < n := by omega
      go_wp2_with fail
      obtain ⟨v1, hv1⟩ := cell_setCell_some (w := wr) (p := ⟨b, off + i, none⟩) (x := .int .u32 v) hv
      obtain ⟨v2, hv2⟩ := cell_setCell_some (w := wr) (p := ⟨b, off + p, none⟩) (x := .int .u32 u) hu
      go_region
      all_goals
        go_wp2_with fail
        go_roundw
        case rel => exact ⟨i + 1, (p : Int) - 1, by go_num, rfl, by omega, by omega, by omega, Lib.hid (by first | (with_reducible exact (HR.out.swap i p (by omega) (by omega) qv qu).drew) | (with_reducible exact (HR.out.swap p i (by omega) (by omega) qu qv).drew))⟩
        case measure => simp [intOf]
    · have e1 : ¬ (i : Int) < j := hlt
      go_wp2
      go_end0
      exact ⟨rfl, HR.out⟩

end Go.Proofs.YtfipfoplmopkaaaGreatDoor

namespace Go.Proofs.YtfipfoplmopkaaaGreatDoor
open Go.RowKit

set_option maxRecDepth 100000 in
set_option maxHeartbeats 2000000 in
theorem partEq_any (Q : Int → Prop) (b off n c f l p : Nat) (w : World) (h : UR Q w b off n) (hl : f < l) (hh : l ≤ n) (hp : p < n) (hn : n < 1000000000) :
    Calls Tryz.prog 198 #[.slice (some ⟨b, off, none⟩) n c, .int .i64 f, .int .i64 l, .int .i64 p] w fun e w' => ∃ m : Nat, f < m ∧ m ≤ l ∧ e = .returned (.int .i64 m) ∧ US Q b off n w w' := by
  have H := Lib.hid h
  clear h
  go_enter Tryz.func198, Tryz.ntmps198
  obtain ⟨⟨u, hu, qu⟩, fu⟩ := H.out f (by omega)
  obtain ⟨⟨v, hv, qv⟩, fv⟩ := H.out p (by omega)
  have b0 : (f : Int) < n := by omega
  have b1 : (p : Int) < n := by omega
  go_wp2_with fail
  obtain ⟨v1, hv1⟩ := cell_setCell_some (w := w) (p := ⟨b, off + f, none⟩) (x := .int .u32 v) hv
  obtain ⟨v2, hv2⟩ := cell_setCell_some (w := w) (p := ⟨b, off + p, none⟩) (x := .int .u32 u) hu
  go_region
  all_goals
    go_wp2_with fail
    go_loopw [9, 10] (fun x y wr => ∃ i j : Nat, f < i ∧ i ≤ l ∧ f ≤ j ∧ j < l ∧ x = .int .i64 i ∧ y = .int .i64 j ∧ Hid (US Q b off n w wr)) (fun _ y _ => (intOf y).toNat)
    case atStart =>
      refine ⟨f + 1, l - 1, by omega, by omega, by omega, by omega, by go_num, congrArg (Value.int .i64) (by omega), ?_⟩
      first
        | (with_reducible exact Lib.hid ((US.refl H.out).swap f p (by omega) hp qv qu).drew)
        | (with_reducible exact Lib.hid ((US.refl H.out).swap p f hp (by omega) qu qv).drew)
    case round =>
      obtain ⟨i, j, hi0, hi1, hj0, hj1, rfl, rfl, HR⟩ := hrel
      clear hv1 hv2 hu hv qu qv
      go_wp2_with fail
      go_loopw [9] (fun x ws => ∃ i : Nat, f < i ∧ i ≤ l ∧ x = .int .i64 i ∧ Hid (US Q b off n w ws)) (fun x _ => l - (intOf x).toNat)
      case atStart => exact ⟨i, hi0, hi1, rfl, HR⟩
      case round =>
        clear HR hi0 hi1
        obtain ⟨i, hi0, hi1, rfl, HR⟩ := hrel
        by_cases hij : i ≤ j
        case' pos =>
          obtain ⟨⟨x, hx, qx⟩, fx⟩ := HR.out.1 f (by omega)
          obtain ⟨⟨y, hy, qy⟩, fy⟩ := HR.out.1 i (by omega)
          have e2 : (i : Int) < n := by omega
          have hij' : (i : Int) ≤ j := by omega
          by_cases hxy : x < y
          case' neg =>
            go_wp2_with fail
            go_region_held3 (fun w' => w'.cell? ⟨b, off + f, none⟩ = some (.int .u32 x) ∧ w'.cell? ⟨b, off + i, none⟩ = some (.int .u32 y)) (first | exact ⟨hx, hy⟩ | go_keep) (first | (go_at_call 197; refine (less_f (Int.not_lt.2 hxy) _).mono ?_; rintro e w' ⟨rfl, rfl⟩))
            go_wp2_with fail
            go_roundw
            case rel => exact ⟨i + 1, by omega, by omega, by go_num, Lib.hid HR.out.drew⟩
            case measure => simp [intOf]; omega
          case' pos =>
            go_wp2_with fail
            go_region_held3 (fun w' => w'.cell? ⟨b, off + f, none⟩ = some (.int .u32 x) ∧ w'.cell? ⟨b, off + i, none⟩ = some (.int .u32 y)) (first | exact ⟨hx, hy⟩ | go_keep) (first | (go_at_call 197; refine (less_t hxy _).mono ?_; rintro e w' ⟨rfl, rfl⟩))
            clear hij'
        case' neg =>
          have e1 : decide ((i : Int) ≤ j) = false := by simp; omega
          go_wp2_with fail
          go_region
        all_goals
          clear hij
          go_wp2_with fail
          go_loopw [10] (fun x ws => ∃ k : Nat, f ≤ k ∧ k ≤ j ∧ x = .int .i64 k ∧ Hid (US Q b off n w ws)) (fun x _ => (intOf x).toNat)
          case atStart => exact ⟨j, hj0, Nat.le_refl _, rfl, Lib.hid HR.out.drew⟩
          case round =>
            clear HR
            obtain ⟨k, hk0, hk1, rfl, HR⟩ := hrel
            by_cases hik : i ≤ k
            · obtain ⟨⟨x, hx, qx⟩, fx⟩ := HR.out.1 f (by omega)
              obtain ⟨⟨y, hy, qy⟩, fy⟩ := HR.out.1 k (by omega)
              have e2 : (k : Int) < n := by omega
              have hik' : (i : Int) ≤ k := by omega
              by_cases hxy : x < y
              · go_wp2_with fail
                go_region_held3 (fun w' => w'.cell? ⟨b, off + f, none⟩ = some (.int .u32 x) ∧ w'.cell? ⟨b, off + k, none⟩ = some (.int .u32 y)) (first | exact ⟨hx, hy⟩ | go_keep) (first | (go_at_call 197; refine (less_t hxy _).mono ?_; rintro e w' ⟨rfl, rfl⟩))
                go_wp2_with fail
                go_roundw
                case rel => exact ⟨k - 1, by omega, by omega, congrArg (Value.int .i64) (by omega), Lib.hid HR.out.drew⟩
                case measure => simp [intOf]; omega
              · go_wp2_with fail
                go_region_held3 (fun w' => w'.cell? ⟨b, off + f, none⟩ = some (.int .u32 x) ∧ w'.cell? ⟨b, off + k, none⟩ = some (.int .u32 y)) (first | exact ⟨hx, hy⟩ | go_keep) (first | (go_at_call 197; refine (less_f (by omega) _).mono ?_; rintro e w' ⟨rfl, rfl⟩))
                have g3 : ¬ (k : Int) < i := by omega
                obtain ⟨⟨z, hz, qz⟩, fz⟩ := HR.out.1 i (by omega)
                have e3 : (i : Int) < n := by omega
                go_wp2_with fail
                obtain ⟨v1, hv1⟩ := cell_setCell_some (w := wr) (p := ⟨b, off + i, none⟩) (x := .int .u32 y) hy
                obtain ⟨v2, hv2⟩ := cell_setCell_some (w := wr) (p := ⟨b, off + k, none⟩) (x := .int .u32 z) hz
                go_region
                all_goals
                  go_wp2_with fail
                  go_roundw
                  case rel =>
                    refine ⟨i + 1, k - 1, by omega, by omega, by omega, by omega, by go_num, congrArg (Value.int .i64) (by omega), ?_⟩
                    first
                      | (with_reducible exact Lib.hid (HR.out.swap i k (by omega) (by omega) qy qz).drew.drew)
                      | (with_reducible exact Lib.hid (HR.out.swap k i (by omega) (by omega) qz qy).drew.drew)
                  case measure => simp [intOf]; omega
            · have e1 : decide ((i : Int) ≤ k) = false := by simp; omega
              have g3 : (k : Int) < i := by omega
              go_wp2_with fail
              go_region
              go_wp2_with fail
              go_ret
              exact ⟨i, hi0, hi1, rfl, HR.out.drew⟩

end Go.Proofs.YtfipfoplmopkaaaGreatDoor
