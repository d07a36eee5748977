/- impl.Expand(16) at the set 1, 2 without 2. Condition: the rows in memory. Intervals: the two closures of Add (83, 84), sort.Search(82) at one place. Condition: the cells. Intervals: Add(33) of 1, 2 to none, and of 3, 4 to that. Condition: the cells. Intervals: unintervals(34) of one, AddIntervals' closure (32). Condition: the cells. The methods of Encbuf, further: strings, numbers, what they call on. No condition but bounds on lengths. -/
import Derived.Test.YtfipfoplmopkaaaGreatDoorZ11
import Derived.Test.YtfipfoplmopkaaaGreatDoorZ01
import Derived.StillTailTactics
import Derived.Lib.AppendStr

namespace Go.Proofs.YtfipfoplmopkaaaGreatDoor
open Go.RowKit

theorem cellOf {w : World} {b : Nat} {cs : Array Value} {t : TypeId} {fr : Nat × Nat} (h : w.heap[b]? = some (.cells cs t fr)) (i : Nat) : w.cell? ⟨b, i, none⟩ = cs[i]? := by simp [World.cell?, h]
theorem frzOf {w : World} {b : Nat} {cs : Array Value} {t : TypeId} (h : w.heap[b]? = some (.cells cs t)) (i : Nat) : w.frozen? ⟨b, i, none⟩ = false := by simp [World.frozen?, h]
theorem new3 (w : World) (o1 o2 o3 : Obj) :
    let w3 := ((w.alloc o1).alloc o2).alloc o3
    w3.heap[w.heap.size]? = some o1 ∧ w3.heap[w.heap.size + 1]? = some o2 ∧ w3.heap[w.heap.size + 1 + 1]? = some o3 := by
  refine ⟨?_, ?_, ?_⟩
  all_goals
    show (((w.heap.push o1).push o2).push o3)[_]? = _
    simp only [Array.getElem?_push, Array.size_push]
  · rw [if_neg (by omega), if_neg (by omega), if_pos trivial]
  · rw [if_neg (by omega), if_pos trivial]
  · rw [if_pos trivial]

set_option maxRecDepth 100000 in
set_option maxHeartbeats 2000000 in
theorem expandAwake_any (w : World) (sb l1 l2 k1 k2 : Nat)
    (h0 : w.cell? ⟨sb, 0, none⟩ = some (.int .i64 0)) (h1 : w.cell? ⟨sb, 1, none⟩ = some (.slice (some ⟨l1, 0, none⟩) 2 k1)) (h2 : w.cell? ⟨sb, 2, none⟩ = some (.slice none 0 0)) (h3 : w.cell? ⟨sb, 3, none⟩ = some (.int .i64 0)) (h4 : w.cell? ⟨sb, 4, none⟩ = some (.slice (some ⟨l2, 0, none⟩) 1 k2)) (h5 : w.cell? ⟨sb, 5, none⟩ = some (.slice none 0 0))
    (r1 : RowN w l1 0 [1, 2]) (r2 : RowN w l2 0 [2]) :
    Calls Tryz.prog 16 #[.agg #[.int .i64 4, .slice none 0 0, .slice (some ⟨sb, 0, none⟩) 2 2]] w fun e w' => ∃ g c, e = .returned (.tuple #[.slice (some ⟨g, 0, none⟩) 1 c, .bool true]) ∧ w'.cell? ⟨g, 0, none⟩ = some (.int .u64 1) ∧ Kept (fun _ _ => False) w w' := by
  have hmf : ∀ (fn : Fn) (first cap : Array Value) (w : World), (Instr.makeFunc fn first cap).run Tryz.prog w = .ok (.func fn first cap) w := fun _ _ _ _ => rfl
  obtain ⟨n, hn⟩ : ∃ n, n = w.heap.size := ⟨_, rfl⟩
  obtain ⟨w3, hw3⟩ : ∃ w3, w3 = ((w.alloc (.cells #[.int .i64 4, .slice none 0 0, .slice (some ⟨sb, 0, none⟩) 2 2] 48)).alloc (.cells #[.slice none 0 0] 43)).alloc (.cells #[.bool false] 4) := ⟨_, rfl⟩
  have z3 : w3.heap.size = n + 3 := by rw [hw3, hn]; simp only [World.size_alloc]
  obtain ⟨x1, x2, x3⟩ := new3 w (.cells #[.int .i64 4, .slice none 0 0, .slice (some ⟨sb, 0, none⟩) 2 2] 48) (.cells #[.slice none 0 0] 43) (.cells #[.bool false] 4)
  rw [← hw3, ← hn] at x1 x2 x3
  obtain ⟨w4, hw4⟩ : ∃ w4, w4 = w3.alloc (.cells #[.bool false] 4) := ⟨_, rfl⟩
  have z4 : w4.heap.size = n + 4 := by rw [hw4, World.size_alloc, z3]
  have o4 : ∀ k, k < n + 3 → w4.heap[k]? = w3.heap[k]? := fun k hk => by rw [hw4]; exact heap_alloc_old _ _ (by rw [z3]; exact hk)
  have y1 := (o4 n (by omega)).trans x1
  have y2 := (o4 (n + 1) (by omega)).trans x2
  have y3 := (o4 (n + 1 + 1) (by omega)).trans x3
  have k3 : Kept (fun _ _ => False) w w3 := by rw [hw3]; exact ((Kept.alloc _ _ _).trans (Kept.alloc _ _ _) (fun _ _ _ => id)).trans (Kept.alloc _ _ _) (fun _ _ _ => id)
  have k4 : Kept (fun _ _ => False) w w4 := by rw [hw4]; exact k3.trans (Kept.alloc _ _ _) (fun _ _ _ => id)
  have h4c : w4.cell? ⟨n + 3, 0, none⟩ = some (.bool false) := by rw [hw4, ← z3, World.cell?_alloc_new]; rfl
  have h4f : w4.frozen? ⟨n + 3, 0, none⟩ = false := by rw [hw4, ← z3]; simp
  have hsb := World.block_lt_of_cell? _ _ h0
  have c4 : ∀ j v, w.cell? ⟨sb, j, none⟩ = some v → w4.cell? ⟨sb, j, none⟩ = some v := fun j v h => (k4.cell sb j hsb id).trans h
  have key := cl29_any w4 n (n + 1) (n + 1 + 1) sb l1 l2 k1 k2 ((cellOf y1 0).trans rfl) ((cellOf y1 1).trans rfl) ((cellOf y1 2).trans rfl) ((cellOf y2 0).trans rfl) ((cellOf y3 0).trans rfl) (frzOf y2 0) (frzOf y3 0)
    (c4 0 _ h0) (c4 1 _ h1) (c4 2 _ h2) (c4 3 _ h3) (c4 4 _ h4) (c4 5 _ h5) (r1.kept k4 (fun _ => id) (World.block_lt_of_cell? _ _ (r1 0 (by decide)))) (r2.kept k4 (fun _ => id) (World.block_lt_of_cell? _ _ (r2 0 (by decide))))
  have KEY : Hid (Calls Tryz.prog 19 #[.func (.func 29) #[] #[.pointer (some ⟨n, 0, none⟩), .pointer (some ⟨n + 1, 0, none⟩), .pointer (some ⟨n + 1 + 1, 0, none⟩)]] w3 (fun e w' =>
      e = .returned (.bool true) ∧ ∃ g c, w'.cell? ⟨n + 1, 0, none⟩ = some (.slice (some ⟨g, 0, none⟩) 1 c) ∧ w'.cell? ⟨n + 1 + 1, 0, none⟩ = some (.bool true) ∧ w'.cell? ⟨g, 0, none⟩ = some (.int .u64 1) ∧ w'.frozen? ⟨n + 1, 0, none⟩ = false ∧ w'.frozen? ⟨n + 1 + 1, 0, none⟩ = false ∧ Kept (fun _ _ => False) w w')) := Lib.hid (by
    have hs := safe29 _ w3 (XP w4 (n + 1) (n + 1 + 1)) (by rw [← hw4]; exact key)
      (fun w' hq => by
        obtain ⟨g, c, q1, q2, q3, hk⟩ := hq
        rw [z3]
        exact ⟨⟨_, (hk.cell (n + 3) 0 (by omega) (fun e => by omega)).trans h4c⟩, (hk.fr (n + 3) 0 (by omega)).trans h4f⟩)
    refine hs.mono ?_
    rintro e w' ⟨he, w1, ⟨g, c, q1, q2, q3, hk⟩, rfl⟩
    rw [z3]
    have h33 := (hk.cell (n + 3) 0 (by omega) (fun e => by omega)).trans h4c
    have hg : g ≠ n + 3 := fun e => by rw [e, h33] at q3; cases q3
    have cc : ∀ k, k ≠ n + 3 → ((w1.setCell ⟨n + 3, 0, none⟩ (.bool true)).setCell ⟨n + 3, 0, none⟩ (.bool true)).cell? ⟨k, 0, none⟩ = w1.cell? ⟨k, 0, none⟩ := fun k hk => by
      rw [World.cell?_setCell_other _ _ _ _ (by first | (simp; done) | (simp; exact hk) | (simp; exact hk.symm)), World.cell?_setCell_other _ _ _ _ (by first | (simp; done) | (simp; exact hk) | (simp; exact hk.symm))]
    refine ⟨he, g, c, (cc _ (by omega)).trans q1, (cc _ (by omega)).trans q2, (cc _ hg).trans q3, ?_, ?_, ?_⟩
    · rw [World.frozen?_setCell, World.frozen?_setCell]; exact (hk.fr _ 0 (by omega)).trans (frzOf y2 0)
    · rw [World.frozen?_setCell, World.frozen?_setCell]; exact (hk.fr _ 0 (by omega)).trans (frzOf y3 0)
    · exact ((k4.trans hk (fun k _ hlt e => by omega)).trans (Kept.setCell (P := fun k _ => k = n + 3) w1 (n + 3) 0 (.bool true) rfl) (fun k _ hlt e => by omega)).trans (Kept.setCell (P := fun k _ => k = n + 3) _ (n + 3) 0 (.bool true) rfl) (fun k _ hlt e => by omega))
  have HW3 := Lib.hid hw3
  clear key k3 k4 o4 x1 x2 x3 y1 y2 y3 z4 h4c h4f hw4 z3 c4 hsb h0 h1 h2 h3 h4 h5 r1 r2 hw3
  subst hn
  have hres : Tryz.f16.results = #[.cell 2 43, .cell 3 4] := by kernel_rfl
  go_enter Tryz.func16, Tryz.ntmps16
  go_wp2_with fail
  rw [← HW3.out]
  (with_reducible refine KEY.out.mono ?_)
  rintro e w7 ⟨rfl, g, c, q1, q2, q3, f1, f2, hk⟩
  have hg1 : g ≠ w.heap.size + 1 := fun e => by rw [e, q1] at q3; cases q3
  have hg2 : g ≠ w.heap.size + 1 + 1 := fun e => by rw [e, q2] at q3; cases q3
  have FIN : Hid (w7.cell? ⟨g, 0, none⟩ = some (.int .u64 1) ∧ Kept (fun _ _ => False) w w7 ∧ g ≠ w.heap.size + 1 ∧ g ≠ w.heap.size + 1 + 1) := Lib.hid ⟨q3, hk, hg1, hg2⟩
  clear hk KEY HW3 q3 hg1 hg2
  go_wp2_with fail
  refine bodyPost_ret (v := .tuple #[.slice (some ⟨g, 0, none⟩) 1 c, .bool true]) ?_ rfl ⟨g, c, rfl, ?_, ?_⟩
  · simp only [results, hres]
    go_simp
  · rw [World.cell?_setCell_other _ _ _ _ (by first | (simp; done) | (simp; exact fun e => FIN.out.2.2.2 e.symm)), World.cell?_setCell_other _ _ _ _ (by first | (simp; done) | (simp; exact fun e => FIN.out.2.2.1 e.symm))]
    exact FIN.out.1
  · exact (FIN.out.2.1.trans (Kept.setCell (P := fun k _ => w.heap.size ≤ k) _ _ _ _ (by show _ ≤ _; omega)) (fun k _ hlt (e : w.heap.size ≤ k) => by omega)).trans (Kept.setCell (P := fun k _ => w.heap.size ≤ k) _ _ _ _ (by show _ ≤ _; omega)) (fun k _ hlt (e : w.heap.size ≤ k) => by omega)

end Go.Proofs.YtfipfoplmopkaaaGreatDoor

namespace Go.Proofs.YtfipfoplmopkaaaGreatDoor
open Go.RowKit

set_option maxRecDepth 100000 in
set_option maxHeartbeats 1000000 in
theorem cl83_any (w : World) (p q g c : Nat) (h1 : w.cell? ⟨p, 0, none⟩ = some (.slice (some ⟨g, 0, none⟩) 1 c)) (h2 : w.cell? ⟨g, 1, none⟩ = some (.int .i64 2)) (h3 : w.cell? ⟨q, 0, none⟩ = some (.int .i64 3)) :
    Calls Tryz.prog 83 #[.int .i64 0, .pointer (some ⟨p, 0, none⟩), .pointer (some ⟨q, 0, none⟩)] w fun e w' => e = .returned (.bool true) ∧ Kept (fun _ _ => False) w w' := by
  go_enter Tryz.func83, Tryz.ntmps83
  go_wp2_with fail
  go_region
  all_goals
    go_wp2_with fail
    go_ret
    exact ⟨rfl, Kept.drew _ _⟩

set_option maxRecDepth 100000 in
set_option maxHeartbeats 1000000 in
theorem cl84_any (w : World) (p m q g c : Nat) (h1 : w.cell? ⟨p, 0, none⟩ = some (.slice (some ⟨g, 0, none⟩) 1 c)) (h2 : w.cell? ⟨g, 0, none⟩ = some (.int .i64 1)) (h3 : w.cell? ⟨q, 1, none⟩ = some (.int .i64 4)) (h4 : w.cell? ⟨m, 0, none⟩ = some (.int .i64 0)) :
    Calls Tryz.prog 84 #[.int .i64 0, .pointer (some ⟨p, 0, none⟩), .pointer (some ⟨m, 0, none⟩), .pointer (some ⟨q, 0, none⟩)] w fun e w' => e = .returned (.bool false) ∧ Kept (fun _ _ => False) w w' := by
  go_enter Tryz.func84, Tryz.ntmps84
  go_wp2_with fail
  go_region
  all_goals
    go_wp2_with fail
    go_ret
    exact ⟨rfl, Kept.drew _ _⟩

set_option maxRecDepth 100000 in
set_option maxHeartbeats 1000000 in
theorem search83_any (w : World) (p q g c : Nat) (h1 : w.cell? ⟨p, 0, none⟩ = some (.slice (some ⟨g, 0, none⟩) 1 c)) (h2 : w.cell? ⟨g, 1, none⟩ = some (.int .i64 2)) (h3 : w.cell? ⟨q, 0, none⟩ = some (.int .i64 3)) :
    Calls Tryz.prog 82 #[.int .i64 1, .func (.func 83) #[] #[.pointer (some ⟨p, 0, none⟩), .pointer (some ⟨q, 0, none⟩)]] w fun e w' => e = .returned (.int .i64 0) ∧ Kept (fun _ _ => False) w w' := by
  have HC := Lib.hid (cl83_any w p q g c h1 h2 h3)
  clear h1 h2 h3
  go_enter Tryz.func82, Tryz.ntmps82
  go_wp2_with fail
  refine wp_loop_rounds 2 ?_
  rw [rounds_succ]
  go_wp2_with fail
  (with_reducible refine HC.out.mono ?_)
  rintro e w1 ⟨rfl, hk⟩
  have HK := Lib.hid hk
  clear hk HC
  go_wp2_with fail
  rw [rounds_succ]
  go_wp2_with fail
  go_ret
  exact ⟨rfl, HK.out⟩

set_option maxRecDepth 100000 in
set_option maxHeartbeats 1000000 in
theorem search84_any (w : World) (p m q g c : Nat) (h1 : w.cell? ⟨p, 0, none⟩ = some (.slice (some ⟨g, 0, none⟩) 1 c)) (h2 : w.cell? ⟨g, 0, none⟩ = some (.int .i64 1)) (h3 : w.cell? ⟨q, 1, none⟩ = some (.int .i64 4)) (h4 : w.cell? ⟨m, 0, none⟩ = some (.int .i64 0)) :
    Calls Tryz.prog 82 #[.int .i64 1, .func (.func 84) #[] #[.pointer (some ⟨p, 0, none⟩), .pointer (some ⟨m, 0, none⟩), .pointer (some ⟨q, 0, none⟩)]] w fun e w' => e = .returned (.int .i64 1) ∧ Kept (fun _ _ => False) w w' := by
  have HC := Lib.hid (cl84_any w p m q g c h1 h2 h3 h4)
  clear h1 h2 h3 h4
  go_enter Tryz.func82, Tryz.ntmps82
  go_wp2_with fail
  refine wp_loop_rounds 2 ?_
  rw [rounds_succ]
  go_wp2_with fail
  (with_reducible refine HC.out.mono ?_)
  rintro e w1 ⟨rfl, hk⟩
  have HK := Lib.hid hk
  clear hk HC
  go_wp2_with fail
  rw [rounds_succ]
  go_wp2_with fail
  go_ret
  exact ⟨rfl, HK.out⟩

end Go.Proofs.YtfipfoplmopkaaaGreatDoor

namespace Go.Proofs.YtfipfoplmopkaaaGreatDoor
open Go.RowKit

theorem info87 : (Tryz.prog.info? 87).map (fun i => (i.zero, i.size, i.bytes)) = some (some (.agg #[.int .i64 0, .int .i64 0]), 2, 16) := by kernel_rfl
theorem und85 : Tryz.prog.underlying 85 = some (.slice 87) := by kernel_rfl
theorem two_newI (w : World) (x y : Value) (t : TypeId) : ∀ ad, some (⟨w.heap.size, 0, none⟩ : Addr) = some ad → ∀ (j : Nat) u, [x, y][j]? = some u → (w.alloc (.cells #[x, y] t)).cell? (ad.add j) = some u := by
  intro ad e j u hj
  cases e
  match j, hj with
  | 0, hj => simp at hj; subst hj; rw [Addr.add_lit, Nat.zero_add, World.cell?_alloc_new]; rfl
  | 1, hj => simp at hj; subst hj; rw [Addr.add_lit, Nat.zero_add, World.cell?_alloc_new]; rfl

set_option maxRecDepth 100000 in
set_option maxHeartbeats 2000000 in
theorem add1_any (w : World) : Calls Tryz.prog 33 #[.slice none 0 0, .agg #[.int .i64 1, .int .i64 2]] w fun e w' => ∃ g c, e = .returned (.slice (some ⟨g, 0, none⟩) 1 c) ∧ w'.ownsRow 0 87 2 (.slice (some ⟨g, 0, none⟩) 1 c) 1 [.int .i64 1, .int .i64 2] ∧ w.heap.size ≤ g ∧ Kept (fun _ _ => False) w w' := by
  obtain ⟨i87, hi, hz0, hz1, hz2⟩ := info_parts info87
  go_enter Tryz.func33, Tryz.ntmps33
  go_wp2_with (at_builtin; refine wpList_app _ rfl _ _ 85 rfl 87 i87 (.agg #[.int .i64 0, .int .i64 0]) 2 16 und85 hi hz0 hz1 hz2 rfl (by decide) (.slice none 0 0) 0 [] rfl (World.ownsRow_nil _ _ _ _) (some ⟨w.heap.size + 1 + 1, 0, none⟩) 1 1 [.int .i64 1, .int .i64 2] rfl rfl (fun e => by cases e) (by have := two_newI ((w.alloc (.cells #[.slice none 0 0] 85)).alloc (.cells #[.int .i64 1, .int .i64 2] 87)) (.int .i64 1) (.int .i64 2) 87; rw [World.size_alloc, World.size_alloc] at this; exact this) (by intro u hu; simp at hu; rcases hu with rfl | rfl <;> rfl) (by unfold maxLen; omega) (by omega) ?_)
  intro v' w3 ha
  obtain ⟨ao', c', rfl⟩ := own_slice ha.own
  have ho := ha.own
  obtain ⟨g, cap, he, _, hglt⟩ := ho.form (by simp)
  cases he
  have hg : w.heap.size ≤ g := by
    rcases ha.mv with h | ⟨g', h1, h2⟩
    · cases h
    · cases h1; simp only [World.size_alloc] at h2; omega
  have hk : Kept (fun _ _ => False) w w3 := (((Kept.alloc _ w _).trans (Kept.alloc _ _ _) (fun _ _ _ => id)).trans (Kept.alloc _ _ _) (fun _ _ _ => id)).trans (ha.kept (World.ownsRow_nil _ _ _ _)) (fun k _ _ e => by cases e)
  have HO := Lib.hid ho
  have HK := Lib.hid hk
  clear ha ho hk hglt
  go_wp2_with fail
  go_ret
  exact ⟨g, _, rfl, HO.out, hg, HK.out⟩

theorem add2_fin {w w8 w9 : World} {g c : Nat} {v' : Value} (hk : Kept (fun k _ => k = g) w w8) (ho : w8.ownsRow 0 87 2 (.slice (some ⟨g, 0, none⟩) 1 c) 1 [.int .i64 1, .int .i64 4]) (ha : App w8.drew w9 87 2 (.slice (some ⟨g, 0, none⟩) 1 c) v' 1 [.int .i64 1, .int .i64 4]) :
    ∃ g' c', v' = .slice (some ⟨g', 0, none⟩) 1 c' ∧ w9.ownsRow 0 87 2 (.slice (some ⟨g', 0, none⟩) 1 c') 1 [.int .i64 1, .int .i64 4] ∧ (g' = g ∨ w.heap.size ≤ g') ∧ Kept (fun k _ => k = g) w w9 := by
  have h0 : w8.drew.ownsRow 0 87 2 (.slice (some ⟨g, 0, none⟩) 1 c) 1 [.int .i64 1, .int .i64 4] := ho
  obtain ⟨g', cap, he, _, _⟩ := ha.own.form (by decide)
  refine ⟨g', cap, he, by rw [← he]; exact ha.own, ?_, (hk.trans (Kept.drew (fun k _ => k = g) _) (fun _ _ _ => id)).trans (ha.kept h0) (fun k _ _ e => by
    have e2 : some g = some k := e
    cases e2; rfl)⟩
  rcases ha.mv with h | ⟨b, h1, h2⟩
  · rw [he] at h
    have e2 : some g' = some g := h
    cases e2; exact .inl rfl
  · rw [he] at h1
    have e2 : some g' = some b := h1
    cases e2; exact .inr (Nat.le_trans hk.size h2)

set_option maxRecDepth 100000 in
set_option maxHeartbeats 1000000 in
theorem add2_any (w : World) (g c : Nat) (h : w.ownsRow 0 87 2 (.slice (some ⟨g, 0, none⟩) 1 c) 1 [.int .i64 1, .int .i64 2]) : Calls Tryz.prog 33 #[.slice (some ⟨g, 0, none⟩) 1 c, .agg #[.int .i64 3, .int .i64 4]] w fun e w' => ∃ g' c', e = .returned (.slice (some ⟨g', 0, none⟩) 1 c') ∧ w'.ownsRow 0 87 2 (.slice (some ⟨g', 0, none⟩) 1 c') 1 [.int .i64 1, .int .i64 4] ∧ (g' = g ∨ w.heap.size ≤ g') ∧ Kept (fun k _ => k = g) w w' := by
  obtain ⟨i87, hi, hz0, hz1, hz2⟩ := info_parts info87
  have hg0 : w.cell? ⟨g, 0, none⟩ = some (.int .i64 1) := h.cellAt 0 (by decide)
  have hg1 : w.cell? ⟨g, 1, none⟩ = some (.int .i64 2) := h.cellAt 1 (by decide)
  have hgf : w.frozen? ⟨g, 1, none⟩ = false := h.frozenAt 1
  have hgl := World.block_lt_of_cell? _ _ hg0
  have hc1 : 1 ≤ c := by
    rcases h.2 with ⟨e, _⟩ | ⟨_, _, _, e, _, _, hle, _⟩
    · cases e
    · cases e; exact hle
  have H := Lib.hid h
  have HC1 := Lib.hid hc1
  obtain ⟨w3, hw3⟩ : ∃ w3, w3 = ((w.alloc (.cells #[.slice (some ⟨g, 0, none⟩) 1 c] 85)).alloc (.cells #[.int .i64 3, .int .i64 4] 87)).alloc (.cells #[.int .i64 0] 3) := ⟨_, rfl⟩
  obtain ⟨x1, x2, x3⟩ := new3 w (.cells #[.slice (some ⟨g, 0, none⟩) 1 c] 85) (.cells #[.int .i64 3, .int .i64 4] 87) (.cells #[.int .i64 0] 3)
  obtain ⟨n, hn⟩ : ∃ n, n = w.heap.size := ⟨_, rfl⟩
  rw [← hw3, ← hn] at x1 x2 x3
  have z3 : w3.heap.size = n + 3 := by rw [hw3, hn]; simp only [World.size_alloc]
  have k3 : Kept (fun _ _ => False) w w3 := by rw [hw3]; exact ((Kept.alloc _ _ _).trans (Kept.alloc _ _ _) (fun _ _ _ => id)).trans (Kept.alloc _ _ _) (fun _ _ _ => id)
  have a3 : w3.cell? ⟨n, 0, none⟩ = some (.slice (some ⟨g, 0, none⟩) 1 c) := (cellOf x1 0).trans rfl
  have b3 : w3.cell? ⟨n + 1, 0, none⟩ = some (.int .i64 3) := (cellOf x2 0).trans rfl
  have b4 : w3.cell? ⟨n + 1, 1, none⟩ = some (.int .i64 4) := (cellOf x2 1).trans rfl
  have d3 : w3.cell? ⟨n + 1 + 1, 0, none⟩ = some (.int .i64 0) := (cellOf x3 0).trans rfl
  have f3 : w3.frozen? ⟨n + 1 + 1, 0, none⟩ = false := frzOf x3 0
  have S1 := Lib.hid (search83_any w3 n (n + 1) g c a3 ((k3.cell g 1 hgl id).trans hg1) b3)
  have HW3 := Lib.hid hw3
  have HN := Lib.hid hn
  have K3 := Lib.hid k3
  have Z3 := Lib.hid z3
  clear h hc1 x1 x2 x3 k3 z3 hw3
  subst hn
  go_enter Tryz.func33, Tryz.ntmps33
  go_wp2_with fail
  rw [← HW3.out]
  (with_reducible refine S1.out.mono ?_)
  rintro e w4 ⟨rfl, hk⟩
  have hz4 := hk.size
  rw [Z3.out] at hz4
  have l0 : w.heap.size < w3.heap.size := by have := Z3.out; omega
  have l1 : w.heap.size + 1 < w3.heap.size := by have := Z3.out; omega
  have l2 : w.heap.size + 1 + 1 < w3.heap.size := by have := Z3.out; omega
  have a4 := (hk.cell _ 0 l0 id).trans a3
  have b5 := (hk.cell _ 0 l1 id).trans b3
  have b6 := (hk.cell _ 1 l1 id).trans b4
  have d4 := (hk.cell _ 0 l2 id).trans d3
  have f4 := (hk.fr _ 0 l2).trans f3
  have hlg : g < w3.heap.size := by have := Z3.out; omega
  have y0 := (hk.cell g 0 hlg id).trans ((K3.out.cell g 0 hgl id).trans hg0)
  have y1 := (hk.cell g 1 hlg id).trans ((K3.out.cell g 1 hgl id).trans hg1)
  have yf := (hk.fr g 1 hlg).trans ((K3.out.fr g 1 hgl).trans hgf)
  have K4 := Lib.hid (K3.out.trans hk (fun _ _ _ => id))
  have HZ4 := Lib.hid hz4
  clear hk a3 b3 b4 d3 f3 hg0 hg1 hgf S1 HW3 l0 l1 l2 hlg hz4
  obtain ⟨w5, hw5⟩ : ∃ w5, w5 = w4.setCell ⟨w.heap.size + 1 + 1, 0, none⟩ (.int .i64 0) := ⟨_, rfl⟩
  have kz : Kept (fun k _ => k = w.heap.size + 1 + 1) w4 w5 := by rw [hw5]; exact Kept.setCell _ _ _ _ rfl
  have m0 : w.heap.size < w4.heap.size := by have := HZ4.out; omega
  have m1 : w.heap.size + 1 < w4.heap.size := by have := HZ4.out; omega
  have m3 : g < w4.heap.size := by have := HZ4.out; omega
  have a5 := (kz.cell _ 0 m0 (fun e => by omega)).trans a4
  have b7 := (kz.cell _ 0 m1 (fun e => by omega)).trans b5
  have b8 := (kz.cell _ 1 m1 (fun e => by omega)).trans b6
  have d5 : w5.cell? ⟨w.heap.size + 1 + 1, 0, none⟩ = some (.int .i64 0) := by rw [hw5]; exact World.cell?_setCell_same _ _ _ d4
  have v0 := (kz.cell g 0 m3 (fun e => by omega)).trans y0
  have v1 := (kz.cell g 1 m3 (fun e => by omega)).trans y1
  have vf := (kz.fr g 1 m3).trans yf
  have K5 : Hid (Kept (fun _ _ => False) w w5) := Lib.hid (K4.out.trans kz (fun k _ hlt e => by omega))
  have HZ5 : Hid (w.heap.size + 3 ≤ w5.heap.size) := Lib.hid (Nat.le_trans HZ4.out kz.size)
  have HW5 := Lib.hid hw5
  have S2 := Lib.hid (search84_any w5 w.heap.size (w.heap.size + 1 + 1) (w.heap.size + 1) g c a5 v0 b8 d5)
  clear kz m0 m1 m3 y0 y1 yf K4 K3 hw5
  go_wp2_with fail
  rw [← HW5.out]
  (with_reducible refine S2.out.mono ?_)
  rintro e w6 ⟨rfl, hk⟩
  have m0 : w.heap.size < w5.heap.size := by have := HZ5.out; omega
  have m1 : w.heap.size + 1 < w5.heap.size := by have := HZ5.out; omega
  have m2 : w.heap.size + 1 + 1 < w5.heap.size := by have := HZ5.out; omega
  have m3 : g < w5.heap.size := by have := HZ5.out; omega
  have a6 := (hk.cell _ 0 m0 id).trans a5
  have e3 := (hk.cell _ 0 m1 id).trans b7
  have e4 := (hk.cell _ 1 m1 id).trans b8
  have d6 := (hk.cell _ 0 m2 id).trans d5
  have u0 := (hk.cell g 0 m3 id).trans v0
  have u1 := (hk.cell g 1 m3 id).trans v1
  have uf := (hk.fr g 1 m3).trans vf
  have k6 := K5.out.trans hk (fun _ _ _ => id)
  have K6 := Lib.hid k6
  have HO6 : Hid (w6.ownsRow 0 87 2 (.slice (some ⟨g, 0, none⟩) 1 c) 1 [.int .i64 1, .int .i64 2]) := Lib.hid (ownsRow_block H.out (fun k e => k6.block k (H.out.lt k e).2 (fun _ => id)))
  clear hk k6 a4 b5 b6 d4 f4 a5 b7 b8 d5 v0 v1 vf S2 HW5 K5 m0 m1 m2 m3 H
  go_wp2_with fail
  go_region
  obtain ⟨w7, hw7⟩ : ∃ w7, w7 = w6.drew := ⟨_, rfl⟩
  have a7 : w7.cell? ⟨w.heap.size, 0, none⟩ = some (.slice (some ⟨g, 0, none⟩) 1 c) := by rw [hw7]; exact a6
  have q3 : w7.cell? ⟨w.heap.size + 1, 0, none⟩ = some (.int .i64 3) := by rw [hw7]; exact e3
  have q4 : w7.cell? ⟨w.heap.size + 1, 1, none⟩ = some (.int .i64 4) := by rw [hw7]; exact e4
  have d7 : w7.cell? ⟨w.heap.size + 1 + 1, 0, none⟩ = some (.int .i64 0) := by rw [hw7]; exact d6
  have t0 : w7.cell? ⟨g, 0, none⟩ = some (.int .i64 1) := by rw [hw7]; exact u0
  have t1 : w7.cell? ⟨g, 1, none⟩ = some (.int .i64 2) := by rw [hw7]; exact u1
  have tf : w7.frozen? ⟨g, 1, none⟩ = false := by rw [hw7]; exact uf
  have K7 : Hid (Kept (fun _ _ => False) w w7) := Lib.hid (by rw [hw7]; exact K6.out.trans (Kept.drew _ _) (fun _ _ _ => id))
  have HO7 : Hid (w7.ownsRow 0 87 2 (.slice (some ⟨g, 0, none⟩) 1 c) 1 [.int .i64 1, .int .i64 2]) := Lib.hid (by rw [hw7]; exact HO6.out)
  have HW7 := Lib.hid hw7
  rw [← hw7]
  clear hw7 a6 e3 e4 d6 u0 u1 uf K6 HO6
  go_wp2_with fail
  have wr1 : IntKind.i64.wrap 1 = 1 := by decide
  have wr0 : IntKind.i64.wrap 0 = 0 := by decide
  have mx : max (4 : Int) 2 = 4 := by decide
  go_still_tail 13, (by kernel_rfl)
  go_wp2_with fail
  obtain ⟨w8, hw8⟩ : ∃ w8, w8 = (w7.setCell ⟨g, 1, none⟩ (.int .i64 4)).drew := ⟨_, rfl⟩
  have ks : Kept (fun k _ => k = g) w7 w8 := by rw [hw8]; exact (Kept.setCell (P := fun k _ => k = g) _ _ _ _ rfl).trans (Kept.drew _ _) (fun _ _ _ => id)
  have HO8 : Hid (w8.ownsRow 0 87 2 (.slice (some ⟨g, 0, none⟩) 1 c) 1 [.int .i64 1, .int .i64 4]) := Lib.hid (by rw [hw8]; exact (HO7.out.stored 1 (.int .i64 4)).1)
  have ng : w.heap.size ≠ g := by omega
  have nm : w.heap.size + 1 + 1 ≠ g := by omega
  have a8 := (ks.cell _ 0 (World.block_lt_of_cell? _ _ a7) ng).trans a7
  have d8 := (ks.cell _ 0 (World.block_lt_of_cell? _ _ d7) nm).trans d7
  have K8 : Hid (Kept (fun k _ => k = g) w w8) := Lib.hid ((K7.out.mono (fun _ _ _ e => e.elim)).trans ks (fun _ _ _ => id))
  have HW8 := Lib.hid hw8
  rw [← hw8]
  clear hw8 ks ng nm a7 q3 q4 d7 t0 t1 tf K7 HO7 HW7 mx
  have HGL := Lib.hid hgl
  by_cases hc : c = 1
  · subst hc
    go_still_tail 9, (by kernel_rfl)
    go_wp2_with (at_builtin; refine wpList_app _ rfl _ _ 85 rfl 87 i87 (.agg #[.int .i64 0, .int .i64 0]) 2 16 und85 hi hz0 hz1 hz2 rfl (by decide) (.slice (some ⟨g, 0, none⟩) 1 1) 1 [.int .i64 1, .int .i64 4] rfl HO8.out (some ⟨g, 0, none⟩) 0 0 [] rfl rfl (fun e => by cases e) (fun ad e j u hj => by simp at hj) (by intro u hu; simp at hu) (by unfold maxLen; omega) (by omega) ?_)
    intro v' w9 ha
    obtain ⟨g', c', rfl, f1, f2, f3⟩ := add2_fin K8.out HO8.out ha
    have FIN := Lib.hid (And.intro f1 (And.intro f2 f3))
    clear ha f1 f2 f3
    go_wp2_with fail
    go_ret
    exact ⟨g', c', rfl, FIN.out⟩
  · have hc1 : 1 ≤ c := HC1.out
    have hcI : (1 : Int) ≤ (c : Int) := by omega
    have hcB : ¬ c = 1 := hc
    go_still_tail 9, (by kernel_rfl)
    go_wp2_with (at_builtin; refine wpList_app _ rfl _ _ 85 rfl 87 i87 (.agg #[.int .i64 0, .int .i64 0]) 2 16 und85 hi hz0 hz1 hz2 rfl (by decide) (.slice (some ⟨g, 0, none⟩) 1 c) 1 [.int .i64 1, .int .i64 4] rfl HO8.out (some ⟨g, 0 + 2, none⟩) 0 (c - 1) [] rfl rfl (fun e => by cases e) (fun ad e j u hj => by simp at hj) (by intro u hu; simp at hu) (by unfold maxLen; omega) (by omega) ?_)
    intro v' w9 ha
    obtain ⟨g', c', rfl, f1, f2, f3⟩ := add2_fin K8.out HO8.out ha
    have FIN := Lib.hid (And.intro f1 (And.intro f2 f3))
    clear ha f1 f2 f3
    go_wp2_with fail
    go_ret
    exact ⟨g', c', rfl, FIN.out⟩

end Go.Proofs.YtfipfoplmopkaaaGreatDoor

namespace Go.Proofs.YtfipfoplmopkaaaGreatDoor
open Go.RowKit

theorem info52 : (Tryz.prog.info? 52).map (fun i => (i.zero, i.size, i.bytes)) = some (some (.agg #[.int .i64 0, .int .i64 0]), 2, 16) := by kernel_rfl
theorem und49 : Tryz.prog.underlying 49 = some (.slice 52) := by kernel_rfl

set_option maxRecDepth 100000 in
set_option maxHeartbeats 1000000 in
theorem unint_any (w : World) (g c : Nat) (h0 : w.cell? ⟨g, 0, none⟩ = some (.int .i64 1)) (h1 : w.cell? ⟨g, 1, none⟩ = some (.int .i64 4)) : Calls Tryz.prog 34 #[.slice (some ⟨g, 0, none⟩) 1 c] w fun e w' => ∃ g' c', e = .returned (.slice (some ⟨g', 0, none⟩) 1 c') ∧ w'.cell? ⟨g', 1, none⟩ = some (.int .i64 4) ∧ Kept (fun _ _ => False) w w' := by
  obtain ⟨i52, hi, hz0, hz1, hz2⟩ := info_parts info52
  have hgl := World.block_lt_of_cell? _ _ h0
  go_enter Tryz.func34, Tryz.ntmps34
  go_wp2_with fail
  refine wp_loop_rounds 2 ?_
  rw [rounds_succ]
  go_wp2_with (at_builtin; refine wpList_app _ rfl _ _ 49 rfl 52 i52 (.agg #[.int .i64 0, .int .i64 0]) 2 16 und49 hi hz0 hz1 hz2 rfl (by decide) (.slice none 0 0) 0 [] rfl (World.ownsRow_nil _ _ _ _) (some ⟨w.heap.size + 1, 0, none⟩) 1 1 [.int .i64 1, .int .i64 4] rfl rfl (fun e => by cases e) (by have := two_newI (w.alloc (.cells #[.int .i64 1, .int .i64 4] 87)) (.int .i64 1) (.int .i64 4) 52; rw [World.size_alloc] at this; exact this) (by intro u hu; simp at hu; rcases hu with rfl | rfl <;> rfl) (by unfold maxLen; omega) (by omega) ?_)
  intro v' w3 ha
  have ho := ha.own
  obtain ⟨g', cap, rfl, _, hglt⟩ := ho.form (by simp)
  have hk : Kept (fun _ _ => False) w w3 := ((Kept.alloc _ w _).trans (Kept.alloc _ _ _) (fun _ _ _ => id)).trans (ha.kept (World.ownsRow_nil _ _ _ _)) (fun k _ _ e => by cases e)
  have hc : w3.cell? ⟨g', 1, none⟩ = some (.int .i64 4) := by
    have := ho.cells rfl 1 (.int .i64 4) (by simp)
    rwa [Addr.add_lit, Nat.zero_add] at this
  have FIN := Lib.hid (And.intro hc hk)
  clear ha ho hk hc hglt h0 h1
  go_wp2_with fail
  rw [rounds_succ]
  go_wp2_with fail
  go_ret
  exact ⟨g', _, rfl, FIN.out⟩

/-- What AddIntervals' closure leaves. -/
def YP (w : World) (o2 : Nat) (w' : World) : Prop := ∃ g c, w'.cell? ⟨o2, 0, none⟩ = some (.slice (some ⟨g, 0, none⟩) 1 c) ∧ w'.cell? ⟨g, 1, none⟩ = some (.int .i64 4) ∧ Kept (fun k _ => k = o2) w w'

set_option maxRecDepth 100000 in
set_option maxHeartbeats 2000000 in
theorem cl32_any (w : World) (o1 o2 b : Nat) (p1 : w.cell? ⟨o1, 0, none⟩ = some (.slice (some ⟨b, 0, none⟩) 2 2)) (p2 : w.cell? ⟨o2, 0, none⟩ = some (.slice none 0 0)) (f2 : w.frozen? ⟨o2, 0, none⟩ = false)
    (h0 : w.cell? ⟨b, 0, none⟩ = some (.int .i64 1)) (h1 : w.cell? ⟨b, 1, none⟩ = some (.int .i64 2)) (h2 : w.cell? ⟨b, 2, none⟩ = some (.int .i64 3)) (h3 : w.cell? ⟨b, 3, none⟩ = some (.int .i64 4)) :
    Calls Tryz.prog 32 #[.pointer (some ⟨o1, 0, none⟩), .pointer (some ⟨o2, 0, none⟩)] w fun e w' => e = .returned (.tuple #[]) ∧ YP w o2 w' := by
  have hb := World.block_lt_of_cell? _ _ h0
  have lo2 := World.block_lt_of_cell? _ _ p2
  have A1 := Lib.hid (add1_any (w.alloc (.cells #[.int .i64 1, .int .i64 2] 52)))
  have P2 := Lib.hid p2
  have F2 := Lib.hid f2
  clear p2 f2
  go_enter Tryz.func32, Tryz.ntmps32
  go_wp2_with fail
  refine wp_loop_rounds 3 ?_
  rw [rounds_succ]
  go_wp2_with fail
  (with_reducible refine A1.out.mono ?_)
  rintro e w1 ⟨g, c, rfl, ho, hg, hk⟩
  have k1 : Kept (fun _ _ => False) w w1 := (Kept.alloc _ _ _).trans hk (fun _ _ _ => id)
  have q2 := (k1.cell b 2 hb id).trans h2
  have q3 := (k1.cell b 3 hb id).trans h3
  have hb1 := Nat.lt_of_lt_of_le hb k1.size
  have hgw : w.heap.size ≤ g := by rw [World.size_alloc] at hg; omega
  have ho2 : (w1.alloc (.cells #[.int .i64 3, .int .i64 4] 52)).ownsRow 0 87 2 (.slice (some ⟨g, 0, none⟩) 1 c) 1 [.int .i64 1, .int .i64 2] := ownsRow_block ho (fun k e => heap_alloc_old _ _ (ho.lt k e).2)
  have A2 := Lib.hid (add2_any (w1.alloc (.cells #[.int .i64 3, .int .i64 4] 52)) g c ho2)
  have K1 := Lib.hid k1
  have HGW := Lib.hid hgw
  clear ho hg hk k1 ho2 hgw A1 h0 h1 h2 h3 p1
  go_wp2_with fail
  rw [rounds_succ]
  go_wp2_with fail
  (with_reducible refine A2.out.mono ?_)
  rintro e w2 ⟨g2, c2, rfl, ho, hg, hk⟩
  have k2 : Kept (fun _ _ => False) w w2 := (K1.out.trans (Kept.alloc _ _ _) (fun _ _ _ => id)).trans hk (fun k _ hlt e => by have := HGW.out; omega)
  have U := Lib.hid (unint_any w2 g2 c2 (ho.cellAt 0 (by decide)) (ho.cellAt 1 (by decide)))
  have K2 := Lib.hid k2
  clear ho hg hk k2 A2 K1
  go_wp2_with fail
  rw [rounds_succ]
  go_wp2_with fail
  (with_reducible refine U.out.mono ?_)
  rintro e w3 ⟨g3, c3, rfl, hc, hk⟩
  have k3 := K2.out.trans hk (fun _ _ _ => id)
  have q2' := (k3.cell o2 0 lo2 id).trans P2.out
  have z2 := (k3.fr o2 0 lo2).trans F2.out
  have FIN : Hid (YP w o2 (w3.setCell ⟨o2, 0, none⟩ (.slice (some ⟨g3, 0, none⟩) 1 c3))) := Lib.hid (by
    refine ⟨g3, c3, World.cell?_setCell_same _ _ _ q2', ?_, (k3.mono (fun _ _ _ e => e.elim)).trans (Kept.setCell (P := fun k _ => k = o2) _ _ _ _ rfl) (fun _ _ _ => id)⟩
    rw [World.cell?_setCell_other _ _ _ _ (by simp)]
    exact hc)
  clear hc hk k3 U K2
  go_wp2_with fail
  go_end0
  exact ⟨rfl, FIN.out⟩

end Go.Proofs.YtfipfoplmopkaaaGreatDoor

namespace Go.Proofs.YtfipfoplmopkaaaGreatDoor
open Go.RowKit

/-- The bytes of a string. -/
def sB (s : ByteArray) : List UInt8 := s.data.toList
@[simp] theorem sB_length (s : ByteArray) : (sB s).length = s.size := by simp [sB]

theorem run_appS (w : World) (ty : TypeId) (v : Value) (g : Option Nat) (l : List UInt8) (hb : Bf w v g l) (s : ByteArray) (hl : l.length + s.size ≤ 1000000000000) :
    ∃ v' w', (Builtin.append_ #[27, 9] ty #[v, .string s]).run Tryz.prog w = .ok v' w' ∧ App w w' 5 1 v v' (l.length + (sB s).length) (bVs l ++ bVs (sB s)) := by
  obtain ⟨i0, hi, hz0, hz1, hz2⟩ := info_parts Tryz.info5
  have hM : l.length + s.size ≤ maxLen := by unfold maxLen; omega
  have e0 : Lib.strCells s = bVs (sB s) := rfl
  rw [sB_length]
  rcases hb.form with ⟨rfl, rfl, rfl⟩ | ⟨b, cap, rfl, rfl, hle, hcm⟩
  · obtain ⟨v', w', hr, h2, h3, _⟩ := Lib.run_append_own_string (P := Tryz.prog) w w.heap.size 27 9 ty 5 i0 Tryz.underlying27 Tryz.underlying9 hi hz0 hz1 hz2 (.slice none 0 0) 0 [] (World.ownsRow_nil _ _ _ _) s (by simpa using hM) (by simp at hl; omega) (Nat.le_refl _)
    refine ⟨v', w', hr, by simpa [bVs, e0] using h2.mono (Nat.zero_le _), ?_⟩
    rcases h2.2 with ⟨rfl, _⟩ | ⟨g', cap', cur, rfl, hg', _⟩
    · exact .inl ⟨rfl, h3⟩
    · exact .inr ⟨g', rfl, hg', h3⟩
  · obtain ⟨v', w', hr, h2, h3, _⟩ := Lib.run_append_own_string (P := Tryz.prog) w 0 27 9 ty 5 i0 Tryz.underlying27 Tryz.underlying9 hi hz0 hz1 hz2 (.slice (some ⟨b, 0, none⟩) l.length cap) l.length (bVs l) hb.1 s hM (by omega) (Nat.zero_le _)
    refine ⟨v', w', hr, h2, ?_⟩
    by_cases hroom : l.length + s.size ≤ cap
    · obtain ⟨cur, hg, hcs⟩ : ∃ cur, w.heap[b]? = some (.cells cur 5 (0, 0)) ∧ cur.size = cap * 1 := by
        rcases hb.1.2 with ⟨h, _⟩ | ⟨g', cap', cur, h, _, hg, _, _, hcs, _⟩
        · cases h
        · cases h; exact ⟨cur, hg, hcs⟩
      have hr' := Lib.run_append_room_string (P := Tryz.prog) w 27 9 ty 5 i0 Tryz.underlying27 Tryz.underlying9 hi hz1 b l.length cap cur hg s hroom (by omega)
      rw [hr] at hr'
      cases hr'
      exact .inl ⟨rfl, h3⟩
    · have hr' := Lib.run_append_grow_string (P := Tryz.prog) w 27 9 ty 5 i0 (.int .u8 0) Tryz.underlying27 Tryz.underlying9 hi hz0 ⟨b, 0, none⟩ l.length cap (bVs l) (by simp [hz1]) (hb.1.cells rfl) s (by omega) (by omega) (by rw [hz2]; exact growslice_fits (by omega) (by omega))
      rw [hr] at hr'
      cases hr'
      exact .inr ⟨w.heap.size, rfl, Nat.le_refl _, ⟨rfl, rfl, rfl, by simp, fun k hk _ => heap_alloc_old w.drew _ hk⟩⟩

/-- The append of a string's bytes, at the list of a region's operations. -/
theorem wpList_appS (w : World) {ops : Array Oper} {rest : List Oper} {o : Oper} {a : Act} {Q : Exit → Act → World → Prop} (hgd : o.guard = none) (sl x : Operand)
    (ho : o.op = .call { callee := .builtin .append, args := #[sl, x], argTypes := #[27, 9] }) (v : Value) (g : Option Nat) (l : List UInt8) (hs : a.eval sl = v) (hb : Bf w v g l)
    (s : ByteArray) (hx : a.eval x = .string s) (hl : l.length + s.size ≤ 1000000000000)
    (h : ∀ v' w', App w w' 5 1 v v' (l.length + (sB s).length) (bVs l ++ bVs (sB s)) → wpList Tryz.prog ops Q rest (a.put o.dst v') w') : wpList Tryz.prog ops Q (o :: rest) a w := by
  refine wpList_plain hgd fun K hK => ?_
  obtain ⟨v', w', hr, h2⟩ := run_appS w o.type v g l hb s hl
  unfold Oper.wp execOp
  simp only [ho, resolve, invoke, builtin, Sem.run_bind, Sem.run_pure, Result.andThen_ok, List.map_toArray, List.map_cons, List.map_nil, hs, hx, hr]
  exact hK _ _ (h v' w' h2)

/-- Encbuf.PutString. -/
theorem putString_any (eb o : Nat) (g : Option Nat) (l : List UInt8) (s : ByteArray) (w : World) (h : EB w eb o g l) (hn : l.length < 1000000000) (hs : s.size < 1000000000) :
    Calls Tryz.prog 48 #[.pointer (some ⟨eb, o, none⟩), .string s] w fun e w' => e = .returned (.tuple #[]) ∧ Put w eb o g (l ++ sB s) w' := by
  obtain ⟨v, hv, hb⟩ := h.b
  have H := Lib.hid h
  have HB := Lib.hid hb
  clear h hb
  go_enter Tryz.func48, Tryz.ntmps48
  go_wp2_with (at_builtin; refine wpList_appS _ rfl _ _ rfl v g l rfl HB.out s rfl ?c2 ?_)
  case c2 => omega
  intro v' w' ha
  obtain ⟨ao', c', rfl⟩ := own_slice ha.own
  obtain ⟨hcell, hfr⟩ := H.out.cellApp hv HB.out ha
  have HA := Lib.hid ha
  clear ha
  go_wp2
  go_end0
  exact ⟨rfl, H.out.put hv HA.out⟩

/-- Encbuf.PutUvarint32. -/
theorem putUvarint32_any (eb o : Nat) (g : Option Nat) (l : List UInt8) (x : Nat) (w : World) (h : EB w eb o g l) (hn : l.length < 1000000000) (hx : x < 4294967296) :
    Calls Tryz.prog 43 #[.pointer (some ⟨eb, o, none⟩), .int .u32 x] w fun e w' => e = .returned (.tuple #[]) ∧ Put w eb o g (l ++ Lib.uvarint x) w' := by
  have H := Lib.hid h
  clear h
  go_enter Tryz.func43, Tryz.ntmps43
  go_wp2_with (go_at_call 44; refine (putUvarint64_any eb o g l x w H.out hn (by omega)).mono ?_; rintro e w' ⟨rfl, hw'⟩)
  go_end0
  exact ⟨rfl, hw'⟩

/-- Encbuf.PutUvarint. -/
theorem putUvarint_any (eb o : Nat) (g : Option Nat) (l : List UInt8) (x : Nat) (w : World) (h : EB w eb o g l) (hn : l.length < 1000000000) (hx : x < 4294967296) :
    Calls Tryz.prog 42 #[.pointer (some ⟨eb, o, none⟩), .int .i64 x] w fun e w' => e = .returned (.tuple #[]) ∧ Put w eb o g (l ++ Lib.uvarint x) w' := by
  have H := Lib.hid h
  clear h
  go_enter Tryz.func42, Tryz.ntmps42
  go_wp2_with (go_at_call 44; refine (putUvarint64_any eb o g l x w H.out hn (by omega)).mono ?_; rintro e w' ⟨rfl, hw'⟩)
  go_end0
  exact ⟨rfl, hw'⟩

/-- Encbuf.PutBE32int. -/
theorem putBE32int_any (eb o : Nat) (g : Option Nat) (l : List UInt8) (x : Nat) (w : World) (h : EB w eb o g l) (hn : l.length < 1000000000) (hx : x < 4294967296) :
    Calls Tryz.prog 38 #[.pointer (some ⟨eb, o, none⟩), .int .i64 x] w fun e w' => e = .returned (.tuple #[]) ∧ Put w eb o g (l ++ be32 x) w' := by
  have H := Lib.hid h
  clear h
  go_enter Tryz.func38, Tryz.ntmps38
  go_wp2_with (go_at_call 36; refine (putBE32_any eb o g l x w H.out hn hx).mono ?_; rintro e w' ⟨rfl, hw'⟩)
  go_end0
  exact ⟨rfl, hw'⟩

/-- Encbuf.Get. -/
theorem get_any (eb o : Nat) (v : Value) (w : World) (h : w.cell? ⟨eb, o, none⟩ = some v) :
    Calls Tryz.prog 49 #[.pointer (some ⟨eb, o, none⟩)] w fun e w' => e = .returned v ∧ w = w' := by
  go_enter Tryz.func49, Tryz.ntmps49
  go_wp2
  go_ret
  exact ⟨rfl, rfl⟩

/-- Encbuf.Len. -/
theorem len_any (eb o : Nat) (ao : Option Addr) (n c : Nat) (w : World) (h : w.cell? ⟨eb, o, none⟩ = some (.slice ao n c)) :
    Calls Tryz.prog 63 #[.pointer (some ⟨eb, o, none⟩)] w fun e w' => e = .returned (.int .i64 n) ∧ w = w' := by
  go_enter Tryz.func63, Tryz.ntmps63
  go_wp2
  go_ret
  exact ⟨rfl, rfl⟩

theorem Put.cons {w w1 w2 : World} {eb o : Nat} {g : Option Nat} {l l' : List UInt8} (h : Put w eb o g l w1) (k : ∀ g1, EB w1 eb o g1 l → Put w1 eb o g1 l' w2) : Put w eb o g l' w2 := by
  obtain ⟨g1, m1, e1, k1⟩ := h
  exact Put.trans m1 k1 (k g1 e1)

/-- Encbuf.PutUvarintStr. -/
theorem putUvarintStr_any (eb o : Nat) (g : Option Nat) (l : List UInt8) (s : ByteArray) (w : World) (h : EB w eb o g l) (hn : l.length < 100000000) (hs : s.size < 1000000000) :
    Calls Tryz.prog 46 #[.pointer (some ⟨eb, o, none⟩), .string s] w fun e w' => e = .returned (.tuple #[]) ∧ Put w eb o g (l ++ (Lib.uvarint s.size ++ sB s)) w' := by
  have H := Lib.hid h
  have hu := Lib.uvarint_length64 (x := s.size) (by omega)
  clear h
  go_enter Tryz.func46, Tryz.ntmps46
  go_wp2_with fail
  refine (putUvarint_any eb o g l s.size w H.out (by omega) (by omega)).mono ?_
  rintro e w1 ⟨rfl, g1, m1, e1, k1⟩
  have E1 := Lib.hid e1
  clear e1
  go_wp2_with fail
  refine (putString_any eb o g1 _ s w1 E1.out (by simp; omega) hs).mono ?_
  rintro e w2 ⟨rfl, p2⟩
  go_wp2
  go_end0
  rw [← List.append_assoc]
  exact ⟨rfl, Put.trans m1 k1 p2⟩

end Go.Proofs.YtfipfoplmopkaaaGreatDoor
