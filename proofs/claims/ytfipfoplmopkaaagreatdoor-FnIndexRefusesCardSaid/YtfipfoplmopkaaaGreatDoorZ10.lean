/- Postings without others: the methods of removedPostings (274, 275, 276) at the lists 1, 2 and 2. Condition: the structs in memory. -/
import Derived.Test.YtfipfoplmopkaaaGreatDoorZ09
import Derived.Deep.RegionHeld3

namespace Go.Proofs.YtfipfoplmopkaaaGreatDoor
open Go.RowKit

theorem m_next (a : Addr) (w : World) : (method 482 180 (.pointer (some a)) "Next").run Tryz.prog w = .ok (246, .pointer (some a)) w := by kernel_rfl
theorem m_at (a : Addr) (w : World) : (method 482 180 (.pointer (some a)) "At").run Tryz.prog w = .ok (243, .pointer (some a)) w := by kernel_rfl
theorem m_err (a : Addr) (w : World) : (method 482 180 (.pointer (some a)) "Err").run Tryz.prog w = .ok (244, .pointer (some a)) w := by kernel_rfl
theorem n_next (a : Addr) (w : World) : (method 482 190 (.pointer (some a)) "Next").run Tryz.prog w = .ok (276, .pointer (some a)) w := by kernel_rfl
theorem n_at (a : Addr) (w : World) : (method 482 190 (.pointer (some a)) "At").run Tryz.prog w = .ok (274, .pointer (some a)) w := by kernel_rfl
theorem n_err (a : Addr) (w : World) : (method 482 190 (.pointer (some a)) "Err").run Tryz.prog w = .ok (275, .pointer (some a)) w := by kernel_rfl

/-- A removedPostings at block r over ListPostings at pf, pr. -/
structure RP (w : World) (r pf pr : Nat) (cur : Int) (ini fok rok : Bool) : Prop where
  c0 : w.cell? ⟨r, 0, none⟩ = some (.iface 180 (.pointer (some ⟨pf, 0, none⟩)))
  c1 : w.cell? ⟨r, 1, none⟩ = some (.iface 180 (.pointer (some ⟨pr, 0, none⟩)))
  c2 : w.cell? ⟨r, 2, none⟩ = some (.int .u64 cur)
  c3 : w.cell? ⟨r, 3, none⟩ = some (.bool ini)
  c4 : w.cell? ⟨r, 4, none⟩ = some (.bool fok)
  c5 : w.cell? ⟨r, 5, none⟩ = some (.bool rok)
  f : ∀ j, j < 6 → w.frozen? ⟨r, j, none⟩ = false
section
variable {w : World} {r pf pr : Nat} {cur : Int} {ini fok rok : Bool}
theorem RP.lt (h : RP w r pf pr cur ini fok rok) : r < w.heap.size := World.block_lt_of_cell? _ _ h.c0
theorem RP.kept (h : RP w r pf pr cur ini fok rok) {w' : World} {P : Nat → Nat → Prop} (hk : Kept P w w') (hr : ∀ j, ¬ P r j) : RP w' r pf pr cur ini fok rok :=
  have c := fun j => hk.cell r j h.lt (hr j)
  ⟨(c 0).trans h.c0, (c 1).trans h.c1, (c 2).trans h.c2, (c 3).trans h.c3, (c 4).trans h.c4, (c 5).trans h.c5, fun j hj => (hk.fr _ _ h.lt).trans (h.f j hj)⟩
theorem RP.s2 (h : RP w r pf pr cur ini fok rok) (x : Int) : RP (w.setCell ⟨r, 2, none⟩ (.int .u64 x)) r pf pr x ini fok rok :=
  have c := fun j (hj : j ≠ 2) => World.cell?_setCell_other w ⟨r, 2, none⟩ ⟨r, j, none⟩ (.int .u64 x) (by first | (simp; done) | (simp; omega))
  ⟨(c 0 (by decide)).trans h.c0, (c 1 (by decide)).trans h.c1, World.cell?_setCell_same _ _ _ h.c2, (c 3 (by decide)).trans h.c3, (c 4 (by decide)).trans h.c4, (c 5 (by decide)).trans h.c5, fun j hj => by rw [World.frozen?_setCell]; exact h.f j hj⟩
theorem RP.s3 (h : RP w r pf pr cur ini fok rok) (x : Bool) : RP (w.setCell ⟨r, 3, none⟩ (.bool x)) r pf pr cur x fok rok :=
  have c := fun j (hj : j ≠ 3) => World.cell?_setCell_other w ⟨r, 3, none⟩ ⟨r, j, none⟩ (.bool x) (by first | (simp; done) | (simp; omega))
  ⟨(c 0 (by decide)).trans h.c0, (c 1 (by decide)).trans h.c1, (c 2 (by decide)).trans h.c2, World.cell?_setCell_same _ _ _ h.c3, (c 4 (by decide)).trans h.c4, (c 5 (by decide)).trans h.c5, fun j hj => by rw [World.frozen?_setCell]; exact h.f j hj⟩
theorem RP.s4 (h : RP w r pf pr cur ini fok rok) (x : Bool) : RP (w.setCell ⟨r, 4, none⟩ (.bool x)) r pf pr cur ini x rok :=
  have c := fun j (hj : j ≠ 4) => World.cell?_setCell_other w ⟨r, 4, none⟩ ⟨r, j, none⟩ (.bool x) (by first | (simp; done) | (simp; omega))
  ⟨(c 0 (by decide)).trans h.c0, (c 1 (by decide)).trans h.c1, (c 2 (by decide)).trans h.c2, (c 3 (by decide)).trans h.c3, World.cell?_setCell_same _ _ _ h.c4, (c 5 (by decide)).trans h.c5, fun j hj => by rw [World.frozen?_setCell]; exact h.f j hj⟩
theorem RP.s5 (h : RP w r pf pr cur ini fok rok) (x : Bool) : RP (w.setCell ⟨r, 5, none⟩ (.bool x)) r pf pr cur ini fok x :=
  have c := fun j (hj : j ≠ 5) => World.cell?_setCell_other w ⟨r, 5, none⟩ ⟨r, j, none⟩ (.bool x) (by first | (simp; done) | (simp; omega))
  ⟨(c 0 (by decide)).trans h.c0, (c 1 (by decide)).trans h.c1, (c 2 (by decide)).trans h.c2, (c 3 (by decide)).trans h.c3, (c 4 (by decide)).trans h.c4, World.cell?_setCell_same _ _ _ h.c5, fun j hj => by rw [World.frozen?_setCell]; exact h.f j hj⟩
end

/-- The blocks lie apart. -/
structure Far (r pf pr b1 b2 : Nat) : Prop where
  a : r ≠ pf ∧ r ≠ pr ∧ pf ≠ pr
  b : b1 ≠ r ∧ b1 ≠ pf ∧ b1 ≠ pr
  c : b2 ≠ r ∧ b2 ≠ pf ∧ b2 ≠ pr

theorem rpAt_any (w : World) (r pf pr : Nat) (cur : Int) (i f k : Bool) (h : RP w r pf pr cur i f k) : Calls Tryz.prog 274 #[.pointer (some ⟨r, 0, none⟩)] w fun e w' => e = .returned (.int .u64 cur) ∧ w = w' := by
  have hc := h.c2
  clear h
  go_enter Tryz.func274, Tryz.ntmps274
  go_wp2
  go_ret
  exact ⟨rfl, rfl⟩

set_option maxRecDepth 100000 in
theorem rpErr_any (w : World) (r pf pr : Nat) (cur : Int) (i f k : Bool) (h : RP w r pf pr cur i f k) : Calls Tryz.prog 275 #[.pointer (some ⟨r, 0, none⟩)] w fun e w' => e = .returned .nilIface ∧ w = w' := by
  have hc := h.c0
  have hc1 := h.c1
  clear h
  have m1 := m_err
  go_enter Tryz.func275, Tryz.ntmps275
  go_wp2_with fail
  (with_reducible refine (lpErr_any _ _).mono ?_)
  rintro e w1 ⟨rfl, rfl⟩
  go_wp2_with fail
  (with_reducible refine (lpErr_any _ _).mono ?_)
  rintro e w1 ⟨rfl, rfl⟩
  go_wp2_with fail
  go_ret
  exact ⟨rfl, rfl⟩

/-- All of it, and what has been touched since w0. -/
structure RS (w0 w : World) (r pf pr b1 b2 : Nat) (xf : List Nat) (cf : Int) (xr : List Nat) (cr cur : Int) (ini fok rok : Bool) : Prop where
  p : RP w r pf pr cur ini fok rok
  f : LP w pf b1 xf cf
  lr : LP w pr b2 xr cr
  k : Kept (fun k _ => k = r ∨ k = pf ∨ k = pr) w0 w
  a : Far r pf pr b1 b2
section
variable {w0 w : World} {r pf pr b1 b2 : Nat} {xf xr : List Nat} {cf cr cur : Int} {ini fok rok : Bool}
theorem RS.set (h : RS w0 w r pf pr b1 b2 xf cf xr cr cur ini fok rok) {i : Nat} {v : Value} {cur' : Int} {ini' fok' rok' : Bool} (hp : RP (w.setCell ⟨r, i, none⟩ v) r pf pr cur' ini' fok' rok') : RS w0 (w.setCell ⟨r, i, none⟩ v) r pf pr b1 b2 xf cf xr cr cur' ini' fok' rok' :=
  have hk := Kept.setCell (P := fun k _ => k = r) w r i v rfl
  ⟨hp, h.f.kept hk (fun _ e => h.a.a.1 e.symm) (fun _ e => h.a.b.1 e), h.lr.kept hk (fun _ e => h.a.a.2.1 e.symm) (fun _ e => h.a.c.1 e), h.k.trans hk (fun _ _ _ e => .inl e), h.a⟩
theorem RS.nf (h : RS w0 w r pf pr b1 b2 xf cf xr cr cur ini fok rok) {w' : World} {xf' : List Nat} {cf' : Int} (hl : LP w' pf b1 xf' cf') (hk : Kept (fun k _ => k = pf) w w') : RS w0 w' r pf pr b1 b2 xf' cf' xr cr cur ini fok rok :=
  ⟨h.p.kept hk (fun _ e => h.a.a.1 e), hl, h.lr.kept hk (fun _ e => h.a.a.2.2 e.symm) (fun _ e => h.a.c.2.1 e), h.k.trans hk (fun _ _ _ e => .inr (.inl e)), h.a⟩
theorem RS.nr (h : RS w0 w r pf pr b1 b2 xf cf xr cr cur ini fok rok) {w' : World} {xr' : List Nat} {cr' : Int} (hl : LP w' pr b2 xr' cr') (hk : Kept (fun k _ => k = pr) w w') : RS w0 w' r pf pr b1 b2 xf cf xr' cr' cur ini fok rok :=
  ⟨h.p.kept hk (fun _ e => h.a.a.2.1 e), h.f.kept hk (fun _ e => h.a.a.2.2 e) (fun _ e => h.a.b.2.2 e), hl, h.k.trans hk (fun _ _ _ e => .inr (.inr e)), h.a⟩
theorem RS.go (h : RS w0 w r pf pr b1 b2 xf cf xr cr cur ini fok rok) {w' : World} (hk : Kept (fun _ _ => False) w w') : RS w0 w' r pf pr b1 b2 xf cf xr cr cur ini fok rok :=
  ⟨h.p.kept hk (fun _ => id), h.f.kept hk (fun _ => id) (fun _ => id), h.lr.kept hk (fun _ => id) (fun _ => id), h.k.trans hk (fun _ _ _ e => e.elim), h.a⟩
end

set_option maxRecDepth 100000 in
set_option maxHeartbeats 2000000 in
theorem rpNext1_any (w0 w : World) (r pf pr b1 b2 : Nat) (h : RS w0 w r pf pr b1 b2 [1, 2] 0 [2] 0 0 false false false) :
    Calls Tryz.prog 276 #[.pointer (some ⟨r, 0, none⟩)] w fun e w' => e = .returned (.bool true) ∧ RS w0 w' r pf pr b1 b2 [] 2 [] 2 1 true true true := by
  have c0 := h.p.c0
  have c3 := h.p.c3
  have H := Lib.hid h
  clear h
  have m1 := m_next
  have m2 := m_at
  go_enter Tryz.func276, Tryz.ntmps276
  go_wp2_with fail
  (with_reducible refine (lpNext_cons w pf b1 1 [2] 0 H.out.f H.out.a.b.2.1 (by decide)).mono ?_)
  rintro e w1 ⟨rfl, hl, hk⟩
  have h1 := H.out.nf hl hk
  have c4 := h1.p.c4
  have g4 := h1.p.f 4 (by decide)
  have H2 := Lib.hid (h1.set (h1.p.s4 true))
  clear hk hl h1 c0 c3 H
  have c1 := H2.out.p.c1
  go_wp2_with fail
  (with_reducible refine (lpNext_cons _ pr b2 2 [] 0 H2.out.lr H2.out.a.c.2.2 (by decide)).mono ?_)
  rintro e w3 ⟨rfl, hl, hk⟩
  have h3 := H2.out.nr hl hk
  have c5 := h3.p.c5
  have g5 := h3.p.f 5 (by decide)
  have h4 := h3.set (h3.p.s5 true)
  have c3 := h4.p.c3
  have g3 := h4.p.f 3 (by decide)
  have H5 := Lib.hid (h4.set (h4.p.s3 true))
  clear hk hl h3 h4 c1 c4 g4 H2
  have c4 := H5.out.p.c4
  have c5' := H5.out.p.c5
  have c0 := H5.out.p.c0
  have c1 := H5.out.p.c1
  go_wp2_with fail
  refine wp_loop_rounds 1 ?_
  rw [rounds_succ]
  go_wp2_with fail
  go_region_with (first | (go_at_call 243; refine (lpAt_any _ pf b1 [2] 1 (H5.out.go (Kept.drew _ _)).f).mono ?_; rintro e w' ⟨rfl, rfl⟩) | (go_at_call 243; refine (lpAt_any _ pr b2 [] 2 (H5.out.go (Kept.drew _ _)).lr).mono ?_; rintro e w' ⟨rfl, rfl⟩))
  all_goals
    obtain ⟨wd, hwd⟩ : ∃ wd, wd = World.drew ((w3.setCell ⟨r, 5, none⟩ (.bool true)).setCell ⟨r, 3, none⟩ (.bool true)) := ⟨_, rfl⟩
    rw [← hwd]
    have H6 : Hid (RS w0 wd r pf pr b1 b2 [2] 1 [] 2 0 true true true) := Lib.hid (by rw [hwd]; exact H5.out.go (Kept.drew _ _))
    clear hwd
    have c2 := H6.out.p.c2
    have g2 := H6.out.p.f 2 (by decide)
    have H7 := Lib.hid (H6.out.set (H6.out.p.s2 1))
    have c0' := H7.out.p.c0
    clear H5 c0 c1 c3 g3 c4 c5 g5 c5'
    go_wp2_with fail
    (with_reducible refine (lpNext_cons _ pf b1 2 [] 1 H7.out.f H7.out.a.b.2.1 (by decide)).mono ?_)
    rintro e w5 ⟨rfl, hl, hk⟩
    have h8 := H7.out.nf hl hk
    have c4 := h8.p.c4
    have g4 := h8.p.f 4 (by decide)
    have H9 := Lib.hid (h8.set (h8.p.s4 true))
    clear hk hl h8 H6 H7 c2 g2
    go_wp2_with fail
    go_ret
    exact ⟨rfl, H9.out⟩

end Go.Proofs.YtfipfoplmopkaaaGreatDoor
