/- Postings without others: the second Next(276), ExpandPostings(71), expanded(30). Condition: the structs in memory. Postings without others: ExpandPostings(71), expanded(30). Condition: the structs in memory. A set without another: Without(79), postings(31) of a list and of the set 1, 2 without 2. Condition: the rows in memory. impl.safe(19) at two closures; Expand's closure(29) at the set 1, 2 without 2. Condition: the rows in memory. -/
import Derived.Test.YtfipfoplmopkaaaGreatDoorZ10
import Derived.Recover

namespace Go.Proofs.YtfipfoplmopkaaaGreatDoor
open Go.RowKit

set_option maxRecDepth 100000 in
set_option maxHeartbeats 2000000 in
theorem rpNext2_any (w0 w : World) (r pf pr b1 b2 : Nat) (h : RS w0 w r pf pr b1 b2 [] 2 [] 2 1 true true true) :
    Calls Tryz.prog 276 #[.pointer (some ⟨r, 0, none⟩)] w fun e w' => e = .returned (.bool false) ∧ RS w0 w' r pf pr b1 b2 [] 0 [] 2 1 true false true := by
  have c0 := h.p.c0
  have c1 := h.p.c1
  have c3 := h.p.c3
  have c4 := h.p.c4
  have c5 := h.p.c5
  have H5 := Lib.hid h
  clear h
  have m1 := m_next
  have m2 := m_at
  go_enter Tryz.func276, Tryz.ntmps276
  go_wp2_with fail
  refine wp_loop_rounds 2 ?_
  rw [rounds_succ]
  go_wp2_with fail
  go_region_with (first | (go_at_call 243; refine (lpAt_any _ pf b1 [] 2 (H5.out.go (Kept.drew _ _)).f).mono ?_; rintro e w' ⟨rfl, rfl⟩) | (go_at_call 243; refine (lpAt_any _ pr b2 [] 2 (H5.out.go (Kept.drew _ _)).lr).mono ?_; rintro e w' ⟨rfl, rfl⟩))
  all_goals
    obtain ⟨wd, hwd⟩ : ∃ wd, wd = World.drew w := ⟨_, rfl⟩
    rw [← hwd]
    have H6 : Hid (RS w0 wd r pf pr b1 b2 [] 2 [] 2 1 true true true) := Lib.hid (by rw [hwd]; exact H5.out.go (Kept.drew _ _))
    clear hwd
    have c0' := H6.out.p.c0
    clear H5 c0 c1 c3 c4 c5
    go_wp2_with fail
    (with_reducible refine (lpNext_nil _ pf b1 2 H6.out.f).mono ?_)
    rintro e w5 ⟨rfl, hl, hk⟩
    have h8 := H6.out.nf hl hk
    have c4 := h8.p.c4
    have g4 := h8.p.f 4 (by decide)
    have h9 := h8.set (h8.p.s4 false)
    have H9 := Lib.hid h9
    have c4' := h9.p.c4
    clear hk hl h8 H6 h9 c0'
    go_wp2_with fail
    rw [rounds_succ]
    go_wp2_with fail
    go_ret
    exact ⟨rfl, H9.out⟩

end Go.Proofs.YtfipfoplmopkaaaGreatDoor

namespace Go.Proofs.YtfipfoplmopkaaaGreatDoor
open Go.RowKit

theorem LP.lt {w : World} {p b : Nat} {xs : List Nat} {cur : Int} (h : LP w p b xs cur) : p < w.heap.size := World.block_lt_of_cell? _ _ h.cur

set_option maxRecDepth 100000 in
set_option maxHeartbeats 2000000 in
theorem expand_any (w : World) (r pf pr b1 b2 : Nat) (h : RS w w r pf pr b1 b2 [1, 2] 0 [2] 0 0 false false false) :
    Calls Tryz.prog 71 #[.iface 190 (.pointer (some ⟨r, 0, none⟩))] w fun e w' => ∃ g c, e = .returned (.tuple #[.slice (some ⟨g, 0, none⟩) 1 c, .nilIface]) ∧ 1 ≤ c ∧ RowN w' g 0 [1] ∧ g < w'.heap.size ∧ Kept (fun k _ => k = r ∨ k = pf ∨ k = pr) w w' := by
  obtain ⟨i71, hi, hz0, hz1, hz2⟩ := info_parts info71
  have H := Lib.hid h
  clear h
  have m1 := n_next
  have m2 := n_at
  have m3 := n_err
  go_enter Tryz.func71, Tryz.ntmps71
  go_wp2_with fail
  refine wp_loop_rounds 2 ?_
  rw [rounds_succ]
  go_wp2_with fail
  (with_reducible refine (rpNext1_any w w r pf pr b1 b2 H.out).mono ?_)
  rintro e w1 ⟨rfl, hs⟩
  have H1 := Lib.hid hs
  clear hs
  go_wp2_with fail
  (with_reducible refine (rpAt_any w1 r pf pr 1 true true true H1.out.p).mono ?_)
  rintro e w2 ⟨rfl, rfl⟩
  go_wp2_with (at_builtin; refine wpList_app _ rfl _ _ 139 rfl 71 i71 (.int .u64 0) 1 8 Tryz.underlying139 hi hz0 hz1 hz2 rfl (by decide) (.slice none 0 0) 0 [] rfl (World.ownsRow_nil _ _ _ _) (some ⟨w1.heap.size, 0, none⟩) 1 1 [.int .u64 1] rfl rfl (fun e => by cases e) (one_newN _ _ _) (by intro u hu; simp at hu; subst hu; rfl) (by unfold maxLen; omega) (by omega) ?_)
  intro v' w3 ha
  obtain ⟨ao', c', rfl⟩ := own_slice ha.own
  have ho := ha.own
  have hk : Kept (fun _ _ => False) w1 w3 := (Kept.alloc _ w1 _).trans (ha.kept (World.ownsRow_nil _ _ _ _)) (fun k _ _ e => by cases e)
  have H3 := Lib.hid (H1.out.go hk)
  have hcap : 1 ≤ c' := by
    rcases ho.2 with ⟨_, h0⟩ | ⟨g, cap, cur, he, _, _, hle, _⟩
    · simp at h0
    · cases he; simpa using hle
  obtain ⟨g, cap, he, _, hglt⟩ := ho.form (by simp)
  cases he
  have hg : w1.heap.size ≤ g := by
    rcases ha.mv with h | ⟨g', h1, h2⟩
    · cases h
    · cases h1; simp only [World.size_alloc] at h2; omega
  have hrow : RowN w3 g 0 [1] := fun j hj => by
    match j, hj with
    | 0, _ =>
      have := ho.cells rfl 0 (.int .u64 1) (by simp)
      rwa [Addr.add_lit, Nat.zero_add] at this
  have FIN := Lib.hid (And.intro hcap (And.intro hg (And.intro hglt hrow)))
  clear ha ho hk hcap hg hglt hrow
  go_wp2_with fail
  rw [rounds_succ]
  go_wp2_with fail
  (with_reducible refine (rpNext2_any w3 w3 r pf pr b1 b2 ⟨H3.out.p, H3.out.f, H3.out.lr, Kept.refl _ _, H3.out.a⟩).mono ?_)
  rintro e w4 ⟨rfl, hs⟩
  have H4 := Lib.hid hs
  clear hs
  go_wp2_with fail
  (with_reducible refine (rpErr_any w4 r pf pr 1 true false true H4.out.p).mono ?_)
  rintro e w5 ⟨rfl, rfl⟩
  go_wp2_with fail
  go_ret2
  obtain ⟨f1, f2, f3, f4⟩ := FIN.out
  have l1 := H1.out.p.lt
  have l2 := H1.out.f.lt
  have l3 := H1.out.lr.lt
  exact ⟨g, _, rfl, f1, f4.kept H4.out.k (fun _ e => by omega) f3, Nat.lt_of_lt_of_le f3 H4.out.k.size, H3.out.k.trans H4.out.k (fun _ _ _ e => e)⟩

set_option maxRecDepth 100000 in
set_option maxHeartbeats 2000000 in
theorem expanded_any (w : World) (r pf pr b1 b2 : Nat) (h : RS w w r pf pr b1 b2 [1, 2] 0 [2] 0 0 false false false) :
    Calls Tryz.prog 30 #[.iface 190 (.pointer (some ⟨r, 0, none⟩))] w fun e w' => ∃ g c, e = .returned (.tuple #[.slice (some ⟨g, 0, none⟩) 1 c, .bool true]) ∧ w'.cell? ⟨g, 0, none⟩ = some (.int .u64 1) ∧ Kept (fun k _ => k = r ∨ k = pf ∨ k = pr) w w' := by
  have H := Lib.hid h
  clear h
  go_enter Tryz.func30, Tryz.ntmps30
  go_wp2_with fail
  (with_reducible refine (expand_any w r pf pr b1 b2 H.out).mono ?_)
  rintro e w1 ⟨g, c, rfl, hc, hr, hg, hk⟩
  have HU := Lib.hid (unrefs_any g 0 c 1 [1] rfl (by decide) (by decide) w1 hr hg)
  have HK := Lib.hid hk
  clear hc hr hg hk
  go_wp2_with fail
  (with_reducible refine HU.out.mono ?_)
  rintro e w2 ⟨g2, c2, rfl, hc, h1, h2, hr, hk⟩
  have F : Hid (w2.cell? ⟨g2, 0, none⟩ = some (.int .u64 1) ∧ Kept (fun k _ => k = r ∨ k = pf ∨ k = pr) w w2) := Lib.hid ⟨hr 0 (by decide), HK.out.trans hk (fun _ _ _ e => e.elim)⟩
  clear hc h1 h2 hr hk
  go_wp2_with fail
  go_ret2
  exact ⟨g2, c2, rfl, F.out.1, F.out.2⟩

end Go.Proofs.YtfipfoplmopkaaaGreatDoor

namespace Go.Proofs.YtfipfoplmopkaaaGreatDoor
open Go.RowKit

theorem eql_lp (a : Addr) (w : World) : (binOp BinOp.eql 82 (.iface 180 (.pointer (some a))) (.iface 183 (.agg #[.nilIface]))).run Tryz.prog w = .ok (.bool false) w := by kernel_rfl

set_option maxRecDepth 100000 in
set_option maxHeartbeats 2000000 in
theorem without_any (w : World) (pf pr : Nat) : Calls Tryz.prog 79 #[.iface 180 (.pointer (some ⟨pf, 0, none⟩)), .iface 180 (.pointer (some ⟨pr, 0, none⟩))] w fun e w' =>
    e = .returned (.iface 190 (.pointer (some ⟨w.heap.size, 0, none⟩))) ∧ w' = w.alloc (.cells #[.iface 180 (.pointer (some ⟨pf, 0, none⟩)), .iface 180 (.pointer (some ⟨pr, 0, none⟩)), .int .u64 0, .bool false, .bool false, .bool false] 244) := by
  have e1 := eql_lp
  go_enter Tryz.func79, Tryz.ntmps79
  go_wp2
  go_ret
  exact ⟨rfl, rfl⟩

set_option maxRecDepth 100000 in
set_option maxHeartbeats 2000000 in
theorem set0_any (w : World) (b n c : Nat) (xs : List Nat) (hn : n = xs.length) (hn0 : 0 < n) (hn9 : n < 1000) (hr : RowN w b 0 xs) (hb : b < w.heap.size) :
    Calls Tryz.prog 31 #[.agg #[.int .i64 0, .slice (some ⟨b, 0, none⟩) n c, .slice none 0 0]] w fun e w' => ∃ p g, e = .returned (.iface 180 (.pointer (some ⟨p, 0, none⟩))) ∧ LP w' p g xs 0 ∧ p < w'.heap.size ∧ w.heap.size ≤ g ∧ g < p ∧ Kept (fun _ _ => False) w w' := by
  have hr1 := hr.kept (Kept.alloc (fun _ _ => False) w (.cells #[.int .i64 0, .slice (some ⟨b, 0, none⟩) n c, .slice none 0 0] 48)) (fun _ => id) hb
  have HU := Lib.hid (refs_any b 0 c n xs hn hn0 hn9 _ hr1 (by rw [World.size_alloc]; omega))
  have HN := Lib.hid hn
  clear hn hr hb hr1
  go_enter Tryz.func31, Tryz.ntmps31
  go_wp2_with fail
  refine wp_loop_rounds 1 ?_
  rw [rounds_succ]
  go_wp2_with fail
  (with_reducible refine HU.out.mono ?_)
  rintro e w1 ⟨g, c', rfl, hc, hg, hgl, hr, hk⟩
  have hk1 : Kept (fun _ _ => False) w w1 := (Kept.alloc _ _ _).trans hk (fun _ _ _ => id)
  have HL := Lib.hid (newList_any w1 g n c' xs HN.out hc hr hgl)
  have HG := Lib.hid hg
  have HGL := Lib.hid hgl
  have HK := Lib.hid hk1
  clear hc hg hgl hr hk hk1 HU
  go_wp2_with fail
  (with_reducible refine HL.out.mono ?_)
  rintro e w2 ⟨p, rfl, hl, hp, hpl, hk⟩
  have F : Hid (LP w2 p g xs 0 ∧ p < w2.heap.size ∧ w.heap.size ≤ g ∧ g < p ∧ Kept (fun _ _ => False) w w2) := Lib.hid ⟨hl, hpl, by have := HG.out; rw [World.size_alloc] at this; omega, Nat.lt_of_lt_of_le HGL.out hp, HK.out.trans hk (fun _ _ _ => id)⟩
  clear hl hp hpl hk
  go_wp2_with fail
  go_ret
  exact ⟨p, g, rfl, F.out⟩

theorem info82 : (Tryz.prog.info? 82).map (fun i => (i.zero, i.size, i.bytes)) = some (some .nilIface, 1, 16) := by kernel_rfl
theorem und143 : Tryz.prog.underlying 143 = some (.slice 82) := by kernel_rfl

theorem rs_new (w : World) (pf pr b1 b2 : Nat) (hf : LP w pf b1 [1, 2] 0) (hr : LP w pr b2 [2] 0) (l1 : b1 < pf) (l2 : pf < b2) (l3 : b2 < pr) (l4 : pr < w.heap.size) :
    RS (w.alloc (.cells #[.iface 180 (.pointer (some ⟨pf, 0, none⟩)), .iface 180 (.pointer (some ⟨pr, 0, none⟩)), .int .u64 0, .bool false, .bool false, .bool false] 244)).drew (w.alloc (.cells #[.iface 180 (.pointer (some ⟨pf, 0, none⟩)), .iface 180 (.pointer (some ⟨pr, 0, none⟩)), .int .u64 0, .bool false, .bool false, .bool false] 244)).drew w.heap.size pf pr b1 b2 [1, 2] 0 [2] 0 0 false false false := by
  have k : Kept (fun _ _ => False) w (w.alloc (.cells #[.iface 180 (.pointer (some ⟨pf, 0, none⟩)), .iface 180 (.pointer (some ⟨pr, 0, none⟩)), .int .u64 0, .bool false, .bool false, .bool false] 244)).drew := (Kept.alloc _ _ _).trans (Kept.drew _ _) (fun _ _ _ => id)
  have c : ∀ j, (w.alloc (.cells #[.iface 180 (.pointer (some ⟨pf, 0, none⟩)), .iface 180 (.pointer (some ⟨pr, 0, none⟩)), .int .u64 0, .bool false, .bool false, .bool false] 244)).drew.cell? ⟨w.heap.size, j, none⟩ = #[Value.iface 180 (.pointer (some ⟨pf, 0, none⟩)), .iface 180 (.pointer (some ⟨pr, 0, none⟩)), .int .u64 0, .bool false, .bool false, .bool false][j]? := fun j => by
    show World.cell? (World.alloc _ _) _ = _
    rw [World.cell?_alloc_new]
  refine ⟨⟨c 0, c 1, c 2, c 3, c 4, c 5, fun j _ => ?_⟩, hf.kept k (fun _ => id) (fun _ => id), hr.kept k (fun _ => id) (fun _ => id), Kept.refl _ _, ⟨by omega, by omega, by omega⟩⟩
  show World.frozen? (World.alloc _ _) _ = false
  simp

set_option maxRecDepth 100000 in
set_option maxHeartbeats 4000000 in
theorem set4_any (w : World) (sb l1 l2 k1 k2 : Nat) (h0 : w.cell? ⟨sb, 0, none⟩ = some (.int .i64 0)) (h1 : w.cell? ⟨sb, 1, none⟩ = some (.slice (some ⟨l1, 0, none⟩) 2 k1)) (h2 : w.cell? ⟨sb, 2, none⟩ = some (.slice none 0 0)) (h3 : w.cell? ⟨sb, 3, none⟩ = some (.int .i64 0)) (h4 : w.cell? ⟨sb, 4, none⟩ = some (.slice (some ⟨l2, 0, none⟩) 1 k2)) (h5 : w.cell? ⟨sb, 5, none⟩ = some (.slice none 0 0))
    (r1 : RowN w l1 0 [1, 2]) (r2 : RowN w l2 0 [2]) :
    Calls Tryz.prog 31 #[.agg #[.int .i64 4, .slice none 0 0, .slice (some ⟨sb, 0, none⟩) 2 2]] w fun e w' => ∃ r pf pr b1 b2, e = .returned (.iface 190 (.pointer (some ⟨r, 0, none⟩))) ∧ RS w' w' r pf pr b1 b2 [1, 2] 0 [2] 0 0 false false false ∧ w.heap.size ≤ r ∧ w.heap.size ≤ pf ∧ w.heap.size ≤ pr ∧ Kept (fun _ _ => False) w w' := by
  obtain ⟨i82, hi, hz0, hz1, hz2⟩ := info_parts info82
  have hsb := World.block_lt_of_cell? _ _ h0
  have HR1 := Lib.hid r1
  have HR2 := Lib.hid r2
  clear r1 r2
  go_enter Tryz.func31, Tryz.ntmps31
  go_wp2_with fail
  refine wp_loop_rounds 3 ?_
  rw [rounds_succ]
  have k0 : Kept (fun _ _ => False) w ((w.alloc (.cells #[.int .i64 4, .slice none 0 0, .slice (some ⟨sb, 0, none⟩) 2 2] 48)).alloc (.cells #[.int .i64 0, .slice (some ⟨l1, 0, none⟩) 2 k1, .slice none 0 0] 48)) := (Kept.alloc _ _ _).trans (Kept.alloc _ _ _) (fun _ _ _ => id)
  have hl1 : l1 < w.heap.size := World.block_lt_of_cell? _ _ (HR1.out 0 (by decide))
  have HS1 := Lib.hid (set0_any _ l1 2 k1 [1, 2] rfl (by decide) (by decide) (HR1.out.kept k0 (fun _ => id) hl1) (Nat.lt_of_lt_of_le hl1 k0.size))
  have K0 := Lib.hid k0
  clear k0 hl1
  go_wp2_with fail
  (with_reducible refine HS1.out.mono ?_)
  rintro e w1 ⟨pf, b1, rfl, hl, hp, hg, hgp, hk⟩
  have kk := K0.out.trans hk (fun _ _ _ => id)
  have cc := fun j => kk.cell sb j hsb id
  have g3 := (cc 3).trans h3
  have g4 := (cc 4).trans h4
  have g5 := (cc 5).trans h5
  have hgw : w.heap.size ≤ b1 := by simp only [World.size_alloc] at hg; omega
  have HW1 := Lib.hid (And.intro hl (And.intro hp (And.intro hgw (And.intro hgp kk))))
  have c2 : w1.cell? ⟨w.heap.size, 2, none⟩ = some (.slice (some ⟨sb, 0, none⟩) 2 2) := (hk.cell _ 2 (by simp only [World.size_alloc]; omega) id).trans (by rw [World.cell?_alloc_lt _ _ _ (by simp only [World.size_alloc]; omega), World.cell?_alloc_new]; rfl)
  have c0 : w1.cell? ⟨w.heap.size, 0, none⟩ = some (.int .i64 4) := (hk.cell _ 0 (by simp only [World.size_alloc]; omega) id).trans (by rw [World.cell?_alloc_lt _ _ _ (by simp only [World.size_alloc]; omega), World.cell?_alloc_new]; rfl)
  have hs1 : w.heap.size < w1.heap.size := by have := hk.size; simp only [World.size_alloc] at this; omega
  have hsb1 : sb < w1.heap.size := by omega
  clear hl hp hg hgp hk kk cc hgw HS1 h0 h1 h2 h3 h4 h5 K0
  go_wp2_with (at_builtin; refine wpList_app _ rfl _ _ 143 rfl 82 i82 .nilIface 1 16 und143 hi hz0 hz1 hz2 rfl (by decide) (.slice none 0 0) 0 [] rfl (World.ownsRow_nil _ _ _ _) (some ⟨w1.heap.size, 0, none⟩) 1 1 [.iface 180 (.pointer (some ⟨pf, 0, none⟩))] rfl rfl (fun e => by cases e) (one_newN _ _ _) (by intro u hu; simp at hu; subst hu; rfl) (by unfold maxLen; omega) (by omega) ?_)
  intro v' w3 ha
  obtain ⟨ao', c', rfl⟩ := own_slice ha.own
  have kq : Kept (fun _ _ => False) w1 w3 := (Kept.alloc _ w1 _).trans (ha.kept (World.ownsRow_nil _ _ _ _)) (fun k _ _ e => by cases e)
  have hgo : ∀ k, (Value.slice ao' (0 + 1) c').ownBlock = some k → w1.heap.size ≤ k := fun k e => by
    rcases ha.mv with h | ⟨g', q1, q2⟩
    · rw [show (Value.slice none 0 0).ownBlock = none from rfl] at h; exact absurd (h.symm.trans e) (by simp)
    · rw [show (Value.slice ao' (0 + 1) c').ownBlock = some g' from q1] at e; cases e; simp only [World.size_alloc] at q2; omega
  have HGO := Lib.hid hgo
  have HO := Lib.hid ha.own
  have c0' := (kq.cell _ 0 hs1 id).trans c0
  have c2' := (kq.cell _ 2 hs1 id).trans c2
  have g3' := (kq.cell _ 3 hsb1 id).trans g3
  have g4' := (kq.cell _ 4 hsb1 id).trans g4
  have g5' := (kq.cell _ 5 hsb1 id).trans g5
  have hs3 : w.heap.size < w3.heap.size := Nat.lt_of_lt_of_le hs1 kq.size
  have hsb3 : sb < w3.heap.size := Nat.lt_of_lt_of_le hsb1 kq.size
  have hz3 := Lib.hid kq.size
  have HW3 : Hid (LP w3 pf b1 [1, 2] 0 ∧ pf < w1.heap.size ∧ w.heap.size ≤ b1 ∧ b1 < pf ∧ Kept (fun _ _ => False) w w3) := Lib.hid ⟨HW1.out.1.kept kq (fun _ => id) (fun _ => id), HW1.out.2.1, HW1.out.2.2.1, HW1.out.2.2.2.1, HW1.out.2.2.2.2.trans kq (fun _ _ _ => id)⟩
  have hl2 : l2 < w.heap.size := World.block_lt_of_cell? _ _ (HR2.out 0 (by decide))
  have kz : Kept (fun _ _ => False) w (w3.alloc (.cells #[.int .i64 0, .slice (some ⟨l2, 0, none⟩) 1 k2, .slice none 0 0] 48)) := HW3.out.2.2.2.2.trans (Kept.alloc _ _ _) (fun _ _ _ => id)
  have HS2 := Lib.hid (set0_any _ l2 1 k2 [2] rfl (by decide) (by decide) (HR2.out.kept kz (fun _ => id) hl2) (Nat.lt_of_lt_of_le hl2 kz.size))
  clear ha kq hgo c0 c2 g3 g4 g5 hs1 hsb1 hsb kz hl2 HW1
  go_wp2_with fail
  rw [rounds_succ]
  go_wp2_with fail
  (with_reducible refine HS2.out.mono ?_)
  rintro e w4 ⟨pr, b2, rfl, hl, hp, hg, hgp, hk⟩
  have kk : Kept (fun _ _ => False) w3 w4 := (Kept.alloc _ w3 _).trans hk (fun _ _ _ => id)
  have c0 := (kk.cell _ 0 hs3 id).trans c0'
  have c2 := (kk.cell _ 2 hs3 id).trans c2'
  have hs4 : w.heap.size < w4.heap.size := Nat.lt_of_lt_of_le hs3 kk.size
  have hgw : w3.heap.size ≤ b2 := by simp only [World.size_alloc] at hg; omega
  have HW4 := Lib.hid (And.intro hl (And.intro hp (And.intro hgw (And.intro hgp kk))))
  have HROW : Hid (∀ o1 : Obj, (w4.alloc o1).ownsRow 0 82 1 (.slice ao' (0 + 1) c') (0 + 1) ([] ++ [.iface 180 (.pointer (some ⟨pf, 0, none⟩))])) := Lib.hid (fun o1 => by
    have z1 := ownsRow_block (w' := w4) HO.out (fun k e => kk.block k (HO.out.lt k e).2 (fun _ => id))
    exact ownsRow_block (w' := w4.alloc o1) z1 (fun k e => heap_alloc_old _ _ (z1.lt k e).2))
  clear hl hp hg hgp hk kk hgw HS2 c0' c2' g3' g4' g5' hs3 hsb3
  go_wp2_with (at_builtin; refine wpList_app _ rfl _ _ 143 rfl 82 i82 .nilIface 1 16 und143 hi hz0 hz1 hz2 rfl (by decide) (.slice ao' (0 + 1) c') (0 + 1) [.iface 180 (.pointer (some ⟨pf, 0, none⟩))] rfl (HROW.out _) (some ⟨w4.heap.size, 0, none⟩) 1 1 [.iface 180 (.pointer (some ⟨pr, 0, none⟩))] rfl rfl (fun e => by cases e) (one_newN _ _ _) (by intro u hu; simp at hu; subst hu; rfl) (by unfold maxLen; omega) (by omega) ?_)
  intro v' w5 ha
  obtain ⟨ao2, c5, rfl⟩ := own_slice ha.own
  have hlt3 : ∀ k, (Value.slice ao' 1 c').ownBlock = some k → w1.heap.size ≤ k ∧ k < w3.heap.size := fun k e => ⟨HGO.out k e, (HO.out.lt k e).2⟩
  obtain ⟨q1, q2, q3, q4, q5⟩ := HW4.out
  obtain ⟨s1, s2, s3, s4, s5⟩ := HW3.out
  have z3 := hz3.out
  have kq : Kept (fun k _ => (Value.slice ao' 1 c').ownBlock = some k) w4 w5 := (Kept.alloc _ w4 _).trans (ha.kept (HROW.out _)) (fun k _ _ e => e)
  have c0' := (kq.cell w.heap.size 0 hs4 (fun e => by have := hlt3 _ e; have := s2; omega)).trans c0
  have c2' := (kq.cell w.heap.size 2 hs4 (fun e => by have := hlt3 _ e; have := s2; omega)).trans c2
  have ho := ha.own
  obtain ⟨g, cap, he, _, hglt⟩ := ho.form (by simp)
  cases he
  have d0 : w5.cell? ⟨g, 0, none⟩ = some (.iface 180 (.pointer (some ⟨pf, 0, none⟩))) := by
    have := ho.cells rfl 0 (.iface 180 (.pointer (some ⟨pf, 0, none⟩))) (by simp)
    rwa [Addr.add_lit, Nat.zero_add] at this
  have d1 : w5.cell? ⟨g, 1, none⟩ = some (.iface 180 (.pointer (some ⟨pr, 0, none⟩))) := by
    have := ho.cells rfl 1 (.iface 180 (.pointer (some ⟨pr, 0, none⟩))) (by simp)
    rwa [Addr.add_lit, Nat.zero_add] at this
  have hs5 := kq.size
  have kfin : Kept (fun _ _ => False) w w5 := (s5.trans q5 (fun _ _ _ => id)).trans kq (fun k _ hlt e => by have := hlt3 _ e; omega)
  have FIN : Hid (LP w5 pf b1 [1, 2] 0 ∧ LP w5 pr b2 [2] 0 ∧ w.heap.size ≤ b1 ∧ b1 < pf ∧ pf < b2 ∧ b2 < pr ∧ pr < w5.heap.size ∧ Kept (fun _ _ => False) w w5) := Lib.hid
    ⟨(s1.kept q5 (fun _ => id) (fun _ => id)).kept kq (fun _ e => by have := hlt3 _ e; omega) (fun _ e => by have := hlt3 _ e; omega), q1.kept kq (fun _ e => by have := hlt3 _ e; omega) (fun _ e => by have := hlt3 _ e; omega), s3, s4, by omega, q4, by omega, kfin⟩
  clear ha hlt3 q1 q2 q3 q4 q5 s1 s2 s3 s4 s5 z3 kq c0 c2 ho hs5 kfin hs4 HW4 HW3 hz3 HO HROW HGO
  go_wp2_with fail
  rw [rounds_succ]
  go_wp2_with fail
  go_region_with (go_at_call 79; refine (without_any _ pf pr).mono ?_; rintro e w' ⟨rfl, rfl⟩)
  all_goals
    go_wp2_with fail
    go_ret
    obtain ⟨f1, f2, f3, f4, f5, f6, f7, f8⟩ := FIN.out
    exact ⟨w5.heap.size, pf, pr, b1, b2, rfl, rs_new w5 pf pr b1 b2 f1 f2 f4 f5 f6 f7, f8.size, by omega, by omega, (f8.trans (Kept.alloc _ _ _) (fun _ _ _ => id)).trans (Kept.drew _ _) (fun _ _ _ => id)⟩

end Go.Proofs.YtfipfoplmopkaaaGreatDoor

namespace Go.Proofs.YtfipfoplmopkaaaGreatDoor
open Go.RowKit

theorem catch_idle2 (b : Nat) (w : World) (v : Value) (hc : w.cell? ⟨b, 0, none⟩ = some v) (hz : w.frozen? ⟨b, 0, none⟩ = false) :
    CallsD Tryz.prog 50 #[.pointer (some ⟨b, 0, none⟩)] .returning w fun e u' w' => e = .returned (.tuple #[]) ∧ u' = .returning ∧ w' = w.setCell ⟨b, 0, none⟩ (.bool true) := by
  refine callsD_of_wpS Tryz.func50 rfl fun c₀ cs hu => ?_
  apply wpS_region
  have hnil : ∀ w : World, (binOp BinOp.eql 20 .nilIface .nilIface).run Tryz.prog w = .ok (.bool true) w := fun _ => by kernel_rfl
  simp [wpOpsS, go_sem, recoverD, hu, Tryz.ntmps50, hnil, hc, hz]
  have hr : Tryz.f50.results = #[] := by kernel_rfl
  cases c₀
  simp_all [bodyPostS, results]

set_option maxRecDepth 100000 in
set_option maxHeartbeats 1000000 in
theorem safe29 (caps : Array Value) (w : World) (Q : World → Prop) (h : Calls Tryz.prog 29 caps (w.alloc (.cells #[.bool false] 4)) (fun e w' => e = .returned (.tuple #[]) ∧ Q w'))
    (hQ : ∀ w', Q w' → (∃ v, w'.cell? ⟨w.heap.size, 0, none⟩ = some v) ∧ w'.frozen? ⟨w.heap.size, 0, none⟩ = false) :
    Calls Tryz.prog 19 #[.func (.func 29) #[] caps] w fun e w' => e = .returned (.bool true) ∧ ∃ w1, Q w1 ∧ w' = (w1.setCell ⟨w.heap.size, 0, none⟩ (.bool true)).setCell ⟨w.heap.size, 0, none⟩ (.bool true) := by
  have hmf : ∀ (fn : Fn) (first cap : Array Value) (w : World), (Instr.makeFunc fn first cap).run Tryz.prog w = .ok (.func fn first cap) w := fun _ _ _ _ => rfl
  have H := Lib.hid h
  have HQ := Lib.hid hQ
  clear h hQ
  go_enter_defers Tryz.func19, Tryz.ntmps19
  go_wp2_with fail
  (with_reducible refine H.out.mono ?_)
  rintro e w1 ⟨rfl, hq⟩
  obtain ⟨⟨v, hv⟩, hf⟩ := HQ.out w1 hq
  have Q1 := Lib.hid hq
  clear hq
  go_wp2_with fail
  refine leaves_cons (f := 50) (args := #[.pointer (some ⟨w.heap.size, 0, none⟩)]) (by simp) (by simp [go_sem]) ?_
  refine (catch_idle2 w.heap.size _ (.bool true) (World.cell?_setCell_same _ _ _ hv) (by rw [World.frozen?_setCell]; exact hf)).mono ?_
  rintro e u' w2 ⟨rfl, rfl, rfl⟩
  have hres : Tryz.f19.results = #[.cell 2 4] := by kernel_rfl
  have hc2 := World.cell?_setCell_same (w1.setCell ⟨w.heap.size, 0, none⟩ (.bool true)) ⟨w.heap.size, 0, none⟩ (.bool true) (World.cell?_setCell_same _ _ (.bool true) hv)
  refine ⟨.bool true, ?_, rfl, w1, Q1.out, rfl⟩
  simp only [results, hres]
  go_simp

set_option maxRecDepth 100000 in
set_option maxHeartbeats 1000000 in
theorem safe32 (caps : Array Value) (w : World) (Q : World → Prop) (h : Calls Tryz.prog 32 caps (w.alloc (.cells #[.bool false] 4)) (fun e w' => e = .returned (.tuple #[]) ∧ Q w'))
    (hQ : ∀ w', Q w' → (∃ v, w'.cell? ⟨w.heap.size, 0, none⟩ = some v) ∧ w'.frozen? ⟨w.heap.size, 0, none⟩ = false) :
    Calls Tryz.prog 19 #[.func (.func 32) #[] caps] w fun e w' => e = .returned (.bool true) ∧ ∃ w1, Q w1 ∧ w' = (w1.setCell ⟨w.heap.size, 0, none⟩ (.bool true)).setCell ⟨w.heap.size, 0, none⟩ (.bool true) := by
  have hmf : ∀ (fn : Fn) (first cap : Array Value) (w : World), (Instr.makeFunc fn first cap).run Tryz.prog w = .ok (.func fn first cap) w := fun _ _ _ _ => rfl
  have H := Lib.hid h
  have HQ := Lib.hid hQ
  clear h hQ
  go_enter_defers Tryz.func19, Tryz.ntmps19
  go_wp2_with fail
  (with_reducible refine H.out.mono ?_)
  rintro e w1 ⟨rfl, hq⟩
  obtain ⟨⟨v, hv⟩, hf⟩ := HQ.out w1 hq
  have Q1 := Lib.hid hq
  clear hq
  go_wp2_with fail
  refine leaves_cons (f := 50) (args := #[.pointer (some ⟨w.heap.size, 0, none⟩)]) (by simp) (by simp [go_sem]) ?_
  refine (catch_idle2 w.heap.size _ (.bool true) (World.cell?_setCell_same _ _ _ hv) (by rw [World.frozen?_setCell]; exact hf)).mono ?_
  rintro e u' w2 ⟨rfl, rfl, rfl⟩
  have hres : Tryz.f19.results = #[.cell 2 4] := by kernel_rfl
  have hc2 := World.cell?_setCell_same (w1.setCell ⟨w.heap.size, 0, none⟩ (.bool true)) ⟨w.heap.size, 0, none⟩ (.bool true) (World.cell?_setCell_same _ _ (.bool true) hv)
  refine ⟨.bool true, ?_, rfl, w1, Q1.out, rfl⟩
  simp only [results, hres]
  go_simp

/-- What Expand's closure leaves. -/
def XP (w : World) (o1 o2 : Nat) (w' : World) : Prop := ∃ g c, w'.cell? ⟨o1, 0, none⟩ = some (.slice (some ⟨g, 0, none⟩) 1 c) ∧ w'.cell? ⟨o2, 0, none⟩ = some (.bool true) ∧ w'.cell? ⟨g, 0, none⟩ = some (.int .u64 1) ∧ Kept (fun k _ => k = o1 ∨ k = o2) w w'

set_option maxRecDepth 100000 in
set_option maxHeartbeats 2000000 in
theorem cl29_any (w : World) (a o1 o2 sb l1 l2 k1 k2 : Nat) (a0 : w.cell? ⟨a, 0, none⟩ = some (.int .i64 4)) (a1 : w.cell? ⟨a, 1, none⟩ = some (.slice none 0 0)) (a2 : w.cell? ⟨a, 2, none⟩ = some (.slice (some ⟨sb, 0, none⟩) 2 2))
    (p1 : w.cell? ⟨o1, 0, none⟩ = some (.slice none 0 0)) (p2 : w.cell? ⟨o2, 0, none⟩ = some (.bool false)) (f1 : w.frozen? ⟨o1, 0, none⟩ = false) (f2 : w.frozen? ⟨o2, 0, none⟩ = false)
    (h0 : w.cell? ⟨sb, 0, none⟩ = some (.int .i64 0)) (h1 : w.cell? ⟨sb, 1, none⟩ = some (.slice (some ⟨l1, 0, none⟩) 2 k1)) (h2 : w.cell? ⟨sb, 2, none⟩ = some (.slice none 0 0)) (h3 : w.cell? ⟨sb, 3, none⟩ = some (.int .i64 0)) (h4 : w.cell? ⟨sb, 4, none⟩ = some (.slice (some ⟨l2, 0, none⟩) 1 k2)) (h5 : w.cell? ⟨sb, 5, none⟩ = some (.slice none 0 0))
    (r1 : RowN w l1 0 [1, 2]) (r2 : RowN w l2 0 [2]) :
    Calls Tryz.prog 29 #[.pointer (some ⟨a, 0, none⟩), .pointer (some ⟨o1, 0, none⟩), .pointer (some ⟨o2, 0, none⟩)] w fun e w' => e = .returned (.tuple #[]) ∧ XP w o1 o2 w' := by
  have HS := Lib.hid (set4_any w sb l1 l2 k1 k2 h0 h1 h2 h3 h4 h5 r1 r2)
  have lo1 := World.block_lt_of_cell? _ _ p1
  have lo2 := World.block_lt_of_cell? _ _ p2
  have P1 := Lib.hid p1
  have P2 := Lib.hid p2
  have F1 := Lib.hid f1
  have F2 := Lib.hid f2
  clear h0 h1 h2 h3 h4 h5 r1 r2 p1 p2 f1 f2
  go_enter Tryz.func29, Tryz.ntmps29
  go_wp2_with fail
  (with_reducible refine HS.out.mono ?_)
  rintro e w1 ⟨r, pf, pr, b1, b2, rfl, hs, hr, hpf, hpr, hk⟩
  have HX := Lib.hid (expanded_any w1 r pf pr b1 b2 hs)
  have HK := Lib.hid hk
  clear hs hk HS
  go_wp2_with fail
  (with_reducible refine HX.out.mono ?_)
  rintro e w2 ⟨g, c, rfl, hg, hk⟩
  have kk : Kept (fun _ _ => False) w w2 := HK.out.trans hk (fun k _ hlt e => by omega)
  have q1 := (kk.cell _ 0 lo1 id).trans P1.out
  have q2 := (kk.cell _ 0 lo2 id).trans P2.out
  have z1 := (kk.fr _ 0 lo1).trans F1.out
  have z2 := (kk.fr _ 0 lo2).trans F2.out
  have n1 : g ≠ o1 := fun e => by rw [e, q1] at hg; cases hg
  have n2 : g ≠ o2 := fun e => by rw [e, q2] at hg; cases hg
  have n3 : o1 ≠ o2 := fun e => by rw [e, q2] at q1; cases q1
  have FIN : Hid (XP w o1 o2 ((w2.setCell ⟨o1, 0, none⟩ (.slice (some ⟨g, 0, none⟩) 1 c)).setCell ⟨o2, 0, none⟩ (.bool true))) := Lib.hid (by
    refine ⟨g, c, ?_, World.cell?_setCell_same _ _ _ ((World.cell?_setCell_other _ _ _ _ (by first | (simp; done) | (simp; exact fun e => n3 e.symm))).trans q2), ?_, (kk.mono (fun _ _ _ e => e.elim)).trans ((Kept.setCell (P := fun k _ => k = o1 ∨ k = o2) _ _ _ _ (.inl rfl)).trans (Kept.setCell (P := fun k _ => k = o1 ∨ k = o2) _ _ _ _ (.inr rfl)) (fun _ _ _ => id)) (fun _ _ _ => id)⟩
    · rw [World.cell?_setCell_other _ _ _ _ (by first | (simp; done) | (simp; exact n3))]
      exact World.cell?_setCell_same _ _ _ q1
    · rw [World.cell?_setCell_other _ _ _ _ (by first | (simp; done) | (simp; exact n2)), World.cell?_setCell_other _ _ _ _ (by first | (simp; done) | (simp; exact n1))]
      exact hg)
  clear hk kk n1 n2 hg HX HK
  go_wp2_with fail
  go_end0
  exact ⟨rfl, FIN.out⟩

end Go.Proofs.YtfipfoplmopkaaaGreatDoor
