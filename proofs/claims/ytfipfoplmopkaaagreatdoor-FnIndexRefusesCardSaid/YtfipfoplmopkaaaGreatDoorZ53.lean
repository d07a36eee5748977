/- laws.FnIndexRefuses(3): true, whatever the arguments. Conditions: what every reading of them gives. The row of laws.FnIndexRefuses, proved: it returns true, and its arguments read as before; a world that meets the row's condition. -/
import Derived.Test.YtfipfoplmopkaaaGreatDoorZ51
import Derived.Test.YtfipfoplmopkaaaGreatDoorZ52
import Derived.Test.YtfipfoplmopkaaaGreatDoorZ13
import Derived.Test.YtfipfoplmopkaaaGreatDoorRows
import Derived.ProofKit
import Derived.LaidMore
import Derived.OpenShut
import Derived.Below
import Derived.ChangeOld
import Derived.Stop.Joined

namespace Go.Proofs.YtfipfoplmopkaaaGreatDoor
open Go.RowKit Go.Maps

section
variable {N N' : Nat} {w : World} {v : Value}
theorem AtS.more (h : N ≤ N') {ss : List ByteArray} (k : AtS N w v ss) : AtS N' w v ss := by
  obtain ⟨ao, c, h1, h2, h3⟩ := k
  refine ⟨ao, c, h1, h2, fun h0 => ?_⟩
  obtain ⟨b, o, h4, h5, h6⟩ := h3 h0
  exact ⟨b, o, h4, Nat.lt_of_lt_of_le h5 h, h6⟩
theorem AtL.more (h : N ≤ N') {ss : List Lab} (k : AtL N w v ss) : AtL N' w v ss := by
  obtain ⟨ao, c, h1, h2, h3⟩ := k
  refine ⟨ao, c, h1, h2, fun h0 => ?_⟩
  obtain ⟨b, o, h4, h5, h6⟩ := h3 h0
  exact ⟨b, o, h4, Nat.lt_of_lt_of_le h5 h, h6⟩
theorem AtK.more (h : N ≤ N') {ss : List Ck} (k : AtK N w v ss) : AtK N' w v ss := by
  obtain ⟨ao, c, h1, h2, h3⟩ := k
  refine ⟨ao, c, h1, h2, fun h0 => ?_⟩
  obtain ⟨b, o, h4, h5, h6⟩ := h3 h0
  exact ⟨b, o, h4, Nat.lt_of_lt_of_le h5 h, h6⟩
theorem AtX.more (h : N ≤ N') {ss : List Sr} (k : AtX N w v ss) : AtX N' w v ss := by
  obtain ⟨ao, c, h1, h2, h3⟩ := k
  refine ⟨ao, c, h1, h2, fun h0 => ?_⟩
  obtain ⟨b, o, h4, h5, h6⟩ := h3 h0
  refine ⟨b, o, h4, Nat.lt_of_lt_of_le h5 h, fun i hi => ?_⟩
  obtain ⟨vl, vk, a1, a2, a3, a4, a5⟩ := h6 i hi
  exact ⟨vl, vk, a1, a2, a3, a4.more h, a5.more h⟩
end

set_option maxRecDepth 100000 in
set_option maxHeartbeats 2000000 in
theorem law_any (w : World) (ao : Option Addr) (n c : Nat) (ss : List ByteArray) (h : AtS w.heap.size w (.slice ao n c) ss) (hn : n ≤ maxLen) (bo : Option Addr) (m c2 : Nat) (xs : List Sr) (hx : AtX w.heap.size w (.slice bo m c2) xs)
    (hl : ∀ s ∈ xs, s.ls.length ≤ maxLen ∧ s.ck.length ≤ maxLen) (h64 : ∀ s ∈ xs, s.r < 18446744073709551616 ∧ ∀ k ∈ s.ck, k.r < 18446744073709551616) :
    Calls Tryz.prog 3 #[.slice ao n c, .slice bo m c2] w fun e w' => e = .returned (.bool true) ∧ Kept (fun _ _ => False) w w' := by
  have hmx : maxLen < 9223372036854775808 := by decide
  have H := Lib.hid h
  have HX := Lib.hid hx
  have H64 := Lib.hid h64
  have HN18 : Hid (n < 9223372036854775808) := Lib.hid (by omega)
  have HL18 : Hid (∀ x ∈ xs, x.ls.length < 9223372036854775808 ∧ x.ck.length < 9223372036854775808) := Lib.hid (fun x hx => by have := hl x hx; omega)
  have Z1 := Lib.hid (zz13_any _ w _ _ _ _ h (Nat.le_refl _))
  clear h hx h64 hl hn hmx
  go_enter Tryz.func3, Tryz.ntmps3
  go_wp2_with fail
  (with_reducible refine Z1.out.mono ?_)
  rintro e w1 ⟨⟨t, rfl⟩, hk⟩
  have K1 := Lib.hid hk
  clear hk Z1
  cases t with
  | false =>
    go_wp2_with fail
    go_ret
    exact ⟨rfl, K1.out⟩
  | true =>
  have Z2 := Lib.hid (zz14_any _ w1 _ _ _ _ (HX.out.kept K1.out (fun _ _ _ e => e) (Nat.le_refl _)) K1.out.size)
  go_wp2_with fail
  (with_reducible refine Z2.out.mono ?_)
  rintro e w2 ⟨⟨t, rfl⟩, hk⟩
  have K2 := Lib.hid (K1.out.trans hk (fun _ _ _ => id))
  clear hk Z2 K1
  cases t with
  | false =>
    go_wp2_with fail
    go_ret
    exact ⟨rfl, K2.out⟩
  | true =>
  have Z3 := Lib.hid (wordsFew_any _ w2 _ _ _ _ (H.out.kept K2.out (fun _ _ _ e => e) (Nat.le_refl _)) K2.out.size HN18.out)
  go_wp2_with fail
  (with_reducible refine Z3.out.mono ?_)
  rintro e w3 ⟨⟨t, rfl, ht⟩, hk⟩
  have K3 := Lib.hid (K2.out.trans hk (fun _ _ _ => id))
  have HT := Lib.hid ht
  clear hk Z3 K2 ht
  cases t with
  | false =>
    go_wp2_with fail
    (with_reducible refine (awake_any w3).mono ?_)
    rintro e w4 ⟨rfl, hk⟩
    have K4 := Lib.hid (K3.out.trans hk (fun _ _ _ => id))
    clear hk
    go_wp2_with fail
    go_ret
    exact ⟨rfl, K4.out⟩
  | true =>
  have SO := Lib.hid (HT.out rfl)
  have Z4 := Lib.hid (indexFew_any _ w3 _ _ _ _ (HX.out.kept K3.out (fun _ _ _ e => e) (Nat.le_refl _)) K3.out.size HL18.out)
  clear HT
  go_wp2_with fail
  (with_reducible refine Z4.out.mono ?_)
  rintro e w4 ⟨⟨t, rfl, ht⟩, hk⟩
  have K4 := Lib.hid (K3.out.trans hk (fun _ _ _ => id))
  have HT := Lib.hid ht
  clear hk Z4 K3 ht
  cases t with
  | false =>
    go_wp2_with fail
    (with_reducible refine (awake_any w4).mono ?_)
    rintro e w5 ⟨rfl, hk⟩
    have K5 := Lib.hid (K4.out.trans hk (fun _ _ _ => id))
    clear hk
    go_wp2_with fail
    go_ret
    exact ⟨rfl, K5.out⟩
  | true =>
  obtain ⟨h20, hfx⟩ := HT.out rfl
  have XO := Lib.hid (FX.xok h20 hfx H64.out)
  have FXX := Lib.hid hfx
  have H20 := Lib.hid h20
  clear HT h20 hfx
  have Z5 := Lib.hid (build_any w4 ss xs _ _ ((H.out.kept K4.out (fun _ _ _ e => e) (Nat.le_refl _)).more K4.out.size) ((HX.out.kept K4.out (fun _ _ _ e => e) (Nat.le_refl _)).more K4.out.size) SO.out XO.out)
  go_wp2_with fail
  (with_reducible refine Z5.out.mono ?_)
  rintro e w5 ⟨v, r, rfl, hr, hk⟩
  have K5 := Lib.hid (K4.out.trans hk (fun _ _ _ => id))
  have HR := Lib.hid hr
  clear hk Z5 K4 hr
  go_wp2_with fail
  (with_reducible refine (awake_any w5).mono ?_)
  rintro e w6 ⟨rfl, hk⟩
  have K6 := Lib.hid (K5.out.trans hk (fun _ _ _ => id))
  clear hk K5
  have Z6 := Lib.hid (refused_any _ w6 _ _ _ _ (H.out.kept K6.out (fun _ _ _ e => e) (Nat.le_refl _)) _ _ _ _ (HX.out.kept K6.out (fun _ _ _ e => e) (Nat.le_refl _)) K6.out.size (by rw [H.out.len]; exact SO.out.n) (by rw [HX.out.len]; exact H20.out) HL18.out FXX.out)
  go_wp2_with fail
  (with_reducible refine Z6.out.mono ?_)
  rintro e w7 ⟨⟨r', rfl, hr'⟩, hk⟩
  have K7 := Lib.hid (K6.out.trans hk (fun _ _ _ => id))
  obtain rfl := RefR.one HR.out hr'
  have hrr : (r == r) = true := beq_self_eq_true r
  clear hk Z6 K6 hr' HR
  go_wp2_with fail
  go_ret
  exact ⟨rfl, K7.out⟩

end Go.Proofs.YtfipfoplmopkaaaGreatDoor

namespace Go.Proofs.YtfipfoplmopkaaaGreatDoor
open Go.ChangeShapes Go.WideShapes Go.ChangeAt Go.RowKit

theorem rowOwn : ownKnob Tryz.prog.godebug = none := by kernel_rfl
theorem rowLaidOut : laidOutB Tryz.prog = true := by kernel_rfl

/-- The door's own heap meets the condition. -/
theorem door_met (os : Os) (args : Array Value) : laidMetH Tryz.prog Rows.fnIndexRefusesRow.laid ((World.doorLaid Tryz.prog 400 os).forCall (fun _ _ => 0) ⟨#[], args, []⟩).memory :=
  laidMetH_of_parts3 (fuel := 8) (laidMet_of_run' 8 (by kernel_rfl) (by kernel_rfl)) (by kernel_rfl) (by kernel_rfl)

theorem below_of_kept {w w' : World} (h : Kept (fun _ _ => False) w w') : Below w.heap.size w w' := ⟨h.os, h.tape, h.output, h.size, fun k hk => h.block k hk (fun _ => id)⟩

set_option maxRecDepth 100000 in
theorem lifted (os : Os) (started : os.Started) (H : Type) (enc : TypeId × Value → H) :
    ReturnsInHanded {} Tryz.checked os 3 .any (fun w args => (Rows.fnIndexRefusesSpec.pre enc Tryz.prog Tryz.f3 [] false w args ∧ laidMetH Tryz.prog Rows.fnIndexRefusesRow.laid w) ∧ sizedMet enc Tryz.prog Tryz.f3 (OpenSpec.ofChange Rows.fnIndexRefusesSpec) false w args)
      (Rows.fnIndexRefusesSpec.post enc Tryz.prog Tryz.f3 false true false false) := by
  refine returnsInHanded_of_change_and (C := Tryz.checked) (X := fun w _ => laidMetH Tryz.prog Rows.fnIndexRefusesRow.laid w) (fun _ _ _ hh h => h.of_heap hh) rowOwn started (by kernel_rfl) Tryz.func3
    (ChangeSpec.witness_shaped (enc := enc) (C := Tryz.checked) (os := os) (X := fun w _ => laidMetH Tryz.prog Rows.fnIndexRefusesRow.laid w) false (World.doorLaid Tryz.prog 400 os) #[.slice none 0 0, .slice none 0 0] 8 rfl (World.shaped_of_RefB (by kernel_rfl) (by kernel_rfl)) (by kernel_rfl) (by kernel_rfl) (by kernel_rfl) (door_met os _)) ?_
  intro W base args ds gs before hval0 hW _ _ _ _
  have hval : ∀ (j : Nat) t v, Tryz.f3.params[j]? = some t → args[j]? = some v → Value.okWide Tryz.prog W .any base t v := hval0
  have hW' := hW
  obtain ⟨p, q, hA0, hV, rfl, hfz, hnd⟩ := hW
  have hA : DataW.TrodAll enc Tryz.prog W 0 (fun _ => true) true Tryz.f3.params.toList args.toList ds p := hA0
  rw [Tryz.params3] at hA hval
  obtain ⟨v0, vs0, d0, ds0, p0, q0, hargs, rfl, rfl, h0, r0⟩ := trodAll_cons hA
  obtain ⟨v1, vs1, d1, ds1, p1, q1, rfl, rfl, rfl, h1, r1⟩ := trodAll_cons r0
  obtain ⟨rfl, rfl, rfl⟩ := trodAll_nil r1
  obtain rfl : args = #[v0, v1] := by cases args; simp_all
  obtain ⟨rfl, rfl⟩ := trodVars_none hV
  have k0 := h0
  have k1 := h1
  have lt0 : ∀ x ∈ p0, x.block < W.heap.size := by obtain ⟨m, hm⟩ := k0; exact DataW.trod_lt m _ _ _ hm
  have lt1 : ∀ x ∈ p1, x.block < W.heap.size := by obtain ⟨m, hm⟩ := k1; exact DataW.trod_lt m _ _ _ hm
  obtain ⟨a0, n0, c0, rfl⟩ := okWide_slice Tryz.underlying22 (hval 0 22 v0 rfl rfl)
  obtain ⟨a1, n1, c1, rfl⟩ := okWide_slice Tryz.underlying23 (hval 1 23 v1 rfl rfl)
  obtain ⟨f0, t0⟩ := h0
  obtain ⟨f1, t1⟩ := h1
  obtain ⟨ao, n, c, ss, e0, hs, hn⟩ := openS t0
  obtain ⟨bo, m, c2, xs, e1, hx, _, hl, h64⟩ := openX t1
  simp only [Value.cells, List.cons.injEq, Value.slice.injEq, and_true] at e0 e1
  obtain ⟨rfl, rfl, rfl⟩ := e0
  obtain ⟨rfl, rfl, rfl⟩ := e1
  clear hA0 hval0 t0 t1
  refine (law_any W a0 n0 c0 ss hs hn a1 n1 c1 xs hx hl h64).mono fun e W' ⟨he, hk⟩ => ?_
  have bel := below_of_kept hk
  subst he
  exact ⟨_, rfl, _, _, _, [], _, [], hW', trodAll_mk1 (shut_bool Tryz.underlying4 _), (trodAll_cons_mk (Below.trod rowLaidOut (by kernel_rfl) (of_decide_eq_true (by kernel_rfl)) k0 bel lt0) (trodAll_cons_mk (Below.trod rowLaidOut (by kernel_rfl) (of_decide_eq_true (by kernel_rfl)) k1 bel lt1) trodAll_mk0)), rfl, bel.frame _, fun h => by cases h⟩

theorem fnIndexRefuses_holds : Rows.FnIndexRefusesSaid :=
  OpenClaim.holds_of_wide 3 Tryz.f3 rfl rfl rfl rfl rfl rfl rfl ⟨rfl, rfl, rfl, rfl, rfl⟩ rfl rfl rfl rfl rfl (by kernel_rfl) Tryz.func3 (by kernel_rfl)
    (of_decide_eq_true (by kernel_rfl)) (by unfold Func.isWrapper; first | (rw [if_pos (by decide +kernel)]; kernel_rfl) | (rw [if_neg (by decide +kernel)]; exact ⟨rfl, rfl⟩))
    (fun os started H enc _ => lifted os started H enc)

end Go.Proofs.YtfipfoplmopkaaaGreatDoor
