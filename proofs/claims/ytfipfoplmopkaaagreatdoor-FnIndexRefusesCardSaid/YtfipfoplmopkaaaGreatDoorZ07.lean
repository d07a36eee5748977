/- indexFew's great condition, at some of its outcomes: printed by genT5.py. Conditions: the cells, the callees' answers. -/
import Derived.Test.YtfipfoplmopkaaaGreatDoorZ01

namespace Go.Proofs.YtfipfoplmopkaaaGreatDoor
open Go.RowKit

set_option maxRecDepth 1000000 in
set_option maxHeartbeats 8000000 in
theorem leaf_b6 {wX : World} {b o n c gb i nl lc q kc p nl' lc' : Nat} {lao kao lao' : Option Addr} {R R' C : Int} (g0 : wX.cell? ⟨gb, 0, none⟩ = some (.int .u64 R)) (g1 : wX.cell? ⟨gb, 1, none⟩ = some (.slice lao nl lc)) (g2 : wX.cell? ⟨gb, 2, none⟩ = some (.slice kao q kc)) (e0 : wX.cell? ⟨b, o + p * 3, none⟩ = some (.int .u64 R')) (e1 : wX.cell? ⟨b, o + p * 3 + 1, none⟩ = some (.slice lao' nl' lc')) (SF : Hid (∀ w', Kept (fun _ _ => False) wX w' → w'.cell? ⟨gb, 0, none⟩ = some (.int .u64 R) ∧ w'.cell? ⟨gb, 1, none⟩ = some (.slice lao nl lc) ∧ w'.cell? ⟨gb, 2, none⟩ = some (.slice kao q kc) ∧ w'.cell? ⟨b, o + p * 3, none⟩ = some (.int .u64 R') ∧ w'.cell? ⟨b, o + p * 3 + 1, none⟩ = some (.slice lao' nl' lc'))) (hiI : (i : Int) < n) (d4 : decide (0 < i) = true) (d41 : IntKind.i64.wrap ((i : Int) - 1) = (p : Int)) (d42 : (p : Int) < n) (d3 : (R == 0) = false) (d31 : decide (R ≤ R') = false) (HC12 : Hid (∀ w', Kept (fun _ _ => False) wX w' → Calls Tryz.prog 12 #[.slice lao nl lc, .slice lao' nl' lc'] w' (fun e w'' => e = .returned (.int .i64 C) ∧ Kept (fun _ _ => False) w' w''))) (d32 : (C == 0) = false) (d5 : ((nl : Int) == 0) = false) (d5' : (nl == 0) = false) (d6 : decide ((10 : Int) < (nl : Int)) = false) (d6' : decide (10 < nl) = false) (HC13 : Hid (∀ w', Kept (fun _ _ => False) wX w' → Calls Tryz.prog 13 #[.slice lao nl lc] w' (fun e w'' => e = .returned (.bool true) ∧ Kept (fun _ _ => False) w' w''))) (HC14 : Hid (∀ w', Kept (fun _ _ => False) wX w' → Calls Tryz.prog 14 #[.slice lao nl lc] w' (fun e w'' => e = .returned (.bool true) ∧ Kept (fun _ _ => False) w' w''))) (HC15 : Hid (∀ w', Kept (fun _ _ => False) wX w' → Calls Tryz.prog 15 #[.slice kao q kc] w' (fun e w'' => e = .returned (.bool true) ∧ Kept (fun _ _ => False) w' w''))) (x1 x2 x3 x6 x7 x8 x9 x10 x11 x12 x13 x14 x15 x16 x17 x18 x19 x20 x21 x22 x23 x24 x25 x26 x27 x28 x29 x30 x31 x32 x33 x34 x35 x36 x37 x38 x39 x40 x41 x42 x43 x44 x45 x46 x47 x48 x49 x50 x51 x52 x53 x54 x55 x56 x57 x58 x59 x60 x61 x62 x63 x64 x65 x66 x67 x68 x69 x70 x71 x72 x73 x74 x75 x76 x77 x78 x79 x80 x81 x82 x83 x84 x85 x86 x87 x88 x89 x90 x91 x92 x93 x94 x95 x96 x97 x98 x99 x100 : Value) {ds : List Deferred} {Q0 : Exit → Act → World → Prop}
    (hexit : ∀ (y41 y42 y43 y44 y45 y46 y47 y48 y49 y50 y51 y52 y53 y54 y55 y56 y57 y58 y59 y60 y61 y62 y63 y64 y65 y66 y67 y68 y69 y70 y71 y72 y73 y74 y75 y76 y77 y78 y79 y80 y81 y82 y83 y84 y85 y86 y87 y88 y89 y90 y91 y92 y93 y94 y95 y96 y97 y98 y99 : Value) (wx : World), RK wX wx → Q0 .normal ⟨(.slice (some ⟨b, o, none⟩) n c :: x1 :: x2 :: x3 :: .int .i64 (i : Nat) :: .pointer (some ⟨gb, 0, none⟩) :: x6 :: x7 :: x8 :: x9 :: x10 :: x11 :: x12 :: x13 :: x14 :: x15 :: x16 :: x17 :: x18 :: x19 :: x20 :: x21 :: x22 :: x23 :: x24 :: x25 :: x26 :: x27 :: x28 :: x29 :: x30 :: x31 :: x32 :: x33 :: x34 :: x35 :: x36 :: x37 :: x38 :: x39 :: x40 :: y41 :: y42 :: y43 :: y44 :: y45 :: y46 :: y47 :: y48 :: y49 :: y50 :: y51 :: y52 :: y53 :: y54 :: y55 :: y56 :: y57 :: y58 :: y59 :: y60 :: y61 :: y62 :: y63 :: y64 :: y65 :: y66 :: y67 :: y68 :: y69 :: y70 :: y71 :: y72 :: y73 :: y74 :: y75 :: y76 :: y77 :: y78 :: y79 :: y80 :: y81 :: y82 :: y83 :: y84 :: y85 :: y86 :: y87 :: y88 :: y89 :: y90 :: y91 :: y92 :: y93 :: y94 :: y95 :: y96 :: y97 :: y98 :: y99 :: .bool false :: []).toArray, ds⟩ wx) :
    Code.wp Tryz.prog (rg7 14) Q0 ⟨(.slice (some ⟨b, o, none⟩) n c :: x1 :: x2 :: x3 :: .int .i64 (i : Nat) :: .pointer (some ⟨gb, 0, none⟩) :: x6 :: x7 :: x8 :: x9 :: x10 :: x11 :: x12 :: x13 :: x14 :: x15 :: x16 :: x17 :: x18 :: x19 :: x20 :: x21 :: x22 :: x23 :: x24 :: x25 :: x26 :: x27 :: x28 :: x29 :: x30 :: x31 :: x32 :: x33 :: x34 :: x35 :: x36 :: x37 :: x38 :: x39 :: x40 :: x41 :: x42 :: x43 :: x44 :: x45 :: x46 :: x47 :: x48 :: x49 :: x50 :: x51 :: x52 :: x53 :: x54 :: x55 :: x56 :: x57 :: x58 :: x59 :: x60 :: x61 :: x62 :: x63 :: x64 :: x65 :: x66 :: x67 :: x68 :: x69 :: x70 :: x71 :: x72 :: x73 :: x74 :: x75 :: x76 :: x77 :: x78 :: x79 :: x80 :: x81 :: x82 :: x83 :: x84 :: x85 :: x86 :: x87 :: x88 :: x89 :: x90 :: x91 :: x92 :: x93 :: x94 :: x95 :: x96 :: x97 :: x98 :: x99 :: x100 :: []).toArray, ds⟩ wX := by
  have _u := And.intro g0 (And.intro g1 (And.intro g2 (And.intro SF (And.intro hiI (And.intro d4 (And.intro e0 (And.intro e1 (And.intro d41 (And.intro d42 (And.intro HC15 (And.intro HC14 (And.intro HC13 (And.intro d6' (And.intro d6 (And.intro d5' (And.intro d5 (And.intro d32 (And.intro HC12 (And.intro d31 (And.intro d3 (Eq.refl (R, C, R', nl', lc', p, lao'))))))))))))))))))))))
  clear _u
  conv => arg 2; whnf
  go_still_tail 25, (by kernel_rfl)
  go_wp2_with fail
  (with_reducible refine (HC12.out _ (Kept.drew _ _)).mono ?_)
  rintro e w12 ⟨rfl, hk⟩
  have k12 := Lib.hid (Kept.trans (Kept.drew (fun _ _ => False) _) hk (fun _ _ _ => id))
  obtain ⟨z12_0, z12_1, z12_2, z12_3, z12_4⟩ := SF.out _ k12.out
  clear hk
  go_wp2_with fail
  (with_reducible refine (HC13.out _ k12.out).mono ?_)
  rintro e w13 ⟨rfl, hk⟩
  have k13 := Lib.hid (Kept.trans k12.out hk (fun _ _ _ => id))
  obtain ⟨z13_0, z13_1, z13_2, z13_3, z13_4⟩ := SF.out _ k13.out
  clear hk
  go_wp2_with fail
  (with_reducible refine (HC14.out _ k13.out).mono ?_)
  rintro e w14 ⟨rfl, hk⟩
  have k14 := Lib.hid (Kept.trans k13.out hk (fun _ _ _ => id))
  obtain ⟨z14_0, z14_1, z14_2, z14_3, z14_4⟩ := SF.out _ k14.out
  clear hk
  go_wp2_with fail
  (with_reducible refine (HC15.out _ k14.out).mono ?_)
  rintro e w15 ⟨rfl, hk⟩
  have k15 := Lib.hid (Kept.trans k14.out hk (fun _ _ _ => id))
  obtain ⟨z15_0, z15_1, z15_2, z15_3, z15_4⟩ := SF.out _ k15.out
  clear hk
  go_wp2_with fail
  try go_wp2_with fail
  first | exact k15.out | exact hexit _ _ _ _ _ _ _ _ _ _ _ _ _ _ _ _ _ _ _ _ _ _ _ _ _ _ _ _ _ _ _ _ _ _ _ _ _ _ _ _ _ _ _ _ _ _ _ _ _ _ _ _ _ _ _ _ _ _ _ _ k15.out

end Go.Proofs.YtfipfoplmopkaaaGreatDoor
