/- slices.Sort of numbers of 32 bits: the insertion sort that may give up. Conditions: the row is there. slices.Sort of numbers of 32 bits: the pattern breaker. Conditions: the row is there. -/
import Derived.Test.YtfipfoplmopkaaaGreatDoorZ14
import Derived.Test.YtfipfoplmopkaaaGreatDoorZ13
import Derived.Test.YtfipfoplmopkaaaGreatDoorZ01
import Derived.Deep.LoopGhost
import Derived.Sort.Walk7a
import Derived.Laws.Bits64
import Derived.Laws.Bits64b
import Derived.Lib.ItoaNum

namespace Go.Proofs.YtfipfoplmopkaaaGreatDoor
open Go.RowKit

set_option maxRecDepth 100000 in
set_option maxHeartbeats 2000000 in
theorem partIns_any (Q : Int → Prop) (b off n c f l : Nat) (w : World) (h : UR Q w b off n) (hl : f < l) (hh : l ≤ n) (hn : n < 1000000000) :
    Calls Tryz.prog 196 #[.slice (some ⟨b, off, none⟩) n c, .int .i64 f, .int .i64 l] w fun e w' => ∃ t : Bool, e = .returned (.bool t) ∧ US Q b off n w w' := by
  have H := Lib.hid h
  clear h
  go_enter Tryz.func196, Tryz.ntmps196
  go_wp2_with fail
  go_loopg [7, 8] 5 (fun m x y wr => ∃ i j : Nat, f < i ∧ i ≤ l ∧ j ≤ 5 ∧ 5 - j ≤ m ∧ x = .int .i64 i ∧ y = .int .i64 j ∧ Hid (US Q b off n w wr))
  case atStart => exact ⟨f + 1, 0, by omega, by omega, by omega, by omega, by go_num, rfl, Lib.hid (US.refl H.out)⟩
  case round =>
    obtain ⟨i, k, hi0, hi1, hk, hkm, rfl, rfl, HR⟩ := hrel
    by_cases hk5 : k < 5
    case neg =>
      go_wp2_with fail
      go_ret
      exact ⟨false, rfl, HR.out⟩
    case pos =>
      have hk5' : (k : Int) < 5 := by omega
      go_wp2_with fail
      go_loopw [7] (fun x ws => ∃ i : Nat, f < i ∧ i ≤ l ∧ x = .int .i64 i ∧ Hid (US Q b off n w ws)) (fun x _ => l - (intOf x).toNat)
      case atStart => exact ⟨i, hi0, hi1, rfl, HR⟩
      case round =>
        clear HR hi0 hi1
        obtain ⟨i, hi0, hi1, rfl, HR⟩ := hrel
        by_cases hlt : i < l
        case neg =>
          obtain rfl : i = l := by omega
          have e1 : decide ((i : Int) < i) = false := by simp
          go_wp2_with fail
          go_region
          go_wp2_with fail
          go_ret
          exact ⟨true, rfl, HR.out.drew⟩
        case pos =>
          obtain ⟨q, rfl⟩ : ∃ q, i = q + 1 := ⟨i - 1, by omega⟩
          obtain ⟨⟨x, hx, qx⟩, fx⟩ := HR.out.1 (q + 1) (by omega)
          obtain ⟨⟨y, hy, qy⟩, fy⟩ := HR.out.1 q (by omega)
          have e1 : (q : Int) + 1 < n := by omega
          have e2 : (q : Int) < n := by omega
          have e3 : (0 : Int) ≤ (q : Int) + 1 := by omega
          have e5 : (q : Int) + 1 < l := by omega
          have z1 : IntKind.i64.wrap (q : Int) = q := IntWalk.i64_in _ (by omega)
          have z2 : ((q : Int) + 1).toNat = q + 1 := by omega
          by_cases hxy : x < y
          case neg =>
            go_wp2_with fail
            go_region_held3 (fun w' => w'.cell? ⟨b, off + (q + 1), none⟩ = some (.int .u32 x) ∧ w'.cell? ⟨b, off + q, none⟩ = some (.int .u32 y)) (first | exact ⟨hx, hy⟩ | go_keep) (first | (go_at_call 197; refine (less_f (by omega) _).mono ?_; rintro e w' ⟨rfl, rfl⟩))
            go_wp2_with fail
            go_roundw
            case rel => exact ⟨q + 2, by omega, by omega, by go_num, Lib.hid HR.out.drew⟩
            case measure => simp [intOf]; omega
          case pos =>
            go_wp2_with fail
            go_region_held3 (fun w' => w'.cell? ⟨b, off + (q + 1), none⟩ = some (.int .u32 x) ∧ w'.cell? ⟨b, off + q, none⟩ = some (.int .u32 y)) (first | exact ⟨hx, hy⟩ | go_keep) (first | (go_at_call 197; refine (less_t hxy _).mono ?_; rintro e w' ⟨rfl, rfl⟩))
            have n1 : ((q : Int) + 1 == l) = false := by rw [beq_eq_false_iff_ne]; omega
            by_cases h50 : (l : Int) - f < 50
            case pos =>
              go_wp2_with fail
              go_ret
              exact ⟨false, rfl, HR.out.drew⟩
            case neg =>
              obtain ⟨v1, hv1⟩ := cell_setCell_some (w := wr.drew) (p := ⟨b, off + (q + 1), none⟩) (x := .int .u32 y) hy
              obtain ⟨v2, hv2⟩ := cell_setCell_some (w := wr.drew) (p := ⟨b, off + q, none⟩) (x := .int .u32 x) hx
              go_upto_region 11 with fail
              go_cut [] from 13 to 132 (fun wx => Hid (US Q b off n w wx))
              case first =>
                go_region
                all_goals
                  go_wp2_with fail
                  go_meet
                  first
                    | (with_reducible exact Lib.hid (HR.out.swap (q + 1) q (by omega) (by omega) qy qx).drew.drew)
                    | (with_reducible exact Lib.hid (HR.out.swap q (q + 1) (by omega) (by omega) qx qy).drew.drew)
              case rest =>
                clear HR hx hy hv1 hv2 qx qy fx fy n1 hxy
                have HR := Lib.hid hcut.out
                clear hcut
                go_upto_if 61 with fail
                go_cut [] from 13 to 132 (fun wx => Hid (US Q b off n w wx))
                case first =>
                  by_cases h2 : (2 : Int) ≤ (q : Int) + 1 - f
                  case neg =>
                    go_wp2_with fail
                    go_meet
                    exact HR
                  case pos =>
                    go_wp2_with fail
                    go_loopw [9] (fun x ws => ∃ j : Nat, j ≤ q ∧ x = .int .i64 j ∧ Hid (US Q b off n w ws)) (fun x _ => (intOf x).toNat)
                    case atStart => exact ⟨q, Nat.le_refl _, congrArg (Value.int .i64) (by omega), HR⟩
                    case round =>
                      clear HR
                      obtain ⟨j, hj0, rfl, HR⟩ := hrel
                      by_cases hj1 : 1 ≤ j
                      case neg =>
                        have hj1' : ¬ (1 : Int) ≤ j := by omega
                        go_wp2_with fail
                        go_meet
                        exact HR
                      case pos =>
                        obtain ⟨r, rfl⟩ : ∃ r, j = r + 1 := ⟨j - 1, by omega⟩
                        obtain ⟨⟨x, hx, qx⟩, fx⟩ := HR.out.1 (r + 1) (by omega)
                        obtain ⟨⟨y, hy, qy⟩, fy⟩ := HR.out.1 r (by omega)
                        have j1 : (r : Int) + 1 < n := by omega
                        have j2 : (r : Int) < n := by omega
                        have j3 : (0 : Int) ≤ (r : Int) + 1 := by omega
                        have j4 : (1 : Int) ≤ (r : Int) + 1 := by omega
                        have y1 : IntKind.i64.wrap (r : Int) = r := IntWalk.i64_in _ (by omega)
                        have y2 : ((r : Int) + 1).toNat = r + 1 := by omega
                        by_cases hxy : x < y
                        case neg =>
                          go_wp2_with fail
                          go_region_held3 (fun w' => w'.cell? ⟨b, off + (r + 1), none⟩ = some (.int .u32 x) ∧ w'.cell? ⟨b, off + r, none⟩ = some (.int .u32 y)) (first | exact ⟨hx, hy⟩ | go_keep) (first | (go_at_call 197; refine (less_f (by omega) _).mono ?_; rintro e w' ⟨rfl, rfl⟩))
                          go_wp2_with fail
                          go_meet
                          exact Lib.hid HR.out.drew
                        case pos =>
                          go_wp2_with fail
                          go_region_held3 (fun w' => w'.cell? ⟨b, off + (r + 1), none⟩ = some (.int .u32 x) ∧ w'.cell? ⟨b, off + r, none⟩ = some (.int .u32 y)) (first | exact ⟨hx, hy⟩ | go_keep) (first | (go_at_call 197; refine (less_t hxy _).mono ?_; rintro e w' ⟨rfl, rfl⟩))
                          go_wp2_with fail
                          obtain ⟨v1, hv1⟩ := cell_setCell_some (w := wr.drew) (p := ⟨b, off + (r + 1), none⟩) (x := .int .u32 y) hy
                          obtain ⟨v2, hv2⟩ := cell_setCell_some (w := wr.drew) (p := ⟨b, off + r, none⟩) (x := .int .u32 x) hx
                          go_region
                          all_goals
                            go_wp2_with fail
                            go_roundw
                            case rel => exact ⟨r, by omega, congrArg (Value.int .i64) (by omega), Lib.hid (by first | (with_reducible exact (HR.out.swap (r + 1) r (by omega) (by omega) qy qx).drew.drew) | (with_reducible exact (HR.out.swap r (r + 1) (by omega) (by omega) qx qy).drew.drew))⟩
                            case measure => simp [intOf]
                case rest =>
                  clear HR
                  have HR := Lib.hid hcut.out
                  clear hcut
                  by_cases h2 : (2 : Int) ≤ (l : Int) - ((q : Int) + 1)
                  case neg =>
                    go_wp2_with fail
                    go_roundg (5 - (k + 1))
                    case measure => omega
                    case rel => exact ⟨q + 1, k + 1, by omega, by omega, by omega, Nat.le_refl _, by go_num, by go_num, HR⟩
                  case pos =>
                    go_wp2_with fail
                    go_loopw [10] (fun x ws => ∃ j : Nat, 1 ≤ j ∧ j ≤ l ∧ x = .int .i64 j ∧ Hid (US Q b off n w ws)) (fun x _ => l - (intOf x).toNat)
                    case atStart => exact ⟨q + 2, by omega, by omega, by go_num, HR⟩
                    case round =>
                      clear HR
                      obtain ⟨j, hj0, hj1, rfl, HR⟩ := hrel
                      obtain ⟨r, rfl⟩ : ∃ r, j = r + 1 := ⟨j - 1, by omega⟩
                      by_cases hj2 : r + 1 < l
                      case neg =>
                        have hj2' : ¬ (r : Int) + 1 < l := by omega
                        go_wp2_with fail
                        go_roundg (5 - (k + 1))
                        case measure => omega
                        case rel => exact ⟨q + 1, k + 1, by omega, by omega, by omega, Nat.le_refl _, by go_num, by go_num, HR⟩
                      case pos =>
                        obtain ⟨⟨x, hx, qx⟩, fx⟩ := HR.out.1 (r + 1) (by omega)
                        obtain ⟨⟨y, hy, qy⟩, fy⟩ := HR.out.1 r (by omega)
                        have j1 : (r : Int) + 1 < n := by omega
                        have j2 : (r : Int) < n := by omega
                        have j3 : (0 : Int) ≤ (r : Int) + 1 := by omega
                        have j4 : (r : Int) + 1 < l := by omega
                        have y1 : IntKind.i64.wrap (r : Int) = r := IntWalk.i64_in _ (by omega)
                        have y2 : ((r : Int) + 1).toNat = r + 1 := by omega
                        by_cases hxy : x < y
                        case neg =>
                          go_wp2_with fail
                          go_region_held3 (fun w' => w'.cell? ⟨b, off + (r + 1), none⟩ = some (.int .u32 x) ∧ w'.cell? ⟨b, off + r, none⟩ = some (.int .u32 y)) (first | exact ⟨hx, hy⟩ | go_keep) (first | (go_at_call 197; refine (less_f (by omega) _).mono ?_; rintro e w' ⟨rfl, rfl⟩))
                          go_wp2_with fail
                          go_roundg (5 - (k + 1))
                          case measure => omega
                          case rel => exact ⟨q + 1, k + 1, by omega, by omega, by omega, Nat.le_refl _, by go_num, by go_num, Lib.hid HR.out.drew⟩
                        case pos =>
                          go_wp2_with fail
                          go_region_held3 (fun w' => w'.cell? ⟨b, off + (r + 1), none⟩ = some (.int .u32 x) ∧ w'.cell? ⟨b, off + r, none⟩ = some (.int .u32 y)) (first | exact ⟨hx, hy⟩ | go_keep) (first | (go_at_call 197; refine (less_t hxy _).mono ?_; rintro e w' ⟨rfl, rfl⟩))
                          go_wp2_with fail
                          obtain ⟨v1, hv1⟩ := cell_setCell_some (w := wr.drew) (p := ⟨b, off + (r + 1), none⟩) (x := .int .u32 y) hy
                          obtain ⟨v2, hv2⟩ := cell_setCell_some (w := wr.drew) (p := ⟨b, off + r, none⟩) (x := .int .u32 x) hx
                          go_region
                          all_goals
                            go_wp2_with fail
                            go_roundw
                            case rel => exact ⟨r + 2, by omega, by omega, by go_num, Lib.hid (by first | (with_reducible exact (HR.out.swap (r + 1) r (by omega) (by omega) qy qx).drew.drew) | (with_reducible exact (HR.out.swap r (r + 1) (by omega) (by omega) qx qy).drew.drew))⟩
                            case measure => simp [intOf]; omega

end Go.Proofs.YtfipfoplmopkaaaGreatDoor

namespace Go.Proofs.YtfipfoplmopkaaaGreatDoor
open Go.RowKit

set_option maxRecDepth 100000 in
set_option maxHeartbeats 2000000 in
theorem xor_any (rb X : Nat) (hX : X < 18446744073709551616) (w : World) (hc : w.cell? ⟨rb, 0, none⟩ = some (.int .u64 X)) (hf : w.frozen? ⟨rb, 0, none⟩ = false) :
    Calls Tryz.prog 202 #[.pointer (some ⟨rb, 0, none⟩)] w fun e w' => ∃ C : Nat, C < 18446744073709551616 ∧ e = .returned (.int .u64 C) ∧ w' = (w.setCell ⟨rb, 0, none⟩ (.int .u64 C)).drewN 3 := by
  obtain ⟨A, hA⟩ : ∃ A : Nat, A = X ^^^ (X * 8192 % 18446744073709551616) := ⟨_, rfl⟩
  obtain ⟨B, hB⟩ : ∃ B : Nat, B = A ^^^ (A / 128) := ⟨_, rfl⟩
  obtain ⟨C, hC⟩ : ∃ C : Nat, C = B ^^^ (B * 131072 % 18446744073709551616) := ⟨_, rfl⟩
  have lA : A < 18446744073709551616 := by rw [hA]; exact Nat.xor_lt_two_pow (n := 64) (by omega) (by omega)
  have lB : B < 18446744073709551616 := by rw [hB]; exact Nat.xor_lt_two_pow (n := 64) (by omega) (by omega)
  have lC : C < 18446744073709551616 := by rw [hC]; exact Nat.xor_lt_two_pow (n := 64) (by omega) (by omega)
  have e1 : bits .xor .u64 (X : Int) (IntKind.u64.wrap ((X : Int) * 8192)) = (A : Int) := by
    rw [IntKind.wrap_u64, show ((X : Int) * 8192 % 18446744073709551616) = ((X * 8192 % 18446744073709551616 : Nat) : Int) by omega, bits_xor_u64_nat _ _ hX (by omega), hA]
  have e2 : bits .xor .u64 (A : Int) ((A : Int) / 128) = (B : Int) := by
    rw [show ((A : Int) / 128) = ((A / 128 : Nat) : Int) by omega, bits_xor_u64_nat _ _ lA (by omega), hB]
  have e3 : bits .xor .u64 (B : Int) (IntKind.u64.wrap ((B : Int) * 131072)) = (C : Int) := by
    rw [IntKind.wrap_u64, show ((B : Int) * 131072 % 18446744073709551616) = ((B * 131072 % 18446744073709551616 : Nat) : Int) by omega, bits_xor_u64_nat _ _ lB (by omega), hC]
  clear hA hB hC
  have hss : ∀ v v', (w.setCell ⟨rb, 0, none⟩ v).setCell ⟨rb, 0, none⟩ v' = w.setCell ⟨rb, 0, none⟩ v' := setCell_setCell w rb 0
  go_enter Tryz.func202, Tryz.ntmps202
  go_wp2
  go_region
  all_goals go_wp2
  all_goals go_region
  all_goals go_wp2
  all_goals go_region
  all_goals go_wp2
  go_ret
  exact ⟨C, lC, rfl, rfl⟩

theorem npot_any (n : Nat) (h1 : 1 ≤ n) (hn : n < 1000000000) (w : World) :
    Calls Tryz.prog 201 #[.int .i64 n] w fun e w' => ∃ p : Nat, 1 ≤ p ∧ p ≤ 2 * n ∧ e = .returned (.int .u64 p) ∧ w' = w := by
  have h := Tryz.bits_Len (n : Int)
  have hL : ∀ ws, Calls Tryz.prog 150 #[.int .u64 n] ws fun e w' => e = .returned (.int .i64 (Lib.bitLen n : Nat)) ∧ w' = ws := fun ws => by
    have := h ws (by omega) (by omega)
    rwa [Int.toNat_natCast] at this
  clear h
  obtain ⟨k, hk⟩ : ∃ k, k = Lib.bitLen n := ⟨_, rfl⟩
  have hp : 2 ^ k ≤ 2 * n ∧ k ≤ 62 := by
    obtain ⟨a, b, _⟩ := Lib.bitLenAux_bounds 64 n (by omega) (by omega)
    have e : k = Lib.bitLenAux 64 n := hk
    rw [← e] at a b
    obtain ⟨m, rfl⟩ : ∃ m, k = m + 1 := ⟨k - 1, by omega⟩
    rw [Nat.add_sub_cancel] at b
    refine ⟨by rw [Nat.pow_succ]; omega, ?_⟩
    rcases Nat.lt_or_ge m 62 with h | h
    · omega
    · have := Nat.pow_le_pow_right (n := 2) (by decide) h
      omega
  have h2 : 1 ≤ 2 ^ k := Nat.one_le_two_pow
  have hw := wrap_two_pow k hp.2
  rw [← hk] at hL
  clear hk
  go_enter Tryz.func201, Tryz.ntmps201
  have wr : IntKind.u64.wrap (n : Int) = n := by simp [IntKind.wrap, IntKind.bits, IntKind.signed]; omega
  go_wp2_with (go_at_call 150; refine (hL _).mono ?_; rintro e w' ⟨rfl, rfl⟩)
  go_ret
  exact ⟨1 <<< k, by rw [Nat.one_shiftLeft]; exact h2, by rw [Nat.one_shiftLeft]; exact hp.1, rfl, rfl⟩

/-- The row, and the box of random numbers at rb. -/
def UX (Q : Int → Prop) (b off n rb : Nat) (w w' : World) : Prop :=
  US Q b off n w w' ∧ ∃ X : Nat, X < 18446744073709551616 ∧ w'.cell? ⟨rb, 0, none⟩ = some (.int .u64 X) ∧ w'.frozen? ⟨rb, 0, none⟩ = false

theorem UX.swap {Q : Int → Prop} {b off n rb : Nat} {w w1 : World} (h : UX Q b off n rb w w1) (hr : b < rb) (i j : Nat) (hi : i < n) (hj : j < n) {x y : Int} (hx : Q x) (hy : Q y) :
    UX Q b off n rb w ((w1.setCell ⟨b, off + i, none⟩ (.int .u32 x)).setCell ⟨b, off + j, none⟩ (.int .u32 y)).drew := by
  obtain ⟨h1, X, hX, hc, hf⟩ := h
  refine ⟨(h1.swap i j hi hj hx hy).drew, X, hX, ?_, ?_⟩
  · show ((w1.setCell ⟨b, off + i, none⟩ (.int .u32 x)).setCell ⟨b, off + j, none⟩ (.int .u32 y)).cell? _ = _
    rw [World.cell?_setCell_other _ _ _ _ (fun e => by have := congrArg Addr.block e; simp only [] at this; omega), World.cell?_setCell_other _ _ _ _ (fun e => by have := congrArg Addr.block e; simp only [] at this; omega)]
    exact hc
  · show ((w1.setCell ⟨b, off + i, none⟩ (.int .u32 x)).setCell ⟨b, off + j, none⟩ (.int .u32 y)).frozen? _ = _
    rw [World.frozen?_setCell, World.frozen?_setCell]
    exact hf

set_option maxRecDepth 100000 in
set_option maxHeartbeats 2000000 in
theorem breakPatterns_any (Q : Int → Prop) (b off n c f l : Nat) (w : World) (h : UR Q w b off n) (hb : b < w.heap.size) (hh : f + l ≤ n) (hn : n < 1000000000) :
    Calls Tryz.prog 193 #[.slice (some ⟨b, off, none⟩) n c, .int .i64 f, .int .i64 ((f + l : Nat) : Int)] w fun e w' => e = .returned (.tuple #[]) ∧ US Q b off n w w' := by
  have H := Lib.hid h
  clear h
  have ZL := Lib.hid (show (f : Int) + l - f = l by omega)
  go_enter Tryz.func193, Tryz.ntmps193
  by_cases h8 : l < 8
  · have g8 : ¬ (8 : Int) ≤ l := by omega
    go_wp2_with fail
    simp only [ZL.out]
    go_wp2_with fail
    go_end0
    exact ⟨rfl, US.refl H.out⟩
  · have g8 : (8 : Int) ≤ l := by omega
    go_wp2_with fail
    simp only [ZL.out, Int.natCast_add]
    go_wp2_with fail
    obtain ⟨q, hq⟩ : ∃ q, q = l / 4 := ⟨_, rfl⟩
    have ZQ := Lib.hid (show (l : Int) / 4 = q by omega)
    have hq1 : 2 ≤ q := by omega
    have hq2 : 2 * q + 2 ≤ l := by omega
    clear hq
    have X0 : Hid (UX Q b off n w.heap.size w (w.alloc (Obj.cells #[Value.int IntKind.u64 ↑l] 302))) :=
      Lib.hid ⟨⟨H.out.kept (P := fun _ => False) (Kept.alloc _ _ _) id, Kept.alloc _ _ _⟩, l, by omega, World.cell?_alloc_new _ _ _ _, World.frozen?_alloc_new _ _ _ _⟩
    refine (npot_any l (by omega) (by omega) _).mono ?_
    rintro e w1 ⟨p, hp1, hp2, rfl, rfl⟩
    obtain ⟨rb, hrb⟩ : ∃ rb, rb = w.heap.size := ⟨_, rfl⟩
    rw [← hrb] at X0 hb
    simp only [← hrb]
    have HRB := Lib.hid hrb
    clear hrb
    have zp : IntKind.u64.wrap ((p : Int) - 1) = ((p - 1 : Nat) : Int) := by
      rw [IntKind.wrap_u64]; omega
    go_wp2_with fail
    simp only [ZQ.out]
    go_wp2_with fail
    rw [show decide ((8 : Int) ≤ (l : Int)) = true from decide_eq_true g8]
    go_loopw [9] (fun x wr => ∃ t : Nat, f + 2 * q - 1 ≤ t ∧ t ≤ f + 2 * q + 2 ∧ x = .int .i64 t ∧ Hid (UX Q b off n rb w wr)) (fun x _ => f + 2 * q + 2 - (intOf x).toNat)
    case atStart => exact ⟨f + 2 * q - 1, by omega, by omega, congrArg (Value.int .i64) (by omega), X0⟩
    case round =>
      obtain ⟨t, ht0, ht1, rfl, HR⟩ := hrel
      by_cases ht : t < f + 2 * q + 2
      · have ht' : (t : Int) ≤ (f : Int) + (l : Int) / 4 * 2 + 1 := by have := ZQ.out; omega
        go_wp2_with fail
        obtain ⟨X, hX, hXc, hXf⟩ := HR.out.2
        refine (xor_any rb X hX wr hXc hXf).mono ?_
        rintro e w1 ⟨C, hC, rfl, rfl⟩
        obtain ⟨a, ha⟩ : ∃ a, a = C &&& (p - 1) := ⟨_, rfl⟩
        have zb : bits .and .u64 (C : Int) ((p - 1 : Nat) : Int) = a := by rw [bits_and_u64_nat _ _ hC (by omega), ha]
        have ha2 : a < 2 * l := by have := Nat.and_le_right (n := C) (m := p - 1); omega
        clear ha
        have za : IntKind.i64.wrap (a : Int) = a := IntWalk.i64_in _ (by omega)
        have K1 : Kept (fun k _ => k = rb) wr ((wr.setCell ⟨rb, 0, none⟩ (.int .u64 C)).drewN 3) := by
          have k := Kept.setCell (P := fun k _ => k = rb) wr rb 0 (.int .u64 C) rfl
          exact ⟨k.os, k.tape, k.output, k.size, k.cell, k.fr, k.block⟩
        have HR2 : Hid (UX Q b off n rb w ((wr.setCell ⟨rb, 0, none⟩ (.int .u64 C)).drewN 3)) := by
          refine Lib.hid ⟨⟨HR.out.1.1.kept (P := fun k => k = rb) K1 (by omega), ?_⟩, C, hC, World.cell?_setCell_same _ _ _ hXc, ?_⟩
          · exact HR.out.1.2.trans K1 (fun i o hi e => by have := HRB.out; omega)
          · exact (World.frozen?_setCell _ _ _ _).trans hXf
        clear K1
        clear hXc hXf HR
        obtain ⟨w2, hw2⟩ : ∃ w2, w2 = (wr.setCell ⟨rb, 0, none⟩ (.int .u64 C)).drewN 3 := ⟨_, rfl⟩
        rw [← hw2] at HR2 ⊢
        clear hw2
        by_cases hal : a < l
        case' pos =>
          have hal' : ¬ (l : Int) ≤ a := by omega
          go_wp2_with fail
          obtain ⟨o, ho, hoe⟩ : ∃ o, o < l ∧ o = a := ⟨a, hal, rfl⟩
          rw [← hoe]
          clear hoe hal'
        case' neg =>
          have hal' : (l : Int) ≤ a := by omega
          go_wp2_with fail
          obtain ⟨o, ho, hoe⟩ : ∃ o, o < l ∧ o = a - l := ⟨a - l, by omega, rfl⟩
          rw [show (a : Int) - l = (o : Int) by omega]
          clear hoe hal'
        all_goals
          clear hal zb za ha2 ht'
          obtain ⟨⟨u, hu, qu⟩, fu⟩ := HR2.out.1.1 t (by omega)
          obtain ⟨⟨v, hv, qv⟩, fv⟩ := HR2.out.1.1 (f + o) (by omega)
          have b0 : (t : Int) < n := by omega
          have b1 : (f : Int) + o < n := by omega
          have b2 : ((f : Int) + o).toNat = f + o := by omega
          have b3 : (0 : Int) ≤ (f : Int) + o := by omega
          have z1 : IntKind.i64.wrap ((f : Int) + o) = (f : Int) + o := IntWalk.i64_in _ (by omega)
          obtain ⟨v1, hv1⟩ := cell_setCell_some (w := w2) (p := ⟨b, off + t, none⟩) (x := .int .u32 v) hv
          obtain ⟨v2, hv2⟩ := cell_setCell_some (w := w2) (p := ⟨b, off + (f + o), none⟩) (x := .int .u32 u) hu
          go_region
          all_goals
            go_wp2_with fail
            go_roundw
            case rel =>
              refine ⟨t + 1, by omega, by omega, congrArg (Value.int .i64) (by omega), ?_⟩
              first
                | exact Lib.hid (HR2.out.swap hb t (f + o) (by omega) (by omega) qv qu)
                | exact Lib.hid (HR2.out.swap hb (f + o) t (by omega) (by omega) qu qv)
            case measure => simp [intOf]; omega
      · have ht' : ¬ (t : Int) ≤ (f : Int) + (l : Int) / 4 * 2 + 1 := by have := ZQ.out; omega
        go_wp2_with fail
        go_end0
        exact ⟨rfl, HR.out.1⟩
