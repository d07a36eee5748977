/- slices.Sort of numbers of 32 bits: the partition. Conditions: the row is there. (UNDER WAY) -/
import Derived.Test.YtfipfoplmopkaaaGreatDoorZ13
import Derived.Deep.CutRange
import Derived.Deep.CutBlock

namespace Go.Proofs.YtfipfoplmopkaaaGreatDoor
open Go.RowKit

set_option maxRecDepth 100000 in
set_option maxHeartbeats 2000000 in
theorem partition_any (Q : Int → Prop) (b off n c f l p : Nat) (w : World) (h : UR Q w b off n) (hl : f < l) (hh : l ≤ n) (hp : p < n) (hn : n < 1000000000) :
    Calls Tryz.prog 199 #[.slice (some ⟨b, off, none⟩) n c, .int .i64 f, .int .i64 l, .int .i64 p] w fun e w' => ∃ m : Nat, ∃ t : Bool, f ≤ m ∧ m < l ∧ e = .returned (.tuple #[.int .i64 m, .bool t]) ∧ US Q b off n w w' := by
  have H := Lib.hid h
  clear h
  go_enter Tryz.func199, Tryz.ntmps199
  obtain ⟨⟨u, hu, qu⟩, fu⟩ := H.out f (by omega)
  obtain ⟨⟨v, hv, qv⟩, fv⟩ := H.out p (by omega)
  have b0 : (f : Int) < n := by omega
  have b1 : (p : Int) < n := by omega
  obtain ⟨v1, hv1⟩ := cell_setCell_some (w := w) (p := ⟨b, off + f, none⟩) (x := .int .u32 v) hv
  obtain ⟨v2, hv2⟩ := cell_setCell_some (w := w) (p := ⟨b, off + p, none⟩) (x := .int .u32 u) hu
  go_upto_region 1 with fail
  go_cut [] from 12 to 25 (fun wx => Hid (US Q b off n w wx))
  case first =>
    go_region
    all_goals
      go_wp2_with fail
      go_meet
      first
        | (with_reducible exact Lib.hid ((US.refl H.out).swap f p (by omega) hp qv qu).drew)
        | (with_reducible exact Lib.hid ((US.refl H.out).swap p f hp (by omega) qu qv).drew)
  case rest =>
    have HR := Lib.hid hcut.out
    clear hu hv fu fv hv1 hv2 qu qv
    go_upto_block 0 with fail
    go_cut [10] from 30 to 45 (fun x ws => ∃ i : Nat, f < i ∧ i ≤ l ∧ x = .int .i64 i ∧ Hid (US Q b off n w ws))
    case first =>
      go_wp2_with fail
      go_loopw [10] (fun x ws => ∃ i : Nat, f < i ∧ i ≤ l ∧ x = .int .i64 i ∧ Hid (US Q b off n w ws)) (fun x _ => l - (intOf x).toNat)
      case atStart => exact ⟨f + 1, by omega, by omega, by go_num, HR⟩
      case round =>
        clear HR
        obtain ⟨i, hi0, hi1, rfl, HR⟩ := hrel
        by_cases hij : i + 1 ≤ l
        · obtain ⟨⟨x, hx, qx⟩, fx⟩ := HR.out.1 i (by omega)
          obtain ⟨⟨y, hy, qy⟩, fy⟩ := HR.out.1 f (by omega)
          have e2 : (i : Int) < n := by omega
          have hij' : (i : Int) ≤ (l : Int) - 1 := by omega
          by_cases hxy : x < y
          · go_wp2_with fail
            go_region_held3 (fun w' => w'.cell? ⟨b, off + i, none⟩ = some (.int .u32 x) ∧ w'.cell? ⟨b, off + f, none⟩ = some (.int .u32 y)) (first | exact ⟨hx, hy⟩ | go_keep) (first | (go_at_call 197; refine (less_t hxy _).mono ?_; rintro e w' ⟨rfl, rfl⟩))
            go_wp2_with fail
            go_roundw
            case rel => exact ⟨i + 1, by omega, by omega, by go_num, Lib.hid HR.out.drew⟩
            case measure => simp [intOf]; omega
          · go_wp2_with fail
            go_region_held3 (fun w' => w'.cell? ⟨b, off + i, none⟩ = some (.int .u32 x) ∧ w'.cell? ⟨b, off + f, none⟩ = some (.int .u32 y)) (first | exact ⟨hx, hy⟩ | go_keep) (first | (go_at_call 197; refine (less_f (Int.not_lt.2 hxy) _).mono ?_; rintro e w' ⟨rfl, rfl⟩))
            go_wp2_with fail
            go_meet
            exact ⟨i, hi0, hi1, rfl, Lib.hid HR.out.drew⟩
        · have e1 : decide ((i : Int) ≤ (l : Int) - 1) = false := by simp; omega
          go_wp2_with fail
          go_region
          go_wp2_with fail
          go_meet
          exact ⟨i, hi0, hi1, rfl, Lib.hid HR.out.drew⟩
    case rest =>
      clear HR
      obtain ⟨i, hi0, hi1, rfl, HR⟩ := hcut
      go_upto_block 2 with fail
      go_cut [11] from 46 to 62 (fun x ws => ∃ j : Nat, f ≤ j ∧ j < l ∧ x = .int .i64 j ∧ Hid (US Q b off n w ws))
      case first =>
        go_wp2_with fail
        go_loopw [11] (fun x ws => ∃ j : Nat, f ≤ j ∧ j < l ∧ x = .int .i64 j ∧ Hid (US Q b off n w ws)) (fun x _ => (intOf x).toNat)
        case atStart => exact ⟨l - 1, by omega, by omega, congrArg (Value.int .i64) (by omega), HR⟩
        case round =>
          clear HR
          obtain ⟨j, hj0, hj1, rfl, HR⟩ := hrel
          by_cases hij : i ≤ j
          · obtain ⟨⟨x, hx, qx⟩, fx⟩ := HR.out.1 j (by omega)
            obtain ⟨⟨y, hy, qy⟩, fy⟩ := HR.out.1 f (by omega)
            have e2 : (j : Int) < n := by omega
            have hij' : (i : Int) ≤ j := by omega
            by_cases hxy : x < y
            · go_wp2_with fail
              go_region_held3 (fun w' => w'.cell? ⟨b, off + j, none⟩ = some (.int .u32 x) ∧ w'.cell? ⟨b, off + f, none⟩ = some (.int .u32 y)) (first | exact ⟨hx, hy⟩ | go_keep) (first | (go_at_call 197; refine (less_t hxy _).mono ?_; rintro e w' ⟨rfl, rfl⟩))
              go_wp2_with fail
              go_meet
              exact ⟨j, hj0, hj1, rfl, Lib.hid HR.out.drew⟩
            · go_wp2_with fail
              go_region_held3 (fun w' => w'.cell? ⟨b, off + j, none⟩ = some (.int .u32 x) ∧ w'.cell? ⟨b, off + f, none⟩ = some (.int .u32 y)) (first | exact ⟨hx, hy⟩ | go_keep) (first | (go_at_call 197; refine (less_f (Int.not_lt.2 hxy) _).mono ?_; rintro e w' ⟨rfl, rfl⟩))
              go_wp2_with fail
              go_roundw
              case rel => exact ⟨j - 1, by omega, by omega, congrArg (Value.int .i64) (by omega), Lib.hid HR.out.drew⟩
              case measure => simp [intOf]; omega
          · have e1 : decide ((i : Int) ≤ j) = false := by simp; omega
            go_wp2_with fail
            go_region
            go_wp2_with fail
            go_meet
            exact ⟨j, hj0, hj1, rfl, Lib.hid HR.out.drew⟩
      case rest =>
        clear HR
        obtain ⟨j, hj0, hj1, rfl, HR⟩ := hcut
        by_cases hij : i ≤ j
        case neg =>
          have g3 : (j : Int) < i := by omega
          obtain ⟨⟨z, hz, qz⟩, fz⟩ := HR.out.1 j (by omega)
          obtain ⟨⟨y0, hy0, qy0⟩, fy0⟩ := HR.out.1 f (by omega)
          have e4 : (j : Int) < n := by omega
          go_wp2_with fail
          obtain ⟨v1, hv1⟩ := cell_setCell_some (w := wc) (p := ⟨b, off + j, none⟩) (x := .int .u32 y0) hy0
          obtain ⟨v2, hv2⟩ := cell_setCell_some (w := wc) (p := ⟨b, off + f, none⟩) (x := .int .u32 z) hz
          go_region
          all_goals
            go_wp2_with fail
            go_ret2
            refine ⟨j, true, by omega, by omega, rfl, ?_⟩
            first
              | (with_reducible exact (HR.out.swap j f (by omega) (by omega) qy0 qz).drew)
              | (with_reducible exact (HR.out.swap f j (by omega) (by omega) qz qy0).drew)
              | (with_reducible exact (HR.out.swap j f (by omega) (by omega) qy0 qz).drew.drew)
              | (with_reducible exact (HR.out.swap f j (by omega) (by omega) qz qy0).drew.drew)
        case pos =>
          have g3 : ¬ (j : Int) < i := by omega
          go_upto_region 10 with fail
          go_cut [] from 81 to 94 (fun wx => Hid (US Q b off n w wx))
          case first =>
            obtain ⟨⟨z, hz, qz⟩, fz⟩ := HR.out.1 i (by omega)
            obtain ⟨⟨y, hy, qy⟩, fy⟩ := HR.out.1 j (by omega)
            have e3 : (i : Int) < n := by omega
            have e4 : (j : Int) < n := by omega
            obtain ⟨v1, hv1⟩ := cell_setCell_some (w := wc) (p := ⟨b, off + i, none⟩) (x := .int .u32 y) hy
            obtain ⟨v2, hv2⟩ := cell_setCell_some (w := wc) (p := ⟨b, off + j, none⟩) (x := .int .u32 z) hz
            go_region
            all_goals
              go_wp2_with fail
              go_meet
              first
                | (with_reducible exact Lib.hid (HR.out.swap i j (by omega) (by omega) qy qz).drew)
                | (with_reducible exact Lib.hid (HR.out.swap j i (by omega) (by omega) qz qy).drew)
          case rest =>
            clear HR
            have HR := Lib.hid hcut.out
            clear hcut g3
            go_wp2_with fail
            go_loopw [10, 11] (fun x y wr => ∃ i j : Nat, f < i ∧ i ≤ l ∧ f ≤ j ∧ j < l ∧ x = .int .i64 i ∧ y = .int .i64 j ∧ Hid (US Q b off n w wr)) (fun _ y _ => (intOf y).toNat)
            case atStart =>
              exact ⟨i + 1, j - 1, by omega, by omega, by omega, by omega, by go_num, congrArg (Value.int .i64) (by omega), HR⟩
            case round =>
              clear HR hij hi0 hi1 hj0 hj1
              obtain ⟨i, j, hi0, hi1, hj0, hj1, rfl, rfl, HR⟩ := hrel
              go_wp2_with fail
              go_loopw [10] (fun x ws => ∃ i : Nat, f < i ∧ i ≤ l ∧ x = .int .i64 i ∧ Hid (US Q b off n w ws)) (fun x _ => l - (intOf x).toNat)
              case atStart => exact ⟨i, hi0, hi1, rfl, HR⟩
              case round =>
                clear HR hi0 hi1
                obtain ⟨i, hi0, hi1, rfl, HR⟩ := hrel
                by_cases hij : i ≤ j
                case' pos =>
                  obtain ⟨⟨x, hx, qx⟩, fx⟩ := HR.out.1 i (by omega)
                  obtain ⟨⟨y, hy, qy⟩, fy⟩ := HR.out.1 f (by omega)
                  have e2 : (i : Int) < n := by omega
                  have hij' : (i : Int) ≤ j := by omega
                  by_cases hxy : x < y
                  case' pos =>
                    go_wp2_with fail
                    go_region_held3 (fun w' => w'.cell? ⟨b, off + i, none⟩ = some (.int .u32 x) ∧ w'.cell? ⟨b, off + f, none⟩ = some (.int .u32 y)) (first | exact ⟨hx, hy⟩ | go_keep) (first | (go_at_call 197; refine (less_t hxy _).mono ?_; rintro e w' ⟨rfl, rfl⟩))
                    go_wp2_with fail
                    go_roundw
                    case rel => exact ⟨i + 1, by omega, by omega, by go_num, Lib.hid HR.out.drew⟩
                    case measure => simp [intOf]; omega
                  case' neg =>
                    go_wp2_with fail
                    go_region_held3 (fun w' => w'.cell? ⟨b, off + i, none⟩ = some (.int .u32 x) ∧ w'.cell? ⟨b, off + f, none⟩ = some (.int .u32 y)) (first | exact ⟨hx, hy⟩ | go_keep) (first | (go_at_call 197; refine (less_f (Int.not_lt.2 hxy) _).mono ?_; rintro e w' ⟨rfl, rfl⟩))
                    clear hij'
                case' neg =>
                  have e1 : decide ((i : Int) ≤ j) = false := by simp; omega
                  go_wp2_with fail
                  go_region
                all_goals
                  clear hij
                  go_wp2_with fail
                  go_loopw [11] (fun x ws => ∃ k : Nat, f ≤ k ∧ k ≤ j ∧ x = .int .i64 k ∧ Hid (US Q b off n w ws)) (fun x _ => (intOf x).toNat)
                  case atStart => exact ⟨j, hj0, Nat.le_refl _, rfl, Lib.hid HR.out.drew⟩
                  case round =>
                    clear HR
                    obtain ⟨k, hk0, hk1, rfl, HR⟩ := hrel
                    by_cases hik : i ≤ k
                    · obtain ⟨⟨x, hx, qx⟩, fx⟩ := HR.out.1 k (by omega)
                      obtain ⟨⟨y, hy, qy⟩, fy⟩ := HR.out.1 f (by omega)
                      have e2 : (k : Int) < n := by omega
                      have hik' : (i : Int) ≤ k := by omega
                      by_cases hxy : x < y
                      · go_wp2_with fail
                        go_region_held3 (fun w' => w'.cell? ⟨b, off + k, none⟩ = some (.int .u32 x) ∧ w'.cell? ⟨b, off + f, none⟩ = some (.int .u32 y)) (first | exact ⟨hx, hy⟩ | go_keep) (first | (go_at_call 197; refine (less_t hxy _).mono ?_; rintro e w' ⟨rfl, rfl⟩))
                        have g3 : ¬ (k : Int) < i := by omega
                        obtain ⟨⟨z, hz, qz⟩, fz⟩ := HR.out.1 i (by omega)
                        have e3 : (i : Int) < n := by omega
                        go_wp2_with fail
                        obtain ⟨v1, hv1⟩ := cell_setCell_some (w := wr) (p := ⟨b, off + i, none⟩) (x := .int .u32 x) hx
                        obtain ⟨v2, hv2⟩ := cell_setCell_some (w := wr) (p := ⟨b, off + k, none⟩) (x := .int .u32 z) hz
                        go_region
                        all_goals
                          go_wp2_with fail
                          go_roundw
                          case rel =>
                            refine ⟨i + 1, k - 1, by omega, by omega, by omega, by omega, by go_num, congrArg (Value.int .i64) (by omega), ?_⟩
                            first
                              | (with_reducible exact Lib.hid (HR.out.swap i k (by omega) (by omega) qx qz).drew.drew)
                              | (with_reducible exact Lib.hid (HR.out.swap k i (by omega) (by omega) qz qx).drew.drew)
                          case measure => simp [intOf]; omega
                      · go_wp2_with fail
                        go_region_held3 (fun w' => w'.cell? ⟨b, off + k, none⟩ = some (.int .u32 x) ∧ w'.cell? ⟨b, off + f, none⟩ = some (.int .u32 y)) (first | exact ⟨hx, hy⟩ | go_keep) (first | (go_at_call 197; refine (less_f (by omega) _).mono ?_; rintro e w' ⟨rfl, rfl⟩))
                        go_wp2_with fail
                        go_roundw
                        case rel => exact ⟨k - 1, by omega, by omega, congrArg (Value.int .i64) (by omega), Lib.hid HR.out.drew⟩
                        case measure => simp [intOf]; omega
                    · have e1 : decide ((i : Int) ≤ k) = false := by simp; omega
                      have g3 : (k : Int) < i := by omega
                      go_wp2_with fail
                      go_region
                      obtain ⟨⟨z, hz, qz⟩, fz⟩ := HR.out.1 k (by omega)
                      obtain ⟨⟨y0, hy0, qy0⟩, fy0⟩ := HR.out.1 f (by omega)
                      have e4 : (k : Int) < n := by omega
                      go_wp2_with fail
                      obtain ⟨v1, hv1⟩ := cell_setCell_some (w := wr) (p := ⟨b, off + k, none⟩) (x := .int .u32 y0) hy0
                      obtain ⟨v2, hv2⟩ := cell_setCell_some (w := wr) (p := ⟨b, off + f, none⟩) (x := .int .u32 z) hz
                      go_region
                      all_goals
                        go_wp2_with fail
                        go_ret2
                        refine ⟨k, false, by omega, by omega, rfl, ?_⟩
                        first
                          | (with_reducible exact (HR.out.swap k f (by omega) (by omega) qy0 qz).drew)
                          | (with_reducible exact (HR.out.swap f k (by omega) (by omega) qz qy0).drew)
                          | (with_reducible exact (HR.out.swap k f (by omega) (by omega) qy0 qz).drew.drew)
                          | (with_reducible exact (HR.out.swap f k (by omega) (by omega) qz qy0).drew.drew)

end Go.Proofs.YtfipfoplmopkaaaGreatDoor
