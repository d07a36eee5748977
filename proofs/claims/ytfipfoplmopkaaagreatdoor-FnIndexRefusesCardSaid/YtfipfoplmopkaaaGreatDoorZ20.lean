/- slices.Sort of numbers of 32 bits: the insertion sort that may give up. Conditions: the row is there. slices.Sort of numbers of 32 bits: pdqsortOrdered, and Sort. Conditions: the row is there. Steps of the Writer on its two other files; EncodePostingsRaw; writePosting. Conditions: bounds on lengths. -/
import Derived.Test.YtfipfoplmopkaaaGreatDoorZ14
import Derived.Test.YtfipfoplmopkaaaGreatDoorZ18
import Derived.Test.YtfipfoplmopkaaaGreatDoorZ19
import Derived.Deep.LoopGhost

namespace Go.Proofs.YtfipfoplmopkaaaGreatDoor
open Go.RowKit

set_option maxRecDepth 100000 in
set_option maxHeartbeats 2000000 in
theorem partIns_any (Q : Int → Prop) (b off n c f l : Nat) (w : World) (h : UR Q w b off n) (hl : f < l) (hh : l ≤ n) (hn : n < 1000000000) :
    Calls Tryz.prog 196 #[.slice (some ⟨b, off, none⟩) n c, .int .i64 f, .int .i64 l] w fun e w' => ∃ t : Bool, e = .returned (.bool t) ∧ US Q b off n w w' := by
  have H := Lib.hid h
  clear h
  go_enter Tryz.func196, Tryz.ntmps196
  go_wp2_with fail
  go_loopg [7, 8] 5 (fun m x y wr => ∃ i j : Nat, f < i ∧ i ≤ l ∧ j ≤ 5 ∧ 5 - j ≤ m ∧ x = .int .i64 i ∧ y = .int .i64 j ∧ Hid (US Q b off n w wr))
  case atStart => exact ⟨f + 1, 0, by omega, by omega, by omega, by omega, by go_num, rfl, Lib.hid (US.refl H.out)⟩
  case round =>
    obtain ⟨i, k, hi0, hi1, hk, hkm, rfl, rfl, HR⟩ := hrel
    by_cases hk5 : k < 5
    case neg =>
      go_wp2_with fail
      go_ret
      exact ⟨false, rfl, HR.out⟩
    case pos =>
      have hk5' : (k : Int) < 5 := by omega
      go_wp2_with fail
      go_loopw [7] (fun x ws => ∃ i : Nat, f < i ∧ i ≤ l ∧ x = .int .i64 i ∧ Hid (US Q b off n w ws)) (fun x _ => l - (intOf x).toNat)
      case atStart => exact ⟨i, hi0, hi1, rfl, HR⟩
      case round =>
        clear HR hi0 hi1
        obtain ⟨i, hi0, hi1, rfl, HR⟩ := hrel
        by_cases hlt : i < l
        case neg =>
          obtain rfl : i = l := by omega
          have e1 : decide ((i : Int) < i) = false := by simp
          go_wp2_with fail
          go_region
          go_wp2_with fail
          go_ret
          exact ⟨true, rfl, HR.out.drew⟩
        case pos =>
          obtain ⟨q, rfl⟩ : ∃ q, i = q + 1 := ⟨i - 1, by omega⟩
          obtain ⟨⟨x, hx, qx⟩, fx⟩ := HR.out.1 (q + 1) (by omega)
          obtain ⟨⟨y, hy, qy⟩, fy⟩ := HR.out.1 q (by omega)
          have e1 : (q : Int) + 1 < n := by omega
          have e2 : (q : Int) < n := by omega
          have e3 : (0 : Int) ≤ (q : Int) + 1 := by omega
          have e5 : (q : Int) + 1 < l := by omega
          have z1 : IntKind.i64.wrap (q : Int) = q := IntWalk.i64_in _ (by omega)
          have z2 : ((q : Int) + 1).toNat = q + 1 := by omega
          by_cases hxy : x < y
          case neg =>
            go_wp2_with fail
            go_region_held3 (fun w' => w'.cell? ⟨b, off + (q + 1), none⟩ = some (.int .u32 x) ∧ w'.cell? ⟨b, off + q, none⟩ = some (.int .u32 y)) (first | exact ⟨hx, hy⟩ | go_keep) (first | (go_at_call 197; refine (less_f (by omega) _).mono ?_; rintro e w' ⟨rfl, rfl⟩))
            go_wp2_with fail
            go_roundw
            case rel => exact ⟨q + 2, by omega, by omega, by go_num, Lib.hid HR.out.drew⟩
            case measure => simp [intOf]; omega
          case pos =>
            go_wp2_with fail
            go_region_held3 (fun w' => w'.cell? ⟨b, off + (q + 1), none⟩ = some (.int .u32 x) ∧ w'.cell? ⟨b, off + q, none⟩ = some (.int .u32 y)) (first | exact ⟨hx, hy⟩ | go_keep) (first | (go_at_call 197; refine (less_t hxy _).mono ?_; rintro e w' ⟨rfl, rfl⟩))
            have n1 : ((q : Int) + 1 == l) = false := by rw [beq_eq_false_iff_ne]; omega
            by_cases h50 : (l : Int) - f < 50
            case pos =>
              go_wp2_with fail
              go_ret
              exact ⟨false, rfl, HR.out.drew⟩
            case neg =>
              obtain ⟨v1, hv1⟩ := cell_setCell_some (w := wr.drew) (p := ⟨b, off + (q + 1), none⟩) (x := .int .u32 y) hy
              obtain ⟨v2, hv2⟩ := cell_setCell_some (w := wr.drew) (p := ⟨b, off + q, none⟩) (x := .int .u32 x) hx
              go_upto_region 11 with fail
              go_cut [] from 13 to 132 (fun wx => Hid (US Q b off n w wx))
              case first =>
                go_region
                all_goals
                  go_wp2_with fail
                  go_meet
                  first
                    | (with_reducible exact Lib.hid (HR.out.swap (q + 1) q (by omega) (by omega) qy qx).drew.drew)
                    | (with_reducible exact Lib.hid (HR.out.swap q (q + 1) (by omega) (by omega) qx qy).drew.drew)
              case rest =>
                clear HR hx hy hv1 hv2 qx qy fx fy n1 hxy
                have HR := Lib.hid hcut.out
                clear hcut
                go_upto_if 61 with fail
                go_cut [] from 13 to 132 (fun wx => Hid (US Q b off n w wx))
                case first =>
                  by_cases h2 : (2 : Int) ≤ (q : Int) + 1 - f
                  case neg =>
                    go_wp2_with fail
                    go_meet
                    exact HR
                  case pos =>
                    go_wp2_with fail
                    go_loopw [9] (fun x ws => ∃ j : Nat, j ≤ q ∧ x = .int .i64 j ∧ Hid (US Q b off n w ws)) (fun x _ => (intOf x).toNat)
                    case atStart => exact ⟨q, Nat.le_refl _, congrArg (Value.int .i64) (by omega), HR⟩
                    case round =>
                      clear HR
                      obtain ⟨j, hj0, rfl, HR⟩ := hrel
                      by_cases hj1 : 1 ≤ j
                      case neg =>
                        have hj1' : ¬ (1 : Int) ≤ j := by omega
                        go_wp2_with fail
                        go_meet
                        exact HR
                      case pos =>
                        obtain ⟨r, rfl⟩ : ∃ r, j = r + 1 := ⟨j - 1, by omega⟩
                        obtain ⟨⟨x, hx, qx⟩, fx⟩ := HR.out.1 (r + 1) (by omega)
                        obtain ⟨⟨y, hy, qy⟩, fy⟩ := HR.out.1 r (by omega)
                        have j1 : (r : Int) + 1 < n := by omega
                        have j2 : (r : Int) < n := by omega
                        have j3 : (0 : Int) ≤ (r : Int) + 1 := by omega
                        have j4 : (1 : Int) ≤ (r : Int) + 1 := by omega
                        have y1 : IntKind.i64.wrap (r : Int) = r := IntWalk.i64_in _ (by omega)
                        have y2 : ((r : Int) + 1).toNat = r + 1 := by omega
                        by_cases hxy : x < y
                        case neg =>
                          go_wp2_with fail
                          go_region_held3 (fun w' => w'.cell? ⟨b, off + (r + 1), none⟩ = some (.int .u32 x) ∧ w'.cell? ⟨b, off + r, none⟩ = some (.int .u32 y)) (first | exact ⟨hx, hy⟩ | go_keep) (first | (go_at_call 197; refine (less_f (by omega) _).mono ?_; rintro e w' ⟨rfl, rfl⟩))
                          go_wp2_with fail
                          go_meet
                          exact Lib.hid HR.out.drew
                        case pos =>
                          go_wp2_with fail
                          go_region_held3 (fun w' => w'.cell? ⟨b, off + (r + 1), none⟩ = some (.int .u32 x) ∧ w'.cell? ⟨b, off + r, none⟩ = some (.int .u32 y)) (first | exact ⟨hx, hy⟩ | go_keep) (first | (go_at_call 197; refine (less_t hxy _).mono ?_; rintro e w' ⟨rfl, rfl⟩))
                          go_wp2_with fail
                          obtain ⟨v1, hv1⟩ := cell_setCell_some (w := wr.drew) (p := ⟨b, off + (r + 1), none⟩) (x := .int .u32 y) hy
                          obtain ⟨v2, hv2⟩ := cell_setCell_some (w := wr.drew) (p := ⟨b, off + r, none⟩) (x := .int .u32 x) hx
                          go_region
                          all_goals
                            go_wp2_with fail
                            go_roundw
                            case rel => exact ⟨r, by omega, congrArg (Value.int .i64) (by omega), Lib.hid (by first | (with_reducible exact (HR.out.swap (r + 1) r (by omega) (by omega) qy qx).drew.drew) | (with_reducible exact (HR.out.swap r (r + 1) (by omega) (by omega) qx qy).drew.drew))⟩
                            case measure => simp [intOf]
                case rest =>
                  clear HR
                  have HR := Lib.hid hcut.out
                  clear hcut
                  by_cases h2 : (2 : Int) ≤ (l : Int) - ((q : Int) + 1)
                  case neg =>
                    go_wp2_with fail
                    go_roundg (5 - (k + 1))
                    case measure => omega
                    case rel => exact ⟨q + 1, k + 1, by omega, by omega, by omega, Nat.le_refl _, by go_num, by go_num, HR⟩
                  case pos =>
                    go_wp2_with fail
                    go_loopw [10] (fun x ws => ∃ j : Nat, 1 ≤ j ∧ j ≤ l ∧ x = .int .i64 j ∧ Hid (US Q b off n w ws)) (fun x _ => l - (intOf x).toNat)
                    case atStart => exact ⟨q + 2, by omega, by omega, by go_num, HR⟩
                    case round =>
                      clear HR
                      obtain ⟨j, hj0, hj1, rfl, HR⟩ := hrel
                      obtain ⟨r, rfl⟩ : ∃ r, j = r + 1 := ⟨j - 1, by omega⟩
                      by_cases hj2 : r + 1 < l
                      case neg =>
                        have hj2' : ¬ (r : Int) + 1 < l := by omega
                        go_wp2_with fail
                        go_roundg (5 - (k + 1))
                        case measure => omega
                        case rel => exact ⟨q + 1, k + 1, by omega, by omega, by omega, Nat.le_refl _, by go_num, by go_num, HR⟩
                      case pos =>
                        obtain ⟨⟨x, hx, qx⟩, fx⟩ := HR.out.1 (r + 1) (by omega)
                        obtain ⟨⟨y, hy, qy⟩, fy⟩ := HR.out.1 r (by omega)
                        have j1 : (r : Int) + 1 < n := by omega
                        have j2 : (r : Int) < n := by omega
                        have j3 : (0 : Int) ≤ (r : Int) + 1 := by omega
                        have j4 : (r : Int) + 1 < l := by omega
                        have y1 : IntKind.i64.wrap (r : Int) = r := IntWalk.i64_in _ (by omega)
                        have y2 : ((r : Int) + 1).toNat = r + 1 := by omega
                        by_cases hxy : x < y
                        case neg =>
                          go_wp2_with fail
                          go_region_held3 (fun w' => w'.cell? ⟨b, off + (r + 1), none⟩ = some (.int .u32 x) ∧ w'.cell? ⟨b, off + r, none⟩ = some (.int .u32 y)) (first | exact ⟨hx, hy⟩ | go_keep) (first | (go_at_call 197; refine (less_f (by omega) _).mono ?_; rintro e w' ⟨rfl, rfl⟩))
                          go_wp2_with fail
                          go_roundg (5 - (k + 1))
                          case measure => omega
                          case rel => exact ⟨q + 1, k + 1, by omega, by omega, by omega, Nat.le_refl _, by go_num, by go_num, Lib.hid HR.out.drew⟩
                        case pos =>
                          go_wp2_with fail
                          go_region_held3 (fun w' => w'.cell? ⟨b, off + (r + 1), none⟩ = some (.int .u32 x) ∧ w'.cell? ⟨b, off + r, none⟩ = some (.int .u32 y)) (first | exact ⟨hx, hy⟩ | go_keep) (first | (go_at_call 197; refine (less_t hxy _).mono ?_; rintro e w' ⟨rfl, rfl⟩))
                          go_wp2_with fail
                          obtain ⟨v1, hv1⟩ := cell_setCell_some (w := wr.drew) (p := ⟨b, off + (r + 1), none⟩) (x := .int .u32 y) hy
                          obtain ⟨v2, hv2⟩ := cell_setCell_some (w := wr.drew) (p := ⟨b, off + r, none⟩) (x := .int .u32 x) hx
                          go_region
                          all_goals
                            go_wp2_with fail
                            go_roundw
                            case rel => exact ⟨r + 2, by omega, by omega, by go_num, Lib.hid (by first | (with_reducible exact (HR.out.swap (r + 1) r (by omega) (by omega) qy qx).drew.drew) | (with_reducible exact (HR.out.swap r (r + 1) (by omega) (by omega) qx qy).drew.drew))⟩
                            case measure => simp [intOf]; omega

end Go.Proofs.YtfipfoplmopkaaaGreatDoor

namespace Go.Proofs.YtfipfoplmopkaaaGreatDoor
open Go.RowKit

set_option maxRecDepth 100000 in
set_option maxHeartbeats 4000000 in
theorem pdq_any (Q : Int → Prop) (b off n c : Nat) (hn : n < 1000000000) : ∀ (m f l lim : Nat) (w : World), l - f ≤ m → f ≤ l → l ≤ n → lim < 1000 → UR Q w b off n → b < w.heap.size →
    Calls Tryz.prog 163 #[.slice (some ⟨b, off, none⟩) n c, .int .i64 f, .int .i64 l, .int .i64 lim] w fun e w' => e = .returned (.tuple #[]) ∧ US Q b off n w w' := by
  intro m
  induction m using Nat.strongRecOn with
  | _ m ih0 =>
    intro f l lim w hm hfl hl hlim h hb
    have H := Lib.hid h
    have IH := Lib.hid ih0
    clear h ih0
    go_enter Tryz.func163, Tryz.ntmps163
    go_wp2
    go_loopg [1, 2, 3, 8, 9] (l - f) (fun k s1 s2 s3 s8 s9 wr => ∃ (a' b' lim' : Nat) (wb wp : Bool), s1 = .int .i64 a' ∧ s2 = .int .i64 b' ∧ s3 = .int .i64 lim' ∧ s8 = .bool wb ∧ s9 = .bool wp ∧ f ≤ a' ∧ a' ≤ b' ∧ b' ≤ l ∧ b' - a' ≤ k ∧ k ≤ l - f ∧ lim' ≤ lim ∧ Hid (US Q b off n w wr))
    case atStart => exact ⟨f, l, lim, true, true, rfl, rfl, rfl, rfl, rfl, Nat.le_refl _, hfl, Nat.le_refl _, Nat.le_refl _, Nat.le_refl _, Nat.le_refl _, Lib.hid (US.refl H.out)⟩
    case round =>
      obtain ⟨a', b', lim', wb, wp, rfl, rfl, rfl, rfl, rfl, hfa, hab, hbl, hk, hkN, hlm, HR⟩ := hrel
      have hbn : b' ≤ n := by omega
      by_cases h12 : b' - a' ≤ 12
      · have h12z : (b' : Int) - (a' : Int) ≤ 12 := by omega
        go_wp2_with fail
        refine (insSort_any Q b off n c a' b' wr HR.out.1 hab hbn hn).mono ?_
        rintro e w1 ⟨rfl, hw1⟩
        have HW := Lib.hid (HR.out.trans hw1)
        clear hw1
        go_wp2
        (try simp only [Exit.inBlock, Exit.then]); refine bodyPost_ret (results_none rfl _ _ _) rfl ?_
        exact ⟨rfl, HW.out⟩
      · have h12z : ¬ ((b' : Int) - (a' : Int) ≤ 12) := by omega
        by_cases hl0 : lim' = 0
        · subst hl0
          have hc := heapSort_any Q b off n c a' (b' - a') wr HR.out.1 (by omega) (by omega) hn
          rw [show a' + (b' - a') = b' by omega] at hc
          have HC := Lib.hid hc
          clear hc
          go_wp2_with fail
          refine HC.out.mono ?_
          rintro e w1 ⟨rfl, hw1⟩
          have HW := Lib.hid (HR.out.trans hw1)
          clear hw1
          go_wp2
          (try simp only [Exit.inBlock, Exit.then]); refine bodyPost_ret (results_none rfl _ _ _) rfl ?_
          exact ⟨rfl, HW.out⟩
        · have hl0z : ¬ ((lim' : Int) = 0) := by omega
          go_upto_if 35 with fail
          go_cut [3] from 19 to 133 (fun s3 wx => ∃ lim2 : Nat, s3 = .int .i64 lim2 ∧ lim2 ≤ lim ∧ Hid (US Q b off n w wx))
          case first =>
            cases wb
            · have hc := breakPatterns_any Q b off n c a' (b' - a') wr HR.out.1 (Nat.lt_of_lt_of_le hb HR.out.2.size) (by omega) hn
              rw [show a' + (b' - a') = b' by omega] at hc
              have HC := Lib.hid hc
              clear hc
              go_wp2_with fail
              refine HC.out.mono ?_
              rintro e w1 ⟨rfl, hw1⟩
              have HW := Lib.hid (HR.out.trans hw1)
              clear hw1
              go_wp2_with fail
              go_meet
              exact ⟨lim' - 1, congrArg (Value.int .i64) (by omega), by omega, HW⟩
            · go_wp2_with fail
              go_meet
              exact ⟨lim', rfl, hlm, HR⟩
          case rest =>
            clear hl0 hl0z hlm HR
            obtain ⟨lim2, rfl, hlm, HR⟩ := hcut
            have hc := choosePivot_any Q b off n c a' (b' - a') wc HR.out.1 (by omega) (by omega) hn (Nat.lt_of_lt_of_le hb HR.out.2.size)
            rw [show a' + (b' - a') = b' by omega] at hc
            have HC := Lib.hid hc
            clear hc
            go_upto_if 50 with (go_at_call 194; refine HC.out.mono ?_; rintro e w2 ⟨p, t, rfl, hp0, hp1, ht0, ht1, kp⟩)
            have HR2 := Lib.hid (HR.out.trans ⟨HR.out.1.kept (P := fun _ => False) kp id, kp.mono (fun _ _ _ => False.elim)⟩)
            clear kp HR HC
            go_cut [11, 12] from 19 to 133 (fun s11 s12 wx => ∃ (p : Nat) (t : Int), s11 = .int .i64 p ∧ s12 = .int .i64 t ∧ a' ≤ p ∧ p < b' ∧ Hid (US Q b off n w wx))
            case first =>
              by_cases ht : t = 2
              · subst ht
                go_wp2_with fail
                refine (reverse_any Q b off n c a' b' w2 HR2.out.1 (by omega) hbn (by omega) hn).mono ?_
                rintro e w3 ⟨rfl, hw3⟩
                have HW := Lib.hid (HR2.out.trans hw3)
                clear hw3
                go_wp2_with fail
                go_meet
                exact ⟨b' - 1 - (p - a'), 1, congrArg (Value.int .i64) (by omega), rfl, by omega, by omega, HW⟩
              · go_wp2_with fail
                go_meet
                exact ⟨p, t, rfl, rfl, hp0, hp1, HR2⟩
            case rest =>
              clear HR2 hp0 hp1 ht0 ht1 p t
              obtain ⟨p, t, rfl, rfl, hp0, hp1, HR⟩ := hcut
              go_upto_region 15 with fail
              go_cut [68] from 19 to 133 (fun s68 wx => ∃ q : Bool, s68 = .bool q ∧ wx = wc)
              case first =>
                by_cases ht : t = 1
                · subst ht
                  cases wb <;> cases wp <;> (go_wp2_with fail; go_meet; exact ⟨_, rfl, rfl⟩)
                · have ht' : (t == 1) = false := by rw [beq_eq_false_iff_ne]; exact ht
                  cases wb <;> cases wp <;> (go_wp2_with fail; go_meet; exact ⟨_, rfl, rfl⟩)
              case rest =>
                obtain ⟨q, rfl, rfl⟩ := hcut
                go_upto_if 68 with fail
                go_cut [] from 19 to 133 (fun wx => Hid (US Q b off n w wx))
                case first =>
                  cases q
                  · go_wp2_with fail
                    go_meet
                    exact HR
                  · go_wp2_with fail
                    refine (partIns_any Q b off n c a' b' _ HR.out.1 (by omega) hbn hn).mono ?_
                    rintro e w4 ⟨r, rfl, hw4⟩
                    have HW := Lib.hid (HR.out.trans hw4)
                    clear hw4
                    cases r
                    · go_wp2_with fail
                      go_meet
                      exact HW
                    · go_wp2_with fail
                      (try simp only [Exit.inBlock, Exit.then]); refine bodyPost_ret (results_none rfl _ _ _) rfl ?_
                      exact ⟨rfl, HW.out⟩
                case rest =>
                  clear HR
                  have HR := Lib.hid hcut.out
                  clear hcut
                  go_upto_region 17 with fail
                  go_cut [87] from 19 to 133 (fun s87 wx => ∃ q : Bool, s87 = .bool q ∧ Hid (US Q b off n w wx))
                  case first =>
                    by_cases ha0 : a' = 0
                    · have ha0z : decide ((a' : Int) > 0) = false := decide_eq_false (by omega)
                      go_region
                      go_wp2_with fail
                      go_meet
                      exact ⟨_, rfl, Lib.hid HR.out.drew⟩
                    · obtain ⟨r, rfl⟩ : ∃ r, a' = r + 1 := ⟨a' - 1, by omega⟩
                      obtain ⟨⟨x, hx, qx⟩, fx⟩ := HR.out.1 r (by omega)
                      obtain ⟨⟨y, hy, qy⟩, fy⟩ := HR.out.1 p (by omega)
                      have e1 : (r : Int) < n := by omega
                      have e2 : (p : Int) < n := by omega
                      have e3 : (r : Int) + 1 > 0 := by omega
                      have z1 : IntKind.i64.wrap (r : Int) = r := IntWalk.i64_in _ (by omega)
                      go_region_held3 (fun w' => w'.cell? ⟨b, off + r, none⟩ = some (.int .u32 x) ∧ w'.cell? ⟨b, off + p, none⟩ = some (.int .u32 y)) (first | exact ⟨hx, hy⟩ | go_keep) (first | (go_at_call 197; refine (less_any _ _ _).mono ?_; rintro e w' ⟨rfl, rfl⟩))
                      go_wp2_with fail
                      go_meet
                      exact ⟨_, rfl, Lib.hid HR.out.drew⟩
                  case rest =>
                    clear HR
                    obtain ⟨q, rfl, HR⟩ := hcut
                    cases q
                    · have hc := partition_any Q b off n c a' b' p wc HR.out.1 (by omega) hbn (by omega) hn
                      have HC := Lib.hid hc
                      clear hc
                      go_upto_if 113 with (go_at_call 199; refine HC.out.mono ?_; rintro e w7 ⟨mid, ap, hm0, hm1, rfl, hw7⟩)
                      have HW := Lib.hid (HR.out.trans hw7)
                      clear hw7 HR HC
                      by_cases h4 : mid - a' < b' - mid
                      · have h4z : (mid : Int) - (a' : Int) < (b' : Int) - (mid : Int) := by omega
                        have hc := IH.out (mid - a') (by omega) a' mid lim2 w7 (Nat.le_refl _) hm0 (by omega) (by omega) HW.out.1 (Nat.lt_of_lt_of_le hb HW.out.2.size)
                        have HC := Lib.hid hc
                        clear hc
                        go_wp2_with (go_at_call 163; refine HC.out.mono ?_; rintro e w8 ⟨rfl, hw8⟩)
                        have HZ := Lib.hid (HW.out.trans hw8)
                        clear hw8
                        go_roundg (b' - (mid + 1))
                        case measure => omega
                        case rel => exact ⟨mid + 1, b', lim2, _, _, by go_num, rfl, rfl, rfl, rfl, by omega, by omega, hbl, Nat.le_refl _, by omega, hlm, HZ⟩
                      · have h4z : ¬ ((mid : Int) - (a' : Int) < (b' : Int) - (mid : Int)) := by omega
                        have hc := IH.out (b' - (mid + 1)) (by omega) (mid + 1) b' lim2 w7 (Nat.le_refl _) (by omega) hbn (by omega) HW.out.1 (Nat.lt_of_lt_of_le hb HW.out.2.size)
                        have HC := Lib.hid hc
                        clear hc
                        go_wp2_with (go_at_call 163; refine HC.out.mono ?_; rintro e w8 ⟨rfl, hw8⟩)
                        have HZ := Lib.hid (HW.out.trans hw8)
                        clear hw8
                        go_roundg (mid - a')
                        case measure => omega
                        case rel => exact ⟨a', mid, lim2, _, _, rfl, rfl, rfl, rfl, rfl, hfa, hm0, by omega, Nat.le_refl _, by omega, hlm, HZ⟩
                    · have hc := partEq_any Q b off n c a' b' p wc HR.out.1 (by omega) hbn (by omega) hn
                      have HC := Lib.hid hc
                      clear hc
                      go_wp2_with (go_at_call 198; refine HC.out.mono ?_; rintro e w7 ⟨mid, hm0, hm1, rfl, hw7⟩)
                      have HZ := Lib.hid (HR.out.trans hw7)
                      clear hw7
                      go_roundg (b' - mid)
                      case measure => omega
                      case rel => exact ⟨mid, b', lim2, wb, wp, rfl, rfl, rfl, rfl, rfl, by omega, hm1, hbl, Nat.le_refl _, by omega, hlm, HZ⟩

theorem len64_u32 : True := trivial

end Go.Proofs.YtfipfoplmopkaaaGreatDoor

namespace Go.Proofs.YtfipfoplmopkaaaGreatDoor
open Go.RowKit Go.Maps

/-- fPO.Write(w.buf1.Get()), behind the slice that is laid for it. -/
theorem WI.writeO1 {w : World} {G : Gh} (h : WI w G) {b o : Nat} (hb : G.wb = b) (ho : G.ob = o) {v : Value} (hv : w.cell? ⟨b, 12, none⟩ = some v) (hl : G.lo.length + G.l1.length < 1000000000) (hfo : G.zo = false) :
    Calls Tryz.prog 101 #[.pointer (some ⟨o, 0, none⟩), .slice (some ⟨w.heap.size, 0, none⟩) 1 1] (w.alloc (.cells #[v] 27)) fun e w' => e = .returned .nilIface ∧ ∃ g n, Reach w G w' (G.fo g (G.lo ++ G.l1) n) := by
  subst hb
  subst ho
  obtain ⟨ao, n, c, hv', _, hrd⟩ := h.rd1
  obtain rfl : v = .slice ao n c := by rw [hv] at hv'; exact Option.some.inj hv'
  have ha := h.alloc (.cells #[.slice ao n c] 27)
  refine (fwWrite_any G.ob w.heap.size 0 1 1 G.go G.lo [G.l1] _ ha.o (rows_one h.o (hrd G.ob G.go 4 13 h.t4 (by decide) h.t13 (by decide))) rfl (by decide) (by simpa using hl)).mono ?_
  rintro e w' ⟨he, p⟩
  obtain ⟨g, r⟩ := ha.wror p hfo
  have r' := ((Reach.refl h).alloc _).trans r
  rw [show [G.l1].flatten = G.l1 by simp] at r'
  exact ⟨he, g, _, r'⟩

/-- fP.Write(w.buf2.Get(), w.buf1.Get()), behind the slice that is laid for it. -/
theorem WI.writeP21 {w : World} {G : Gh} (h : WI w G) {b p : Nat} (hb : G.wb = b) (hp : G.pb = p) {v v' : Value} (hv : w.cell? ⟨b, 23, none⟩ = some v) (hv2 : w.cell? ⟨b, 12, none⟩ = some v') (hl : G.lp.length + (G.l2.length + G.l1.length) < 1000000000) :
    Calls Tryz.prog 101 #[.pointer (some ⟨p, 0, none⟩), .slice (some ⟨w.heap.size, 0, none⟩) 2 2] (w.alloc (.cells #[v, v'] 27)) fun e w' => e = .returned .nilIface ∧ ∃ g n, Reach w G w' (G.fp g (G.lp ++ (G.l2 ++ G.l1)) n) := by
  subst hb
  subst hp
  obtain ⟨ao, n, c, hw, _, hrd⟩ := h.rd2
  obtain ⟨ao2, n2, c2, hw2, _, hrd2⟩ := h.rd1
  obtain rfl : v = .slice ao n c := by rw [hv] at hw; exact Option.some.inj hw
  obtain rfl : v' = .slice ao2 n2 c2 := by rw [hv2] at hw2; exact Option.some.inj hw2
  have ha := h.alloc (.cells #[.slice ao n c, .slice ao2 n2 c2] 27)
  refine (fwWrite_any G.pb w.heap.size 0 2 2 G.gp G.lp [G.l2, G.l1] _ ha.p (rows_two h.p (hrd G.pb G.gp 3 12 h.t3 (by decide) h.t12 (by decide)) (hrd2 G.pb G.gp 3 12 h.t3 (by decide) h.t12 (by decide))) rfl (by decide) (by simpa using hl)).mono ?_
  rintro e w' ⟨he, p⟩
  obtain ⟨g, r⟩ := ha.wrpr p
  have r' := ((Reach.refl h).alloc _).trans r
  rw [show [G.l2, G.l1].flatten = G.l2 ++ G.l1 by simp] at r'
  exact ⟨he, g, _, r'⟩

/-- fP.AddPadding. -/
theorem WI.padP {w : World} {G : Gh} (h : WI w G) {p : Nat} (hp : G.pb = p) (s : Nat) (hs0 : 0 < s) (hs : s ≤ 64) (hl : G.lp.length < 100000000) :
    Calls Tryz.prog 104 #[.pointer (some ⟨p, 0, none⟩), .int .i64 s] w fun e w' => e = .returned .nilIface ∧ ∃ g n, Reach w G w' (G.fp g (G.lp ++ zeros (padN G.lp.length s)) n) := by
  subst hp
  refine (fwPad_any G.pb s G.gp G.lp w h.p hs0 hs hl).mono ?_
  rintro e w' ⟨he, p⟩
  obtain ⟨g, r⟩ := h.wrpr p
  exact ⟨he, g, _, r⟩

/-- The main file's AddPadding. -/
theorem WI.padF {w : World} {G : Gh} (h : WI w G) {p : Nat} (hp : G.fb = p) (s : Nat) (hs0 : 0 < s) (hs : s ≤ 64) (hl : G.lf.length < 100000000) (hm : G.zm = false) :
    Calls Tryz.prog 104 #[.pointer (some ⟨p, 0, none⟩), .int .i64 s] w fun e w' => e = .returned .nilIface ∧ ∃ g n, Reach w G w' (G.ff g (G.lf ++ zeros (padN G.lf.length s)) n) := by
  subst hp
  refine (fwPad_any G.fb s G.gf G.lf w h.f hs0 hs hl).mono ?_
  rintro e w' ⟨he, p⟩
  obtain ⟨g, r⟩ := h.wrfr p hm
  exact ⟨he, g, _, r⟩
theorem WI.padW {w : World} {G : Gh} (h : WI w G) {b : Nat} (hb : G.wb = b) (s : Nat) (hs0 : 0 < s) (hs : s ≤ 64) (hl : G.lf.length < 100000000) (hm : G.zm = false) :
    Calls Tryz.prog 59 #[.pointer (some ⟨b, 0, none⟩), .int .i64 s] w fun e w' => e = .returned .nilIface ∧ ∃ g n, Reach w G w' (G.ff g (G.lf ++ zeros (padN G.lf.length s)) n) := by
  subst hb
  refine (wPad_any G.wb G.fb s G.gf G.lf w (h.fld 0 (by decide) (by decide) h.c0) h.f hs0 hs hl).mono ?_
  rintro e w' ⟨he, p⟩
  obtain ⟨g, r⟩ := h.wrfr p hm
  exact ⟨he, g, _, r⟩

/-- Only buf1 has turned. -/
structure OB (G G' : Gh) : Prop where
  g2 : G'.g2 = G.g2
  l2 : G'.l2 = G.l2
  gf : G'.gf = G.gf
  gp : G'.gp = G.gp
  go : G'.go = G.go
  lf : G'.lf = G.lf
  lp : G'.lp = G.lp
  lo : G'.lo = G.lo
  cs : G'.cs = G.cs
  ns : G'.ns = G.ns
  S : G'.S = G.S
  nl : G'.nl = G.nl
  L : G'.L = G.L
  wn : G'.wn = G.wn
  zm : G'.zm = G.zm
  zo : G'.zo = G.zo
theorem OB.refl (G : Gh) : OB G G := ⟨rfl, rfl, rfl, rfl, rfl, rfl, rfl, rfl, rfl, rfl, rfl, rfl, rfl, rfl, rfl, rfl⟩
theorem OB.trans {G G1 G2 : Gh} (h : OB G G1) (k : OB G1 G2) : OB G G2 :=
  ⟨k.g2.trans h.g2, k.l2.trans h.l2, k.gf.trans h.gf, k.gp.trans h.gp, k.go.trans h.go, k.lf.trans h.lf, k.lp.trans h.lp, k.lo.trans h.lo, k.cs.trans h.cs, k.ns.trans h.ns, k.S.trans h.S, k.nl.trans h.nl, k.L.trans h.L, k.wn.trans h.wn, k.zm.trans h.zm, k.zo.trans h.zo⟩
theorem OB.b1 (G : Gh) (g : Option Nat) (l : List UInt8) (n : Nat) : OB G (G.b1 g l n) := ⟨rfl, rfl, rfl, rfl, rfl, rfl, rfl, rfl, rfl, rfl, rfl, rfl, rfl, rfl, rfl, rfl⟩

/-- A row of numbers of 32 bits, in a block that is nobody's of the Writer's. -/
def U32s (w : World) (G : Gh) (ao : Option Addr) (xs : List Nat) : Prop := ∀ (j x : Nat), xs[j]? = some x → ∃ k off, ao = some ⟨k, off, none⟩ ∧ G.T k = 0 ∧ w.cell? ⟨k, off + j, none⟩ = some (.int .u32 x) ∧ x < 4294967296

def raw32 (xs : List Nat) : List UInt8 := (xs.map be32).flatten
theorem raw32_len (xs : List Nat) : (raw32 xs).length = 4 * xs.length := by
  unfold raw32
  induction xs with
  | nil => rfl
  | cons x r ih => simp [be32] at ih ⊢; omega
theorem raw32_snoc {xs : List Nat} {j x : Nat} (h : xs[j]? = some x) : raw32 (xs.take (j + 1)) = raw32 (xs.take j) ++ be32 x := by
  have hj : j < xs.length := by
    rcases Nat.lt_or_ge j xs.length with h' | h'
    · exact h'
    · rw [List.getElem?_eq_none h'] at h; cases h
  rw [List.getElem?_eq_getElem hj] at h
  cases h
  unfold raw32
  rw [List.take_succ_eq_append_getElem hj, List.map_append, List.flatten_append, List.map_cons, List.map_nil, List.flatten_cons, List.flatten_nil, List.append_nil]

set_option maxRecDepth 100000 in
set_option maxHeartbeats 1000000 in
/-- EncodePostingsRaw, into buf1. -/
theorem encRaw_any (w : World) (G : Gh) (h : WI w G) (b : Nat) (hb : G.wb = b) (ao : Option Addr) (n c : Nat) (xs : List Nat) (hn : n = xs.length) (hx : U32s w G ao xs) (hl : G.l1.length + 4 * n < 100000000) :
    Calls Tryz.prog 80 #[.pointer (some ⟨b, 12, none⟩), .slice ao n c] w fun e w' => e = .returned .nilIface ∧ Aft w G w' (fun G' => G'.l1 = G.l1 ++ (be32 n ++ raw32 xs) ∧ OB G G') := by
  have H := Lib.hid h
  have HB := Lib.hid hb
  have HX := Lib.hid hx
  have HN := Lib.hid hn
  have hn9 : n < 100000000 := by omega
  obtain ⟨s0, hs0⟩ : ∃ s0, s0 = G.l1.length := ⟨_, rfl⟩
  rw [← hs0] at hl
  have HS0 := Lib.hid hs0
  clear h hb hx hn hs0
  go_enter Tryz.func80, Tryz.ntmps80
  go_wp2_with fail
  refine (H.out.be32i_1 HB.out n (by have := HS0.out; omega) (by omega)).mono ?_
  rintro e w1 ⟨rfl, g1, r1⟩
  have R1 : Hid (Reach w G w1 (G.b1 g1 (G.l1 ++ be32 n) w.heap.size)) := Lib.hid r1
  clear r1
  go_wp2_with fail
  go_loopw [13] (fun i wr => ∃ j : Nat, j ≤ n ∧ i = .int .i64 j ∧ Hid (Aft w G wr (fun G' => G'.l1 = G.l1 ++ (be32 n ++ raw32 (xs.take j)) ∧ OB G G'))) (fun i _ => n - (intOf i).toNat)
  case atStart => exact ⟨0, Nat.zero_le _, rfl, Lib.hid ⟨_, R1.out, by simp [Gh.b1, raw32], OB.b1 _ _ _ _⟩⟩
  case round =>
    obtain ⟨j, hj, rfl, HR⟩ := hrel
    obtain ⟨Gr, rr, hr1, hob⟩ := HR.out
    have RR := Lib.hid rr
    have HR1 := Lib.hid hr1
    have HOB := Lib.hid hob
    clear rr hr1 hob HR R1
    by_cases hlt : j < n
    · obtain ⟨x, hxj⟩ : ∃ x, xs[j]? = some x := ⟨xs[j]'(by rw [← HN.out]; exact hlt), by simp [← HN.out, hlt]⟩
      obtain ⟨k, off, rfl, hT, hc, hx32⟩ := HX.out j x hxj
      have hcr : wr.cell? ⟨k, off + j, none⟩ = some (.int .u32 x) := (KT.cell RR.out.kp (World.block_lt_of_cell? _ _ hc) hT _).trans hc
      have HXJ := Lib.hid hxj
      clear hxj hc hT
      go_wp2_with fail
      have hlen : Gr.l1.length < 1000000000 := by
        rw [HR1.out]; simp [raw32_len, be32]; have := HS0.out; have := HN.out; omega
      have HLEN := Lib.hid hlen
      clear hlen
      refine (RR.out.wi.be32_1 (RR.out.nx.wb.trans HB.out) x HLEN.out hx32).mono ?_
      rintro e w2 ⟨rfl, g2, r2⟩
      have R2 := Lib.hid (RR.out.trans r2)
      clear r2 hcr
      go_wp2
      go_roundw
      case rel =>
        refine ⟨j + 1, by omega, by go_num, Lib.hid ⟨_, R2.out, ?_, HOB.out.trans (OB.b1 _ _ _ _)⟩⟩
        simp only [Gh.b1]
        rw [HR1.out, raw32_snoc HXJ.out]
        simp
      case measure => simp [intOf]; omega
    · have hje : j = n := by omega
      go_wp2
      go_ret
      refine ⟨rfl, _, RR.out, ?_, HOB.out⟩
      rw [HR1.out, hje, HN.out, List.take_of_length_le (Nat.le_refl _)]

end Go.Proofs.YtfipfoplmopkaaaGreatDoor
