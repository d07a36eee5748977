/- laws.indexFew(7). Conditions: lengths; the numbers fit 64 bits. spec.Refused(10). Conditions: lengths; what indexFew lets by. laws.FnIndexRefuses(3): true, whatever the arguments. Conditions: what every reading of them gives. -/
import Derived.Test.YtfipfoplmopkaaaGreatDoorZ47
import Derived.Test.YtfipfoplmopkaaaGreatDoorZ02
import Derived.Test.YtfipfoplmopkaaaGreatDoorZ03
import Derived.Test.YtfipfoplmopkaaaGreatDoorZ04
import Derived.Test.YtfipfoplmopkaaaGreatDoorZ05
import Derived.Test.YtfipfoplmopkaaaGreatDoorZ06
import Derived.Test.YtfipfoplmopkaaaGreatDoorZ07
import Derived.Test.YtfipfoplmopkaaaGreatDoorZ08
import Derived.Test.YtfipfoplmopkaaaGreatDoorZ09
import Derived.Test.YtfipfoplmopkaaaGreatDoorZ13
import Derived.Deep.RegionHeld3
import Derived.StillTailTactics

namespace Go.Proofs.YtfipfoplmopkaaaGreatDoor
open Go.RowKit Go.Maps

theorem fixb {f : Nat} {args : Array Value} {w : World} {Q : Prop} {K : World → Prop} (h : Calls Tryz.prog f args w (fun e w' => (∃ b, e = .returned (.bool b) ∧ (b = true ↔ Q)) ∧ K w')) {b : Bool} (hq : b = true ↔ Q) : Calls Tryz.prog f args w (fun e w' => e = .returned (.bool b) ∧ K w') :=
  h.mono (fun e w' ⟨⟨b', he, hb⟩, hk⟩ => ⟨by
    rw [he]
    cases b <;> cases b'
    · rfl
    · exact absurd (hq.2 (hb.1 rfl)) (by simp)
    · exact absurd (hb.2 (hq.1 rfl)) (by simp)
    · rfl, hk⟩)

set_option maxRecDepth 100000 in
set_option maxHeartbeats 8000000 in
theorem indexFew_any (N : Nat) (w : World) (ao : Option Addr) (n c : Nat) (xs : List Sr) (h : AtX N w (.slice ao n c) xs) (hN : N ≤ w.heap.size)
    (hl : ∀ x ∈ xs, x.ls.length < 9223372036854775808 ∧ x.ck.length < 9223372036854775808) :
    Calls Tryz.prog 7 #[.slice ao n c] w fun e w' => (∃ b, e = .returned (.bool b) ∧ (b = true → xs.length ≤ 20 ∧ ∀ j, j < xs.length → FX xs j)) ∧ Kept (fun _ _ => False) w w' := by
  have H := Lib.hid h
  have HN := Lib.hid hN
  have HL := Lib.hid hl
  clear h hN hl
  go_enter Tryz.func7, Tryz.ntmps7
  by_cases h20 : 20 < n
  · have d1 : decide ((20 : Int) < (n : Int)) = true := decide_eq_true (by omega)
    have d1' : decide (20 < n) = true := decide_eq_true h20
    clear h20
    go_wp2
    go_ret
    exact ⟨⟨_, rfl, by simp⟩, Kept.refl _ _⟩
  · have d1 : decide ((20 : Int) < (n : Int)) = false := decide_eq_false (by omega)
    have d1' : decide (20 < n) = false := decide_eq_false h20
    go_wp2
    clear d1 d1'
    go_loopw [3, 4] (fun u v wr => ∃ (i l : Nat), i ≤ n ∧ u = .int .u64 (l : Nat) ∧ v = .int .i64 (i : Nat) ∧ Hid (l = cAt xs i) ∧ Hid (∀ j, j < i → FX xs j) ∧ Hid (Kept (fun _ _ => False) w wr)) (fun _ v _ => n - (intOf v).toNat)
    case atStart => exact ⟨0, 0, Nat.zero_le _, rfl, rfl, Lib.hid rfl, Lib.hid (fun j h => by omega), Lib.hid (Kept.refl _ _)⟩
    case round =>
      obtain ⟨i, l, hi, rfl, rfl, HLL, HJ, HK⟩ := hrel
      obtain ⟨wj, hwj⟩ : ∃ wj, wj = wr := ⟨_, rfl⟩
      subst hwj
      by_cases hlt : i < n
      · obtain ⟨b, o, r, lao, nl, lc, kao, nk, kc, rfl, hc, hc1, hc2, HAL, HAK, HE⟩ := H.out.at HN.out HK.out hlt
        have hiI : (i : Int) < n := by omega
        obtain ⟨R, hR⟩ : ∃ R : Int, R = (r : Int) := ⟨_, rfl⟩
        rw [← hR] at hc
        have HR := Lib.hid hR
        clear hR
        go_wp2
        obtain ⟨gb, hgb⟩ : ∃ gb, gb = wj.heap.size := ⟨_, rfl⟩
        obtain ⟨w4, hw4⟩ : ∃ w4, w4 = wj.alloc (.cells #[.int .u64 R, .slice lao nl lc, .slice kao nk kc] 36) := ⟨_, rfl⟩
        rw [← hw4]
        simp only [← hgb]
        have k4 : Kept (fun _ _ => False) w w4 := by rw [hw4]; exact HK.out.trans (Kept.alloc _ _ _) (fun _ _ _ => id)
        have g0 : w4.cell? ⟨gb, 0, none⟩ = some (.int .u64 R) := by rw [hw4, hgb, World.cell?_alloc_new]; rfl
        have g1 : w4.cell? ⟨gb, 1, none⟩ = some (.slice lao nl lc) := by rw [hw4, hgb, World.cell?_alloc_new]; rfl
        have g2 : w4.cell? ⟨gb, 2, none⟩ = some (.slice kao nk kc) := by rw [hw4, hgb, World.cell?_alloc_new]; rfl
        have s4 : gb < w4.heap.size := by rw [hw4, World.size_alloc, hgb]; omega
        have K4 := Lib.hid k4
        have S4 := Lib.hid s4
        clear hw4 hgb k4 s4 hc hc1 hc2
        have hk18 := Lib.hid (HL.out (xs.getD i default) (by rw [AtS.at.getD_of' HE.out.2]; exact List.getElem_mem _))
        go_loopw [3, 6] (fun u v wr => ∃ (q l2 : Nat), q ≤ nk ∧ u = .int .u64 (l2 : Nat) ∧ v = .int .i64 (q : Nat) ∧ Hid (l2 = lastR (cAt xs i) ((xs.getD i default).ck.take q)) ∧ Hid (∀ p, p < q → lastR (cAt xs i) ((xs.getD i default).ck.take p) ≤ ((xs.getD i default).ck.getD p default).r) ∧ wr = w4) (fun _ v _ => nk - (intOf v).toNat)
        case atStart => exact ⟨0, l, Nat.zero_le _, rfl, rfl, Lib.hid HLL.out, Lib.hid (fun p h => by omega), rfl⟩
        case round =>
          obtain ⟨q, l2, hq, rfl, rfl, HQ, HP, rfl⟩ := hrel
          by_cases hqk : q < nk
          · obtain ⟨kb, ko, kr, ka, kz, rfl, hc, hc1, hc2, HKE⟩ := HAK.out.at HN.out K4.out hqk
            have hqI : (q : Int) < nk := by omega
            have hnk : nk < 9223372036854775808 := by have := HAK.out.len; have := hk18.out.2; omega
            by_cases hb : kr < l2
            · have d1 : decide ((kr : Int) < (l2 : Int)) = true := decide_eq_true (by omega)
              have d1' : decide (kr < l2) = true := decide_eq_true hb
              clear hb
              go_wp2
              go_ret
              exact ⟨⟨_, rfl, by simp⟩, K4.out⟩
            · have d1 : decide ((kr : Int) < (l2 : Int)) = false := decide_eq_false (by omega)
              have d1' : decide (kr < l2) = false := decide_eq_false hb
              have HB := Lib.hid hb
              clear hb
              go_wp2
              go_roundw
              case rel => exact ⟨q + 1, kr, by omega, rfl, by go_num, Lib.hid (by rw [List.take_succ_eq_append_getElem HKE.out.2.2.2, lastR_snoc]; exact HKE.out.1.trans (congrArg Ck.r (AtS.at.getD_of' HKE.out.2.2.2 _))), Lib.hid (fun p hp => by
                by_cases e : p = q
                · rw [e, ← HKE.out.1, ← HQ.out]; have := HB.out; omega
                · exact HP.out p (by omega)), (by first | rfl | trivial)⟩
              case measure => simp only [intOf]; omega
          · obtain rfl : q = nk := by omega
            go_wp2_with fail
            have hlL := Lib.hid HAL.out.len
            have hlK := Lib.hid HAK.out.len
            have HL3 : Hid (l2 = cAt xs (i + 1)) := Lib.hid (by have := HQ.out; rw [show (xs.getD i default).ck.take q = (xs.getD i default).ck by rw [hlK.out, List.take_length]] at this; exact this)
            have hq2 : Hid (∀ p, p < (xs.getD i default).ck.length → lastR (cAt xs i) ((xs.getD i default).ck.take p) ≤ ((xs.getD i default).ck.getD p default).r) := Lib.hid (by rw [← hlK.out]; exact HP.out)
            clear HQ HP hq
            obtain ⟨wX, hwX⟩ : ∃ wX, wX = wr := ⟨_, rfl⟩
            subst hwX
            by_cases h0 : i = 0
            · have d4 : decide (0 < i) = false := decide_eq_false (by omega)
              have hi0 := Lib.hid h0
              clear h0
              have SF : Hid (∀ w', Kept (fun _ _ => False) wX w' → w'.cell? ⟨gb, 0, none⟩ = some (.int .u64 R) ∧ w'.cell? ⟨gb, 1, none⟩ = some (.slice lao nl lc) ∧ w'.cell? ⟨gb, 2, none⟩ = some (.slice kao q kc)) := Lib.hid (fun w' hk => ⟨(hk.cell _ _ S4.out id).trans g0, (hk.cell _ _ S4.out id).trans g1, (hk.cell _ _ S4.out id).trans g2⟩)
              by_cases hA : R = 0
              · have d3 : (R == 0) = true := beq_iff_eq.mpr hA
                clear hA
                refine leaf_a1 g0 g1 g2 SF hiI d4 d3 _ _ _ _ _ _ _ _ _ _ _ _ _ _ _ _ _ _ _ _ _ _ _ _ _ _ _ _ _ _ _ _ _ _ _ _ _ _ _ _ _ _ _ _ _ _ _ _ _ _ _ _ _ _ _ _ _ _ _ _ _ _ _ _ _ _ _ _ _ _ _ _ _ _ _ _ _ _ _ _ _ _ _ _ _ _ _ _ _ _ _ _ _ _ _ _ _ _ ?_
                intro y41 y42 y43 y44 y45 y46 y47 y48 y49 y50 y51 y52 y53 y54 y55 y56 y57 y58 y59 y60 y61 y62 y63 y64 y65 y66 y67 y68 y69 y70 y71 y72 y73 y74 y75 y76 y77 y78 y79 y80 y81 y82 y83 y84 y85 y86 y87 y88 y89 y90 y91 y92 y93 y94 y95 y96 y97 y98 y99 wz HRK
                have HR9 : Hid (Kept (fun _ _ => False) wX wz) := Lib.hid HRK
                clear HRK g0 g1 g2 SF hiI d4 d3
                go_wp2_with fail
                go_ret
                first | exact ⟨⟨_, rfl, by simp⟩, K4.out.trans HR9.out (fun _ _ _ => id)⟩ | exact ⟨Or.inl rfl, K4.out.trans HR9.out (fun _ _ _ => id)⟩
              · have d3 : (R == 0) = false := beq_eq_false_iff_ne.mpr hA
                clear hA
                by_cases hn0 : nl = 0
                · have d5 : ((nl : Int) == 0) = true := by subst hn0; rfl
                  have d5' : (nl == 0) = true := beq_iff_eq.mpr hn0
                  clear hn0
                  refine leaf_a2 g0 g1 g2 SF hiI d4 d3 d5 d5' _ _ _ _ _ _ _ _ _ _ _ _ _ _ _ _ _ _ _ _ _ _ _ _ _ _ _ _ _ _ _ _ _ _ _ _ _ _ _ _ _ _ _ _ _ _ _ _ _ _ _ _ _ _ _ _ _ _ _ _ _ _ _ _ _ _ _ _ _ _ _ _ _ _ _ _ _ _ _ _ _ _ _ _ _ _ _ _ _ _ _ _ _ _ _ _ _ _ ?_
                  intro y41 y42 y43 y44 y45 y46 y47 y48 y49 y50 y51 y52 y53 y54 y55 y56 y57 y58 y59 y60 y61 y62 y63 y64 y65 y66 y67 y68 y69 y70 y71 y72 y73 y74 y75 y76 y77 y78 y79 y80 y81 y82 y83 y84 y85 y86 y87 y88 y89 y90 y91 y92 y93 y94 y95 y96 y97 y98 y99 wz HRK
                  have HR9 : Hid (Kept (fun _ _ => False) wX wz) := Lib.hid HRK
                  clear HRK g0 g1 g2 SF hiI d4 d3 d5 d5'
                  go_wp2_with fail
                  go_ret
                  first | exact ⟨⟨_, rfl, by simp⟩, K4.out.trans HR9.out (fun _ _ _ => id)⟩ | exact ⟨Or.inl rfl, K4.out.trans HR9.out (fun _ _ _ => id)⟩
                · have d5 : ((nl : Int) == 0) = false := beq_eq_false_iff_ne.mpr (by omega)
                  have d5' : (nl == 0) = false := beq_eq_false_iff_ne.mpr hn0
                  have hnl0 := Lib.hid (show (xs.getD i default).ls.length ≠ 0 by have := hlL.out; omega)
                  clear hn0
                  by_cases hn10 : 10 < nl
                  · have d6 : decide ((10 : Int) < (nl : Int)) = true := decide_eq_true (by omega)
                    have d6' : decide (10 < nl) = true := decide_eq_true hn10
                    clear hn10
                    refine leaf_a3 g0 g1 g2 SF hiI d4 d3 d5 d5' d6 d6' _ _ _ _ _ _ _ _ _ _ _ _ _ _ _ _ _ _ _ _ _ _ _ _ _ _ _ _ _ _ _ _ _ _ _ _ _ _ _ _ _ _ _ _ _ _ _ _ _ _ _ _ _ _ _ _ _ _ _ _ _ _ _ _ _ _ _ _ _ _ _ _ _ _ _ _ _ _ _ _ _ _ _ _ _ _ _ _ _ _ _ _ _ _ _ _ _ _ ?_
                    intro y41 y42 y43 y44 y45 y46 y47 y48 y49 y50 y51 y52 y53 y54 y55 y56 y57 y58 y59 y60 y61 y62 y63 y64 y65 y66 y67 y68 y69 y70 y71 y72 y73 y74 y75 y76 y77 y78 y79 y80 y81 y82 y83 y84 y85 y86 y87 y88 y89 y90 y91 y92 y93 y94 y95 y96 y97 y98 y99 wz HRK
                    have HR9 : Hid (Kept (fun _ _ => False) wX wz) := Lib.hid HRK
                    clear HRK g0 g1 g2 SF hiI d4 d3 d5 d5' d6 d6'
                    go_wp2_with fail
                    go_ret
                    first | exact ⟨⟨_, rfl, by simp⟩, K4.out.trans HR9.out (fun _ _ _ => id)⟩ | exact ⟨Or.inl rfl, K4.out.trans HR9.out (fun _ _ _ => id)⟩
                  · have d6 : decide ((10 : Int) < (nl : Int)) = false := decide_eq_false (by omega)
                    have d6' : decide (10 < nl) = false := decide_eq_false hn10
                    have hnl10 := Lib.hid (show (xs.getD i default).ls.length ≤ 10 by have := hlL.out; omega)
                    clear hn10
                    by_cases hs : ShortP (xs.getD i default).ls
                    · have hS := Lib.hid hs
                      have HC13 : Hid (∀ w', Kept (fun _ _ => False) wX w' → Calls Tryz.prog 13 #[.slice lao nl lc] w' (fun e w'' => e = .returned (.bool true) ∧ Kept (fun _ _ => False) w' w'')) := Lib.hid (fun w' hk' => fixb (short_any N w' _ _ _ _ (HAL.out.kept (K4.out.trans hk' (fun _ _ _ => id)) (fun _ _ _ e => e) HN.out) (Nat.le_trans HN.out (K4.out.trans hk' (fun _ _ _ => id)).size) (by have := hlL.out; have := hk18.out; omega)) ⟨fun _ => hs, fun _ => rfl⟩)
                      clear hs
                      by_cases hp : ProperP (xs.getD i default).ls
                      · have hPp := Lib.hid hp
                        have HC14 : Hid (∀ w', Kept (fun _ _ => False) wX w' → Calls Tryz.prog 14 #[.slice lao nl lc] w' (fun e w'' => e = .returned (.bool true) ∧ Kept (fun _ _ => False) w' w'')) := Lib.hid (fun w' hk' => fixb (proper_any N w' _ _ _ _ (HAL.out.kept (K4.out.trans hk' (fun _ _ _ => id)) (fun _ _ _ e => e) HN.out) (Nat.le_trans HN.out (K4.out.trans hk' (fun _ _ _ => id)).size) (by have := hlL.out; have := hk18.out; omega)) ⟨fun _ => hp, fun _ => rfl⟩)
                        clear hp
                        by_cases hk : CkT (xs.getD i default).ck
                        · have hCk := Lib.hid hk
                          have HC15 : Hid (∀ w', Kept (fun _ _ => False) wX w' → Calls Tryz.prog 15 #[.slice kao q kc] w' (fun e w'' => e = .returned (.bool true) ∧ Kept (fun _ _ => False) w' w'')) := Lib.hid (fun w' hk' => fixb (chunksRight_any N w' _ _ _ _ (HAK.out.kept (K4.out.trans hk' (fun _ _ _ => id)) (fun _ _ _ e => e) HN.out) (Nat.le_trans HN.out (K4.out.trans hk' (fun _ _ _ => id)).size) (by have := hlK.out; have := hk18.out; omega)) ⟨fun _ => hk, fun _ => rfl⟩)
                          clear hk
                          refine leaf_a4 g0 g1 g2 SF hiI d4 d3 d5 d5' d6 d6' HC13 HC14 HC15 _ _ _ _ _ _ _ _ _ _ _ _ _ _ _ _ _ _ _ _ _ _ _ _ _ _ _ _ _ _ _ _ _ _ _ _ _ _ _ _ _ _ _ _ _ _ _ _ _ _ _ _ _ _ _ _ _ _ _ _ _ _ _ _ _ _ _ _ _ _ _ _ _ _ _ _ _ _ _ _ _ _ _ _ _ _ _ _ _ _ _ _ _ _ _ _ _ _ ?_
                          intro y41 y42 y43 y44 y45 y46 y47 y48 y49 y50 y51 y52 y53 y54 y55 y56 y57 y58 y59 y60 y61 y62 y63 y64 y65 y66 y67 y68 y69 y70 y71 y72 y73 y74 y75 y76 y77 y78 y79 y80 y81 y82 y83 y84 y85 y86 y87 y88 y89 y90 y91 y92 y93 y94 y95 y96 y97 y98 y99 wz HRK
                          have HR9 : Hid (Kept (fun _ _ => False) wX wz) := Lib.hid HRK
                          clear HRK g0 g1 g2 SF hiI d4 d3 d5 d5' d6 d6' HC13 HC14 HC15
                          go_wp2_with fail
                          go_roundw
                          case rel => exact ⟨i + 1, l2, by omega, rfl, by go_num, HL3, Lib.hid (fun j hj => by
                              by_cases e : j = i
                              · rw [e]; exact ⟨hq2.out, fun h => absurd h (by have := hi0.out; omega), hnl0.out, hnl10.out, hS.out, hPp.out, hCk.out⟩
                              · exact HJ.out j (by omega)), Lib.hid (K4.out.trans HR9.out (fun _ _ _ => id))⟩
                          case measure => simp only [intOf]; omega
                        · have HC15 : Hid (∀ w', Kept (fun _ _ => False) wX w' → Calls Tryz.prog 15 #[.slice kao q kc] w' (fun e w'' => e = .returned (.bool false) ∧ Kept (fun _ _ => False) w' w'')) := Lib.hid (fun w' hk' => fixb (chunksRight_any N w' _ _ _ _ (HAK.out.kept (K4.out.trans hk' (fun _ _ _ => id)) (fun _ _ _ e => e) HN.out) (Nat.le_trans HN.out (K4.out.trans hk' (fun _ _ _ => id)).size) (by have := hlK.out; have := hk18.out; omega)) ⟨fun h => by simp at h, fun h => absurd h hk⟩)
                          clear hk
                          refine leaf_a5 g0 g1 g2 SF hiI d4 d3 d5 d5' d6 d6' HC13 HC14 HC15 _ _ _ _ _ _ _ _ _ _ _ _ _ _ _ _ _ _ _ _ _ _ _ _ _ _ _ _ _ _ _ _ _ _ _ _ _ _ _ _ _ _ _ _ _ _ _ _ _ _ _ _ _ _ _ _ _ _ _ _ _ _ _ _ _ _ _ _ _ _ _ _ _ _ _ _ _ _ _ _ _ _ _ _ _ _ _ _ _ _ _ _ _ _ _ _ _ _ ?_
                          intro y41 y42 y43 y44 y45 y46 y47 y48 y49 y50 y51 y52 y53 y54 y55 y56 y57 y58 y59 y60 y61 y62 y63 y64 y65 y66 y67 y68 y69 y70 y71 y72 y73 y74 y75 y76 y77 y78 y79 y80 y81 y82 y83 y84 y85 y86 y87 y88 y89 y90 y91 y92 y93 y94 y95 y96 y97 y98 y99 wz HRK
                          have HR9 : Hid (Kept (fun _ _ => False) wX wz) := Lib.hid HRK
                          clear HRK g0 g1 g2 SF hiI d4 d3 d5 d5' d6 d6' HC13 HC14 HC15
                          go_wp2_with fail
                          go_ret
                          first | exact ⟨⟨_, rfl, by simp⟩, K4.out.trans HR9.out (fun _ _ _ => id)⟩ | exact ⟨Or.inl rfl, K4.out.trans HR9.out (fun _ _ _ => id)⟩
                      · have HC14 : Hid (∀ w', Kept (fun _ _ => False) wX w' → Calls Tryz.prog 14 #[.slice lao nl lc] w' (fun e w'' => e = .returned (.bool false) ∧ Kept (fun _ _ => False) w' w'')) := Lib.hid (fun w' hk' => fixb (proper_any N w' _ _ _ _ (HAL.out.kept (K4.out.trans hk' (fun _ _ _ => id)) (fun _ _ _ e => e) HN.out) (Nat.le_trans HN.out (K4.out.trans hk' (fun _ _ _ => id)).size) (by have := hlL.out; have := hk18.out; omega)) ⟨fun h => by simp at h, fun h => absurd h hp⟩)
                        clear hp
                        refine leaf_a6 g0 g1 g2 SF hiI d4 d3 d5 d5' d6 d6' HC13 HC14 _ _ _ _ _ _ _ _ _ _ _ _ _ _ _ _ _ _ _ _ _ _ _ _ _ _ _ _ _ _ _ _ _ _ _ _ _ _ _ _ _ _ _ _ _ _ _ _ _ _ _ _ _ _ _ _ _ _ _ _ _ _ _ _ _ _ _ _ _ _ _ _ _ _ _ _ _ _ _ _ _ _ _ _ _ _ _ _ _ _ _ _ _ _ _ _ _ _ ?_
                        intro y41 y42 y43 y44 y45 y46 y47 y48 y49 y50 y51 y52 y53 y54 y55 y56 y57 y58 y59 y60 y61 y62 y63 y64 y65 y66 y67 y68 y69 y70 y71 y72 y73 y74 y75 y76 y77 y78 y79 y80 y81 y82 y83 y84 y85 y86 y87 y88 y89 y90 y91 y92 y93 y94 y95 y96 y97 y98 y99 wz HRK
                        have HR9 : Hid (Kept (fun _ _ => False) wX wz) := Lib.hid HRK
                        clear HRK g0 g1 g2 SF hiI d4 d3 d5 d5' d6 d6' HC13 HC14
                        go_wp2_with fail
                        go_ret
                        first | exact ⟨⟨_, rfl, by simp⟩, K4.out.trans HR9.out (fun _ _ _ => id)⟩ | exact ⟨Or.inl rfl, K4.out.trans HR9.out (fun _ _ _ => id)⟩
                    · have HC13 : Hid (∀ w', Kept (fun _ _ => False) wX w' → Calls Tryz.prog 13 #[.slice lao nl lc] w' (fun e w'' => e = .returned (.bool false) ∧ Kept (fun _ _ => False) w' w'')) := Lib.hid (fun w' hk' => fixb (short_any N w' _ _ _ _ (HAL.out.kept (K4.out.trans hk' (fun _ _ _ => id)) (fun _ _ _ e => e) HN.out) (Nat.le_trans HN.out (K4.out.trans hk' (fun _ _ _ => id)).size) (by have := hlL.out; have := hk18.out; omega)) ⟨fun h => by simp at h, fun h => absurd h hs⟩)
                      clear hs
                      refine leaf_a7 g0 g1 g2 SF hiI d4 d3 d5 d5' d6 d6' HC13 _ _ _ _ _ _ _ _ _ _ _ _ _ _ _ _ _ _ _ _ _ _ _ _ _ _ _ _ _ _ _ _ _ _ _ _ _ _ _ _ _ _ _ _ _ _ _ _ _ _ _ _ _ _ _ _ _ _ _ _ _ _ _ _ _ _ _ _ _ _ _ _ _ _ _ _ _ _ _ _ _ _ _ _ _ _ _ _ _ _ _ _ _ _ _ _ _ _ ?_
                      intro y41 y42 y43 y44 y45 y46 y47 y48 y49 y50 y51 y52 y53 y54 y55 y56 y57 y58 y59 y60 y61 y62 y63 y64 y65 y66 y67 y68 y69 y70 y71 y72 y73 y74 y75 y76 y77 y78 y79 y80 y81 y82 y83 y84 y85 y86 y87 y88 y89 y90 y91 y92 y93 y94 y95 y96 y97 y98 y99 wz HRK
                      have HR9 : Hid (Kept (fun _ _ => False) wX wz) := Lib.hid HRK
                      clear HRK g0 g1 g2 SF hiI d4 d3 d5 d5' d6 d6' HC13
                      go_wp2_with fail
                      go_ret
                      first | exact ⟨⟨_, rfl, by simp⟩, K4.out.trans HR9.out (fun _ _ _ => id)⟩ | exact ⟨Or.inl rfl, K4.out.trans HR9.out (fun _ _ _ => id)⟩
            · obtain ⟨p, hp⟩ : ∃ p, i = p + 1 := ⟨i - 1, by omega⟩
              obtain ⟨b', o', r', lao', nl', lc', kao', nk', kc', he, e0, e1, _, HAL', _, HE'⟩ := H.out.at HN.out K4.out (show p < n by omega)
              cases he
              have d4 : decide (0 < i) = true := decide_eq_true (by omega)
              have d41 : IntKind.i64.wrap ((i : Int) - 1) = (p : Int) := by rw [show (i : Int) - 1 = p by omega]; exact IntWalk.i64_in _ (by omega)
              have d42 : (p : Int) < n := by omega
              have hip := Lib.hid (show i - 1 = p by omega)
              clear hp h0
              obtain ⟨R', hR'⟩ : ∃ R' : Int, R' = (r' : Int) := ⟨_, rfl⟩
              rw [← hR'] at e0
              have HR' := Lib.hid hR'
              clear hR'
              have hb4 : Hid (b < wX.heap.size) := Lib.hid (World.block_lt_of_cell? _ _ e0)
              have SF : Hid (∀ w', Kept (fun _ _ => False) wX w' → w'.cell? ⟨gb, 0, none⟩ = some (.int .u64 R) ∧ w'.cell? ⟨gb, 1, none⟩ = some (.slice lao nl lc) ∧ w'.cell? ⟨gb, 2, none⟩ = some (.slice kao q kc) ∧ w'.cell? ⟨b, o + p * 3, none⟩ = some (.int .u64 R') ∧ w'.cell? ⟨b, o + p * 3 + 1, none⟩ = some (.slice lao' nl' lc')) := Lib.hid (fun w' hk => ⟨(hk.cell _ _ S4.out id).trans g0, (hk.cell _ _ S4.out id).trans g1, (hk.cell _ _ S4.out id).trans g2, (hk.cell _ _ hb4.out id).trans e0, (hk.cell _ _ hb4.out id).trans e1⟩)
              have hlL' := Lib.hid HAL'.out.len
              have hk18' := Lib.hid (HL.out (xs.getD p default) (by rw [AtS.at.getD_of' HE'.out.2]; exact List.getElem_mem _))
              by_cases hA : R = 0
              · have d3 : (R == 0) = true := beq_iff_eq.mpr hA
                clear hA
                refine leaf_b1 (C := 0) g0 g1 g2 e0 e1 SF hiI d4 d41 d42 d3 _ _ _ _ _ _ _ _ _ _ _ _ _ _ _ _ _ _ _ _ _ _ _ _ _ _ _ _ _ _ _ _ _ _ _ _ _ _ _ _ _ _ _ _ _ _ _ _ _ _ _ _ _ _ _ _ _ _ _ _ _ _ _ _ _ _ _ _ _ _ _ _ _ _ _ _ _ _ _ _ _ _ _ _ _ _ _ _ _ _ _ _ _ _ _ _ _ _ ?_
                intro y41 y42 y43 y44 y45 y46 y47 y48 y49 y50 y51 y52 y53 y54 y55 y56 y57 y58 y59 y60 y61 y62 y63 y64 y65 y66 y67 y68 y69 y70 y71 y72 y73 y74 y75 y76 y77 y78 y79 y80 y81 y82 y83 y84 y85 y86 y87 y88 y89 y90 y91 y92 y93 y94 y95 y96 y97 y98 y99 wz HRK
                have HR9 : Hid (Kept (fun _ _ => False) wX wz) := Lib.hid HRK
                clear HRK g0 g1 g2 SF hiI d4 e0 e1 d41 d42 d3
                go_wp2_with fail
                go_ret
                first | exact ⟨⟨_, rfl, by simp⟩, K4.out.trans HR9.out (fun _ _ _ => id)⟩ | exact ⟨Or.inl rfl, K4.out.trans HR9.out (fun _ _ _ => id)⟩
              · have d3 : (R == 0) = false := beq_eq_false_iff_ne.mpr hA
                clear hA
                by_cases hB : R ≤ R'
                · have d31 : decide (R ≤ R') = true := decide_eq_true hB
                  clear hB
                  refine leaf_b2 (C := 0) g0 g1 g2 e0 e1 SF hiI d4 d41 d42 d3 d31 _ _ _ _ _ _ _ _ _ _ _ _ _ _ _ _ _ _ _ _ _ _ _ _ _ _ _ _ _ _ _ _ _ _ _ _ _ _ _ _ _ _ _ _ _ _ _ _ _ _ _ _ _ _ _ _ _ _ _ _ _ _ _ _ _ _ _ _ _ _ _ _ _ _ _ _ _ _ _ _ _ _ _ _ _ _ _ _ _ _ _ _ _ _ _ _ _ _ ?_
                  intro y41 y42 y43 y44 y45 y46 y47 y48 y49 y50 y51 y52 y53 y54 y55 y56 y57 y58 y59 y60 y61 y62 y63 y64 y65 y66 y67 y68 y69 y70 y71 y72 y73 y74 y75 y76 y77 y78 y79 y80 y81 y82 y83 y84 y85 y86 y87 y88 y89 y90 y91 y92 y93 y94 y95 y96 y97 y98 y99 wz HRK
                  have HR9 : Hid (Kept (fun _ _ => False) wX wz) := Lib.hid HRK
                  clear HRK g0 g1 g2 SF hiI d4 e0 e1 d41 d42 d3 d31
                  go_wp2_with fail
                  go_ret
                  first | exact ⟨⟨_, rfl, by simp⟩, K4.out.trans HR9.out (fun _ _ _ => id)⟩ | exact ⟨Or.inl rfl, K4.out.trans HR9.out (fun _ _ _ => id)⟩
                · have d31 : decide (R ≤ R') = false := decide_eq_false hB
                  have hB' := Lib.hid hB
                  clear hB
                  obtain ⟨C, hC⟩ : ∃ C, C = cmpL (xs.getD i default).ls (xs.getD p default).ls := ⟨_, rfl⟩
                  have HC12 : Hid (∀ w', Kept (fun _ _ => False) wX w' → Calls Tryz.prog 12 #[.slice lao nl lc, .slice lao' nl' lc'] w' (fun e w'' => e = .returned (.int .i64 C) ∧ Kept (fun _ _ => False) w' w'')) := Lib.hid (fun w' hk => by rw [hC]; exact compareLabels_any N w' _ _ _ _ (HAL.out.kept (K4.out.trans hk (fun _ _ _ => id)) (fun _ _ _ e => e) HN.out) _ _ _ _ (HAL'.out.kept (K4.out.trans hk (fun _ _ _ => id)) (fun _ _ _ e => e) HN.out) (Nat.le_trans HN.out (K4.out.trans hk (fun _ _ _ => id)).size) (by have := hlL.out; have := hk18.out; omega) (by have := hlL'.out; have := hk18'.out; omega))
                  by_cases hD : C = 0
                  · have d32 : (C == 0) = true := beq_iff_eq.mpr hD
                    clear hD hC
                    refine leaf_b3 g0 g1 g2 e0 e1 SF hiI d4 d41 d42 d3 d31 HC12 d32 _ _ _ _ _ _ _ _ _ _ _ _ _ _ _ _ _ _ _ _ _ _ _ _ _ _ _ _ _ _ _ _ _ _ _ _ _ _ _ _ _ _ _ _ _ _ _ _ _ _ _ _ _ _ _ _ _ _ _ _ _ _ _ _ _ _ _ _ _ _ _ _ _ _ _ _ _ _ _ _ _ _ _ _ _ _ _ _ _ _ _ _ _ _ _ _ _ _ ?_
                    intro y41 y42 y43 y44 y45 y46 y47 y48 y49 y50 y51 y52 y53 y54 y55 y56 y57 y58 y59 y60 y61 y62 y63 y64 y65 y66 y67 y68 y69 y70 y71 y72 y73 y74 y75 y76 y77 y78 y79 y80 y81 y82 y83 y84 y85 y86 y87 y88 y89 y90 y91 y92 y93 y94 y95 y96 y97 y98 y99 wz HRK
                    have HR9 : Hid (Kept (fun _ _ => False) wX wz) := Lib.hid HRK
                    clear HRK g0 g1 g2 SF hiI d4 e0 e1 d41 d42 d3 d31 HC12 d32
                    go_wp2_with fail
                    go_ret
                    first | exact ⟨⟨_, rfl, by simp⟩, K4.out.trans HR9.out (fun _ _ _ => id)⟩ | exact ⟨Or.inl rfl, K4.out.trans HR9.out (fun _ _ _ => id)⟩
                  · have d32 : (C == 0) = false := beq_eq_false_iff_ne.mpr hD
                    have hpv : Hid ((xs.getD (i - 1) default).r < (xs.getD i default).r ∧ cmpL (xs.getD i default).ls (xs.getD (i - 1) default).ls ≠ 0) := Lib.hid (by
                      rw [hip.out]
                      exact ⟨by have := HE.out; have := HE'.out; have := HR.out; have := HR'.out; have := hB'.out; omega, by rw [← hC]; exact hD⟩)
                    clear hD hC
                    by_cases hn0 : nl = 0
                    · have d5 : ((nl : Int) == 0) = true := by subst hn0; rfl
                      have d5' : (nl == 0) = true := beq_iff_eq.mpr hn0
                      clear hn0
                      refine leaf_b4 g0 g1 g2 e0 e1 SF hiI d4 d41 d42 d3 d31 HC12 d32 d5 d5' _ _ _ _ _ _ _ _ _ _ _ _ _ _ _ _ _ _ _ _ _ _ _ _ _ _ _ _ _ _ _ _ _ _ _ _ _ _ _ _ _ _ _ _ _ _ _ _ _ _ _ _ _ _ _ _ _ _ _ _ _ _ _ _ _ _ _ _ _ _ _ _ _ _ _ _ _ _ _ _ _ _ _ _ _ _ _ _ _ _ _ _ _ _ _ _ _ _ ?_
                      intro y41 y42 y43 y44 y45 y46 y47 y48 y49 y50 y51 y52 y53 y54 y55 y56 y57 y58 y59 y60 y61 y62 y63 y64 y65 y66 y67 y68 y69 y70 y71 y72 y73 y74 y75 y76 y77 y78 y79 y80 y81 y82 y83 y84 y85 y86 y87 y88 y89 y90 y91 y92 y93 y94 y95 y96 y97 y98 y99 wz HRK
                      have HR9 : Hid (Kept (fun _ _ => False) wX wz) := Lib.hid HRK
                      clear HRK g0 g1 g2 SF hiI d4 e0 e1 d41 d42 d3 d31 HC12 d32 d5 d5'
                      go_wp2_with fail
                      go_ret
                      first | exact ⟨⟨_, rfl, by simp⟩, K4.out.trans HR9.out (fun _ _ _ => id)⟩ | exact ⟨Or.inl rfl, K4.out.trans HR9.out (fun _ _ _ => id)⟩
                    · have d5 : ((nl : Int) == 0) = false := beq_eq_false_iff_ne.mpr (by omega)
                      have d5' : (nl == 0) = false := beq_eq_false_iff_ne.mpr hn0
                      have hnl0 := Lib.hid (show (xs.getD i default).ls.length ≠ 0 by have := hlL.out; omega)
                      clear hn0
                      by_cases hn10 : 10 < nl
                      · have d6 : decide ((10 : Int) < (nl : Int)) = true := decide_eq_true (by omega)
                        have d6' : decide (10 < nl) = true := decide_eq_true hn10
                        clear hn10
                        refine leaf_b5 g0 g1 g2 e0 e1 SF hiI d4 d41 d42 d3 d31 HC12 d32 d5 d5' d6 d6' _ _ _ _ _ _ _ _ _ _ _ _ _ _ _ _ _ _ _ _ _ _ _ _ _ _ _ _ _ _ _ _ _ _ _ _ _ _ _ _ _ _ _ _ _ _ _ _ _ _ _ _ _ _ _ _ _ _ _ _ _ _ _ _ _ _ _ _ _ _ _ _ _ _ _ _ _ _ _ _ _ _ _ _ _ _ _ _ _ _ _ _ _ _ _ _ _ _ ?_
                        intro y41 y42 y43 y44 y45 y46 y47 y48 y49 y50 y51 y52 y53 y54 y55 y56 y57 y58 y59 y60 y61 y62 y63 y64 y65 y66 y67 y68 y69 y70 y71 y72 y73 y74 y75 y76 y77 y78 y79 y80 y81 y82 y83 y84 y85 y86 y87 y88 y89 y90 y91 y92 y93 y94 y95 y96 y97 y98 y99 wz HRK
                        have HR9 : Hid (Kept (fun _ _ => False) wX wz) := Lib.hid HRK
                        clear HRK g0 g1 g2 SF hiI d4 e0 e1 d41 d42 d3 d31 HC12 d32 d5 d5' d6 d6'
                        go_wp2_with fail
                        go_ret
                        first | exact ⟨⟨_, rfl, by simp⟩, K4.out.trans HR9.out (fun _ _ _ => id)⟩ | exact ⟨Or.inl rfl, K4.out.trans HR9.out (fun _ _ _ => id)⟩
                      · have d6 : decide ((10 : Int) < (nl : Int)) = false := decide_eq_false (by omega)
                        have d6' : decide (10 < nl) = false := decide_eq_false hn10
                        have hnl10 := Lib.hid (show (xs.getD i default).ls.length ≤ 10 by have := hlL.out; omega)
                        clear hn10
                        by_cases hs : ShortP (xs.getD i default).ls
                        · have hS := Lib.hid hs
                          have HC13 : Hid (∀ w', Kept (fun _ _ => False) wX w' → Calls Tryz.prog 13 #[.slice lao nl lc] w' (fun e w'' => e = .returned (.bool true) ∧ Kept (fun _ _ => False) w' w'')) := Lib.hid (fun w' hk' => fixb (short_any N w' _ _ _ _ (HAL.out.kept (K4.out.trans hk' (fun _ _ _ => id)) (fun _ _ _ e => e) HN.out) (Nat.le_trans HN.out (K4.out.trans hk' (fun _ _ _ => id)).size) (by have := hlL.out; have := hk18.out; omega)) ⟨fun _ => hs, fun _ => rfl⟩)
                          clear hs
                          by_cases hp : ProperP (xs.getD i default).ls
                          · have hPp := Lib.hid hp
                            have HC14 : Hid (∀ w', Kept (fun _ _ => False) wX w' → Calls Tryz.prog 14 #[.slice lao nl lc] w' (fun e w'' => e = .returned (.bool true) ∧ Kept (fun _ _ => False) w' w'')) := Lib.hid (fun w' hk' => fixb (proper_any N w' _ _ _ _ (HAL.out.kept (K4.out.trans hk' (fun _ _ _ => id)) (fun _ _ _ e => e) HN.out) (Nat.le_trans HN.out (K4.out.trans hk' (fun _ _ _ => id)).size) (by have := hlL.out; have := hk18.out; omega)) ⟨fun _ => hp, fun _ => rfl⟩)
                            clear hp
                            by_cases hk : CkT (xs.getD i default).ck
                            · have hCk := Lib.hid hk
                              have HC15 : Hid (∀ w', Kept (fun _ _ => False) wX w' → Calls Tryz.prog 15 #[.slice kao q kc] w' (fun e w'' => e = .returned (.bool true) ∧ Kept (fun _ _ => False) w' w'')) := Lib.hid (fun w' hk' => fixb (chunksRight_any N w' _ _ _ _ (HAK.out.kept (K4.out.trans hk' (fun _ _ _ => id)) (fun _ _ _ e => e) HN.out) (Nat.le_trans HN.out (K4.out.trans hk' (fun _ _ _ => id)).size) (by have := hlK.out; have := hk18.out; omega)) ⟨fun _ => hk, fun _ => rfl⟩)
                              clear hk
                              refine leaf_b6 g0 g1 g2 e0 e1 SF hiI d4 d41 d42 d3 d31 HC12 d32 d5 d5' d6 d6' HC13 HC14 HC15 _ _ _ _ _ _ _ _ _ _ _ _ _ _ _ _ _ _ _ _ _ _ _ _ _ _ _ _ _ _ _ _ _ _ _ _ _ _ _ _ _ _ _ _ _ _ _ _ _ _ _ _ _ _ _ _ _ _ _ _ _ _ _ _ _ _ _ _ _ _ _ _ _ _ _ _ _ _ _ _ _ _ _ _ _ _ _ _ _ _ _ _ _ _ _ _ _ _ ?_
                              intro y41 y42 y43 y44 y45 y46 y47 y48 y49 y50 y51 y52 y53 y54 y55 y56 y57 y58 y59 y60 y61 y62 y63 y64 y65 y66 y67 y68 y69 y70 y71 y72 y73 y74 y75 y76 y77 y78 y79 y80 y81 y82 y83 y84 y85 y86 y87 y88 y89 y90 y91 y92 y93 y94 y95 y96 y97 y98 y99 wz HRK
                              have HR9 : Hid (Kept (fun _ _ => False) wX wz) := Lib.hid HRK
                              clear HRK g0 g1 g2 SF hiI d4 e0 e1 d41 d42 d3 d31 HC12 d32 d5 d5' d6 d6' HC13 HC14 HC15
                              go_wp2_with fail
                              go_roundw
                              case rel => exact ⟨i + 1, l2, by omega, rfl, by go_num, HL3, Lib.hid (fun j hj => by
                                  by_cases e : j = i
                                  · rw [e]; exact ⟨hq2.out, fun _ => hpv.out, hnl0.out, hnl10.out, hS.out, hPp.out, hCk.out⟩
                                  · exact HJ.out j (by omega)), Lib.hid (K4.out.trans HR9.out (fun _ _ _ => id))⟩
                              case measure => simp only [intOf]; omega
                            · have HC15 : Hid (∀ w', Kept (fun _ _ => False) wX w' → Calls Tryz.prog 15 #[.slice kao q kc] w' (fun e w'' => e = .returned (.bool false) ∧ Kept (fun _ _ => False) w' w'')) := Lib.hid (fun w' hk' => fixb (chunksRight_any N w' _ _ _ _ (HAK.out.kept (K4.out.trans hk' (fun _ _ _ => id)) (fun _ _ _ e => e) HN.out) (Nat.le_trans HN.out (K4.out.trans hk' (fun _ _ _ => id)).size) (by have := hlK.out; have := hk18.out; omega)) ⟨fun h => by simp at h, fun h => absurd h hk⟩)
                              clear hk
                              refine leaf_b7 g0 g1 g2 e0 e1 SF hiI d4 d41 d42 d3 d31 HC12 d32 d5 d5' d6 d6' HC13 HC14 HC15 _ _ _ _ _ _ _ _ _ _ _ _ _ _ _ _ _ _ _ _ _ _ _ _ _ _ _ _ _ _ _ _ _ _ _ _ _ _ _ _ _ _ _ _ _ _ _ _ _ _ _ _ _ _ _ _ _ _ _ _ _ _ _ _ _ _ _ _ _ _ _ _ _ _ _ _ _ _ _ _ _ _ _ _ _ _ _ _ _ _ _ _ _ _ _ _ _ _ ?_
                              intro y41 y42 y43 y44 y45 y46 y47 y48 y49 y50 y51 y52 y53 y54 y55 y56 y57 y58 y59 y60 y61 y62 y63 y64 y65 y66 y67 y68 y69 y70 y71 y72 y73 y74 y75 y76 y77 y78 y79 y80 y81 y82 y83 y84 y85 y86 y87 y88 y89 y90 y91 y92 y93 y94 y95 y96 y97 y98 y99 wz HRK
                              have HR9 : Hid (Kept (fun _ _ => False) wX wz) := Lib.hid HRK
                              clear HRK g0 g1 g2 SF hiI d4 e0 e1 d41 d42 d3 d31 HC12 d32 d5 d5' d6 d6' HC13 HC14 HC15
                              go_wp2_with fail
                              go_ret
                              first | exact ⟨⟨_, rfl, by simp⟩, K4.out.trans HR9.out (fun _ _ _ => id)⟩ | exact ⟨Or.inl rfl, K4.out.trans HR9.out (fun _ _ _ => id)⟩
                          · have HC14 : Hid (∀ w', Kept (fun _ _ => False) wX w' → Calls Tryz.prog 14 #[.slice lao nl lc] w' (fun e w'' => e = .returned (.bool false) ∧ Kept (fun _ _ => False) w' w'')) := Lib.hid (fun w' hk' => fixb (proper_any N w' _ _ _ _ (HAL.out.kept (K4.out.trans hk' (fun _ _ _ => id)) (fun _ _ _ e => e) HN.out) (Nat.le_trans HN.out (K4.out.trans hk' (fun _ _ _ => id)).size) (by have := hlL.out; have := hk18.out; omega)) ⟨fun h => by simp at h, fun h => absurd h hp⟩)
                            clear hp
                            refine leaf_b8 g0 g1 g2 e0 e1 SF hiI d4 d41 d42 d3 d31 HC12 d32 d5 d5' d6 d6' HC13 HC14 _ _ _ _ _ _ _ _ _ _ _ _ _ _ _ _ _ _ _ _ _ _ _ _ _ _ _ _ _ _ _ _ _ _ _ _ _ _ _ _ _ _ _ _ _ _ _ _ _ _ _ _ _ _ _ _ _ _ _ _ _ _ _ _ _ _ _ _ _ _ _ _ _ _ _ _ _ _ _ _ _ _ _ _ _ _ _ _ _ _ _ _ _ _ _ _ _ _ ?_
                            intro y41 y42 y43 y44 y45 y46 y47 y48 y49 y50 y51 y52 y53 y54 y55 y56 y57 y58 y59 y60 y61 y62 y63 y64 y65 y66 y67 y68 y69 y70 y71 y72 y73 y74 y75 y76 y77 y78 y79 y80 y81 y82 y83 y84 y85 y86 y87 y88 y89 y90 y91 y92 y93 y94 y95 y96 y97 y98 y99 wz HRK
                            have HR9 : Hid (Kept (fun _ _ => False) wX wz) := Lib.hid HRK
                            clear HRK g0 g1 g2 SF hiI d4 e0 e1 d41 d42 d3 d31 HC12 d32 d5 d5' d6 d6' HC13 HC14
                            go_wp2_with fail
                            go_ret
                            first | exact ⟨⟨_, rfl, by simp⟩, K4.out.trans HR9.out (fun _ _ _ => id)⟩ | exact ⟨Or.inl rfl, K4.out.trans HR9.out (fun _ _ _ => id)⟩
                        · have HC13 : Hid (∀ w', Kept (fun _ _ => False) wX w' → Calls Tryz.prog 13 #[.slice lao nl lc] w' (fun e w'' => e = .returned (.bool false) ∧ Kept (fun _ _ => False) w' w'')) := Lib.hid (fun w' hk' => fixb (short_any N w' _ _ _ _ (HAL.out.kept (K4.out.trans hk' (fun _ _ _ => id)) (fun _ _ _ e => e) HN.out) (Nat.le_trans HN.out (K4.out.trans hk' (fun _ _ _ => id)).size) (by have := hlL.out; have := hk18.out; omega)) ⟨fun h => by simp at h, fun h => absurd h hs⟩)
                          clear hs
                          refine leaf_b9 g0 g1 g2 e0 e1 SF hiI d4 d41 d42 d3 d31 HC12 d32 d5 d5' d6 d6' HC13 _ _ _ _ _ _ _ _ _ _ _ _ _ _ _ _ _ _ _ _ _ _ _ _ _ _ _ _ _ _ _ _ _ _ _ _ _ _ _ _ _ _ _ _ _ _ _ _ _ _ _ _ _ _ _ _ _ _ _ _ _ _ _ _ _ _ _ _ _ _ _ _ _ _ _ _ _ _ _ _ _ _ _ _ _ _ _ _ _ _ _ _ _ _ _ _ _ _ ?_
                          intro y41 y42 y43 y44 y45 y46 y47 y48 y49 y50 y51 y52 y53 y54 y55 y56 y57 y58 y59 y60 y61 y62 y63 y64 y65 y66 y67 y68 y69 y70 y71 y72 y73 y74 y75 y76 y77 y78 y79 y80 y81 y82 y83 y84 y85 y86 y87 y88 y89 y90 y91 y92 y93 y94 y95 y96 y97 y98 y99 wz HRK
                          have HR9 : Hid (Kept (fun _ _ => False) wX wz) := Lib.hid HRK
                          clear HRK g0 g1 g2 SF hiI d4 e0 e1 d41 d42 d3 d31 HC12 d32 d5 d5' d6 d6' HC13
                          go_wp2_with fail
                          go_ret
                          first | exact ⟨⟨_, rfl, by simp⟩, K4.out.trans HR9.out (fun _ _ _ => id)⟩ | exact ⟨Or.inl rfl, K4.out.trans HR9.out (fun _ _ _ => id)⟩
      · obtain rfl : i = n := by omega
        have hlen := Lib.hid H.out.len
        have hn20 := Lib.hid h20
        go_wp2
        go_ret
        exact ⟨⟨_, rfl, fun _ => ⟨by have := hlen.out; have := hn20.out; omega, fun j hj => HJ.out j (by have := hlen.out; omega)⟩⟩, HK.out⟩

end Go.Proofs.YtfipfoplmopkaaaGreatDoor

namespace Go.Proofs.YtfipfoplmopkaaaGreatDoor
open Go.RowKit Go.Maps

theorem leq_bytes (x y : ByteArray) : leB x y = decide (x.data.toList < y.data.toList ∨ x.data.toList = y.data.toList) := by
  unfold leB
  rw [bless_bytes, beq_bytes]
  by_cases h1 : x.data.toList < y.data.toList <;> by_cases h2 : x.data.toList = y.data.toList <;> simp [h1, h2]

theorem fixw {f : Nat} {args : Array Value} {w : World} {Q : Prop} {K : World → Prop} (h : Calls Tryz.prog f args w (fun e w' => (∃ b, e = .returned (.bool b) ∧ (b = true ↔ Q)) ∧ K w')) {b : Bool} (hq : b = true ↔ Q) : Calls Tryz.prog f args w (fun e w' => e = .returned (.bool b) ∧ K w') :=
  h.mono (fun e w' ⟨⟨b', he, hb⟩, hk⟩ => ⟨by
    rw [he]
    cases b <;> cases b'
    · rfl
    · exact absurd (hq.2 (hb.1 rfl)) (by simp)
    · exact absurd (hb.2 (hq.1 rfl)) (by simp)
    · rfl, hk⟩)

set_option maxRecDepth 100000 in
set_option maxHeartbeats 1500000 in
theorem refused_any (N : Nat) (w : World) (ao : Option Addr) (n c : Nat) (ss : List ByteArray) (h : AtS N w (.slice ao n c) ss) (bo : Option Addr) (m c2 : Nat) (xs : List Sr) (hx : AtX N w (.slice bo m c2) xs) (hN : N ≤ w.heap.size) (hn : n ≤ 200) (hm : m ≤ 20) (hl : ∀ x ∈ xs, x.ls.length < 9223372036854775808 ∧ x.ck.length < 9223372036854775808) (hfx : ∀ j, j < xs.length → FX xs j) :
    Calls Tryz.prog 10 #[.slice ao n c, .slice bo m c2] w fun e w' => (∃ r : Int, e = .returned (.int .i64 r) ∧ RefR ss xs r) ∧ Kept (fun _ _ => False) w w' := by
  have H := Lib.hid h
  have HX := Lib.hid hx
  have HN := Lib.hid hN
  have HL := Lib.hid hl
  have HF := Lib.hid hfx
  have HN200 := Lib.hid (And.intro hn hm)
  clear h hx hN hl hfx
  go_enter Tryz.func10, Tryz.ntmps10
  go_wp2_with fail
  go_loopw [5] (fun v wr => ∃ i, 1 ≤ i ∧ (i ≤ n ∨ i = 1) ∧ v = .int .i64 (i : Nat) ∧ Hid (∀ j, j < i → ¬ badS ss j) ∧ Hid (Kept (fun _ _ => False) w wr)) (fun v _ => n - (intOf v).toNat)
  case atStart => exact ⟨1, Nat.le_refl _, .inr rfl, rfl, Lib.hid (fun j h hb => by have := hb.1; omega), Lib.hid (Kept.refl _ _)⟩
  case round =>
    obtain ⟨i, hi1, hi, rfl, HJ, HK⟩ := hrel
    by_cases hlt : i < n
    · obtain ⟨p, hp⟩ : ∃ p, i = p + 1 := ⟨i - 1, by omega⟩
      obtain ⟨b, o, x, rfl, hc, HE⟩ := H.out.at HN.out HK.out hlt
      obtain ⟨b', o', y, he, hc', HE'⟩ := H.out.at HN.out HK.out (show p < n by omega)
      cases he
      have hiI : (i : Int) < n := by omega
      have d41 : IntKind.i64.wrap ((i : Int) - 1) = (p : Int) := by rw [show (i : Int) - 1 = p by omega]; exact IntWalk.i64_in _ (by omega)
      have d42 : (p : Int) < n := by omega
      have hip := Lib.hid (show i - 1 = p by omega)
      have hi0 := Lib.hid (show 0 < i by omega)
      clear hp
      by_cases hA : Op.bytesLess x.toList y.toList = true
      · have hbad : Hid (badS ss i) := Lib.hid ⟨hi0.out, by rw [← HE.out.1, hip.out, ← HE'.out.1]; unfold leB; rw [hA]; rfl⟩
        go_wp2_with fail
        go_region
        go_wp2_with fail
        go_ret
        exact ⟨⟨_, rfl, Or.inl ⟨i, HE.out.2, HJ.out, hbad.out, rfl⟩⟩, HK.out.trans (Kept.drew _ _) (fun _ _ _ => id)⟩
      · have hA' : Op.bytesLess x.toList y.toList = false := by simpa using hA
        clear hA
        by_cases hB : (x.toList == y.toList) = true
        · have hbad : Hid (badS ss i) := Lib.hid ⟨hi0.out, by rw [← HE.out.1, hip.out, ← HE'.out.1]; unfold leB; rw [hB, Bool.or_true]⟩
          go_wp2_with fail
          go_region
          go_wp2_with fail
          go_ret
          exact ⟨⟨_, rfl, Or.inl ⟨i, HE.out.2, HJ.out, hbad.out, rfl⟩⟩, HK.out.trans (Kept.drew _ _) (fun _ _ _ => id)⟩
        · have hB' : (x.toList == y.toList) = false := by simpa using hB
          clear hB
          have hgood : Hid (¬ badS ss i) := Lib.hid (fun hb => by
            have := hb.2
            rw [← HE.out.1, hip.out, ← HE'.out.1] at this
            unfold leB at this
            rw [hA', hB'] at this
            cases this)
          go_wp2_with fail
          go_region
          go_wp2_with fail
          go_roundw
          case rel => exact ⟨i + 1, by omega, .inl (by omega), by go_num, Lib.hid (fun j hj => by
              by_cases e : j = i
              · rw [e]; exact hgood.out
              · exact HJ.out j (by omega)), Lib.hid (HK.out.trans (Kept.drew _ _) (fun _ _ _ => id))⟩
          case measure => simp only [intOf]; omega
    · have hlen := Lib.hid H.out.len
      have HJS : Hid (∀ j, j < ss.length → ¬ badS ss j) := Lib.hid (fun j hj => HJ.out j (by have := hlen.out; omega))
      have hni : ¬ (i : Int) < n := by omega
      clear HJ hi hi1 hlt
      go_wp2_with fail
      obtain ⟨w1, hw1⟩ : ∃ w1, w1 = wr := ⟨_, rfl⟩
      subst hw1
      have K1 := HK
      clear HK hni hn
      go_loopw [6] (fun v wr => ∃ i, i ≤ m ∧ v = .int .i64 (i : Nat) ∧ Hid (∀ j, j < i → okX ss xs j) ∧ Hid (Kept (fun _ _ => False) w wr)) (fun v _ => m - (intOf v).toNat)
      case atStart => exact ⟨0, Nat.zero_le _, rfl, Lib.hid (fun j h => by omega), K1⟩
      case round =>
        obtain ⟨i, hi, rfl, HJ, HK⟩ := hrel
        by_cases hlt : i < m
        · obtain ⟨b, o, r, lao, nl, lc, kao, nk, kc, rfl, hc, hc1, hc2, HAL, HAK, HE⟩ := HX.out.at HN.out HK.out hlt
          have hiI : (i : Int) < m := by omega
          have hlL := Lib.hid HAL.out.len
          have hk18 := Lib.hid (HL.out (xs.getD i default) (by rw [AtS.at.getD_of' HE.out.2]; exact List.getElem_mem _))
          have IFF := Lib.hid (okX_iff (ss := ss) (HF.out i HE.out.2))
          have HC1 : Hid (w.cell? ⟨b, o + i * 3 + 1, none⟩ = some (.slice lao nl lc)) := Lib.hid (by rw [← kcell HK.out (P := fun _ _ => False) (fun _ _ _ e => e) HN.out (show b < N by obtain ⟨_, _, he, _, hr⟩ := HX.out; cases he; obtain ⟨b2, o2, he, hb, _⟩ := hr (by omega); cases he; exact hb) _]; exact hc1)
          have HBN : Hid (b < N) := Lib.hid (by obtain ⟨_, _, he, _, hr⟩ := HX.out; cases he; obtain ⟨b2, o2, he, hb, _⟩ := hr (by omega); cases he; exact hb)
          have hnl9 : nl < 9223372036854775808 := by have := hlL.out; have := hk18.out; omega
          have hwn : IntKind.i64.wrap ((n : Int) + i) = (n : Int) + i := IntWalk.i64_in _ (by have := HN200.out; omega)
          obtain ⟨wX, hwX⟩ : ∃ wX, wX = wr := ⟨_, rfl⟩
          subst hwX
          by_cases h0 : i = 0
          · have d4 : decide (0 < i) = false := decide_eq_false (by omega)
            have HQ : Hid (¬ (0 < i ∧ cmpL (xs.getD i default).ls (xs.getD (i - 1) default).ls < 0)) := Lib.hid (fun h => by omega)
            clear h0
            go_wp2_with fail
            go_region
            obtain ⟨w9, hw9⟩ : ∃ w9, w9 = wX.drew := ⟨_, rfl⟩
            have K9 : Hid (Kept (fun _ _ => False) w w9) := Lib.hid (by rw [hw9]; exact HK.out.trans (Kept.drew _ _) (fun _ _ _ => id))
            rw [← hw9]
            clear hw9
            go_wp2_with fail
            clear hc hc1 hc2
            go_loopw [7] (fun v wr => ∃ k, k ≤ nl ∧ v = .int .i64 (k : Nat) ∧ Hid (∀ j, j < k → (∃ s ∈ ss, s.data.toList = ((xs.getD i default).ls.getD j default).1.data.toList) ∧ ∃ s ∈ ss, s.data.toList = ((xs.getD i default).ls.getD j default).2.data.toList) ∧ Hid (Kept (fun _ _ => False) w wr)) (fun v _ => nl - (intOf v).toNat)
            case atStart => exact ⟨0, Nat.zero_le _, rfl, Lib.hid (fun j h => by omega), K9⟩
            case round =>
              clear K9 HK
              obtain ⟨k, hk, rfl, HJ2, HK⟩ := hrel
              obtain ⟨b', o', r', lao', nl', lc', kao', nk', kc', he, hc, hc1, hc2, _, _, _⟩ := HX.out.at HN.out HK.out hlt
              cases he
              clear hc hc2
              obtain ⟨v1, hv1, hvc⟩ : ∃ v1, v1 = Value.slice lao nl lc ∧ wr.cell? ⟨b, o + i * 3 + 1, none⟩ = some v1 := ⟨_, rfl, (by rw [(kcell HK.out (P := fun _ _ => False) (fun _ _ _ e => e) HN.out HBN.out _)]; exact HC1.out)⟩
              subst hv1
              clear hc1
              by_cases hlk : k < nl
              · obtain ⟨lb, lo, x, y, rfl, hx0, hy0, HXY⟩ := HAL.out.at HN.out HK.out hlk
                have hkI : (k : Int) < nl := by omega
                have hlb := World.block_lt_of_cell? _ _ hx0
                have hbb := World.block_lt_of_cell? _ _ hvc
                have hn18 : n < 9223372036854775808 := by have := HN200.out; omega
                by_cases p1 : ∃ s ∈ ss, s.data.toList = x.data.toList
                · have C1 := Lib.hid (fixw (hasWord_any N wr _ _ _ _ (H.out.kept HK.out (fun _ _ _ e => e) HN.out) (Nat.le_trans HN.out HK.out.size) hn18 x) (b := true) ⟨fun _ => p1, fun _ => rfl⟩)
                  have HP1 := Lib.hid p1
                  clear p1
                  go_wp2_with fail
                  (with_reducible refine C1.out.mono ?_)
                  rintro e w2 ⟨rfl, hk2⟩
                  have hvc2 := (hk2.cell _ _ hbb id).trans hvc
                  have hx2 := (hk2.cell _ _ hlb id).trans hx0
                  have hy2 := (hk2.cell _ _ hlb id).trans hy0
                  have K2 := Lib.hid (HK.out.trans hk2 (fun _ _ _ => id))
                  clear hk2 C1 hvc hx0 hy0 hlb hbb
                  by_cases p2 : ∃ s ∈ ss, s.data.toList = y.data.toList
                  · have C2 := Lib.hid (fixw (hasWord_any N w2 _ _ _ _ (H.out.kept K2.out (fun _ _ _ e => e) HN.out) (Nat.le_trans HN.out K2.out.size) hn18 y) (b := true) ⟨fun _ => p2, fun _ => rfl⟩)
                    have HP2 := Lib.hid p2
                    clear p2
                    go_wp2_with fail
                    (with_reducible refine C2.out.mono ?_)
                    rintro e w3 ⟨rfl, hk3⟩
                    have K3 := Lib.hid (K2.out.trans hk3 (fun _ _ _ => id))
                    clear hk3 C2
                    go_wp2_with fail
                    go_roundw
                    case rel => exact ⟨k + 1, by omega, by go_num, Lib.hid (fun j hj => by
                        by_cases e : j = k
                        · rw [e, ← HXY.out.1]; exact ⟨HP1.out, HP2.out⟩
                        · exact HJ2.out j (by omega)), K3⟩
                    case measure => simp only [intOf]; omega
                  · have C2 := Lib.hid (fixw (hasWord_any N w2 _ _ _ _ (H.out.kept K2.out (fun _ _ _ e => e) HN.out) (Nat.le_trans HN.out K2.out.size) hn18 y) (b := false) ⟨fun h => by simp at h, fun h => absurd h p2⟩)
                    have HP2 : Hid (¬ okX ss xs i) := Lib.hid (fun h => p2 (by
                      have := (IFF.out.1 h).2 (x, y) (by rw [HXY.out.1, AtS.at.getD_of' HXY.out.2]; exact List.getElem_mem _)
                      exact this.2))
                    clear p2
                    go_wp2_with fail
                    (with_reducible refine C2.out.mono ?_)
                    rintro e w3 ⟨rfl, hk3⟩
                    have K3 := Lib.hid (K2.out.trans hk3 (fun _ _ _ => id))
                    clear hk3 C2
                    go_wp2_with fail
                    go_ret
                    exact ⟨⟨_, rfl, Or.inr (Or.inl ⟨HJS.out, i, HE.out.2, HJ.out, HP2.out, by rw [← hlen.out]⟩)⟩, K3.out⟩
                · have C1 := Lib.hid (fixw (hasWord_any N wr _ _ _ _ (H.out.kept HK.out (fun _ _ _ e => e) HN.out) (Nat.le_trans HN.out HK.out.size) hn18 x) (b := false) ⟨fun h => by simp at h, fun h => absurd h p1⟩)
                  have HP1 : Hid (¬ okX ss xs i) := Lib.hid (fun h => p1 (by
                    have := (IFF.out.1 h).2 (x, y) (by rw [HXY.out.1, AtS.at.getD_of' HXY.out.2]; exact List.getElem_mem _)
                    exact this.1))
                  clear p1
                  go_wp2_with fail
                  (with_reducible refine C1.out.mono ?_)
                  rintro e w2 ⟨rfl, hk2⟩
                  have K2 := Lib.hid (HK.out.trans hk2 (fun _ _ _ => id))
                  clear hk2 C1
                  go_wp2_with fail
                  go_ret
                  exact ⟨⟨_, rfl, Or.inr (Or.inl ⟨HJS.out, i, HE.out.2, HJ.out, HP1.out, by rw [← hlen.out]⟩)⟩, K2.out⟩
              · obtain rfl : k = nl := by omega
                have hkn : ¬ (k : Int) < k := by omega
                have OK : Hid (okX ss xs i) := Lib.hid (IFF.out.2 ⟨HQ.out, mem_at (P := fun x : Lab => (∃ s ∈ ss, s.data.toList = x.1.data.toList) ∧ ∃ s ∈ ss, s.data.toList = x.2.data.toList) (fun j hj => HJ2.out j (by have := hlL.out; omega))⟩)
                go_wp2_with fail
                go_roundw
                case rel => exact ⟨i + 1, by omega, by go_num, Lib.hid (fun j hj => by
                    by_cases e : j = i
                    · rw [e]; exact OK.out
                    · exact HJ.out j (by omega)), HK⟩
                case measure => simp only [intOf]; omega
          · obtain ⟨p, hp⟩ : ∃ p, i = p + 1 := ⟨i - 1, by omega⟩
            obtain ⟨b', o', r', lao', nl', lc', kao', nk', kc', he, e0, e1, e2, HAL', _, HE'⟩ := HX.out.at HN.out HK.out (show p < m by omega)
            cases he
            have d4 : decide (0 < i) = true := decide_eq_true (by omega)
            have d41 : IntKind.i64.wrap ((i : Int) - 1) = (p : Int) := by rw [show (i : Int) - 1 = p by omega]; exact IntWalk.i64_in _ (by omega)
            have d42 : (p : Int) < m := by omega
            have hip := Lib.hid (show i - 1 = p by omega)
            have hlL' := Lib.hid HAL'.out.len
            have hk18' := Lib.hid (HL.out (xs.getD p default) (by rw [AtS.at.getD_of' HE'.out.2]; exact List.getElem_mem _))
            obtain ⟨C, hC⟩ : ∃ C, C = cmpL (xs.getD i default).ls (xs.getD p default).ls := ⟨_, rfl⟩
            have CL := Lib.hid (compareLabels_any N wX.drew _ _ _ _ (HAL.out.kept (HK.out.trans (Kept.drew _ _) (fun _ _ _ => id)) (fun _ _ _ e => e) HN.out) _ _ _ _ (HAL'.out.kept (HK.out.trans (Kept.drew _ _) (fun _ _ _ => id)) (fun _ _ _ e => e) HN.out) (Nat.le_trans HN.out HK.out.size) (by have := hlL.out; have := hk18.out; omega) (by have := hlL'.out; have := hk18'.out; omega))
            rw [← hC] at CL
            clear hp h0 e0 e2 hc hc2
            by_cases hD : C < 0
            · have d7 : decide (C < 0) = true := decide_eq_true hD
              have HP1 : Hid (¬ okX ss xs i) := Lib.hid (fun h => (IFF.out.1 h).1 ⟨of_decide_eq_true d4, by rw [hip.out, ← hC]; exact hD⟩)
              clear hD hC
              go_wp2_with fail
              go_still_tail 14, (by kernel_rfl)
              go_wp2_with fail
              (with_reducible refine CL.out.mono ?_)
              rintro e w9 ⟨rfl, hk9⟩
              have K9 : Hid (Kept (fun _ _ => False) w w9) := Lib.hid ((HK.out.trans (Kept.drew _ _) (fun _ _ _ => id)).trans hk9 (fun _ _ _ => id))
              clear hk9 CL
              go_wp2_with fail
              go_ret
              exact ⟨⟨_, rfl, Or.inr (Or.inl ⟨HJS.out, i, HE.out.2, HJ.out, HP1.out, by rw [← hlen.out]⟩)⟩, K9.out⟩
            · have d7 : decide (C < 0) = false := decide_eq_false hD
              have HQ : Hid (¬ (0 < i ∧ cmpL (xs.getD i default).ls (xs.getD (i - 1) default).ls < 0)) := Lib.hid (fun h => hD (by rw [hC, ← hip.out]; exact h.2))
              clear hD hC
              go_wp2_with fail
              go_still_tail 14, (by kernel_rfl)
              go_wp2_with fail
              (with_reducible refine CL.out.mono ?_)
              rintro e w9 ⟨rfl, hk9⟩
              have K9 : Hid (Kept (fun _ _ => False) w w9) := Lib.hid ((HK.out.trans (Kept.drew _ _) (fun _ _ _ => id)).trans hk9 (fun _ _ _ => id))
              clear hk9 CL e1
              go_wp2_with fail
              clear hc1
              go_loopw [7] (fun v wr => ∃ k, k ≤ nl ∧ v = .int .i64 (k : Nat) ∧ Hid (∀ j, j < k → (∃ s ∈ ss, s.data.toList = ((xs.getD i default).ls.getD j default).1.data.toList) ∧ ∃ s ∈ ss, s.data.toList = ((xs.getD i default).ls.getD j default).2.data.toList) ∧ Hid (Kept (fun _ _ => False) w wr)) (fun v _ => nl - (intOf v).toNat)
              case atStart => exact ⟨0, Nat.zero_le _, rfl, Lib.hid (fun j h => by omega), K9⟩
              case round =>
                clear K9 HK
                obtain ⟨k, hk, rfl, HJ2, HK⟩ := hrel
                obtain ⟨b', o', r', lao', nl', lc', kao', nk', kc', he, hc, hc1, hc2, _, _, _⟩ := HX.out.at HN.out HK.out hlt
                cases he
                clear hc hc2
                obtain ⟨v1, hv1, hvc⟩ : ∃ v1, v1 = Value.slice lao nl lc ∧ wr.cell? ⟨b, o + i * 3 + 1, none⟩ = some v1 := ⟨_, rfl, (by rw [(kcell HK.out (P := fun _ _ => False) (fun _ _ _ e => e) HN.out HBN.out _)]; exact HC1.out)⟩
                subst hv1
                clear hc1
                by_cases hlk : k < nl
                · obtain ⟨lb, lo, x, y, rfl, hx0, hy0, HXY⟩ := HAL.out.at HN.out HK.out hlk
                  have hkI : (k : Int) < nl := by omega
                  have hlb := World.block_lt_of_cell? _ _ hx0
                  have hbb := World.block_lt_of_cell? _ _ hvc
                  have hn18 : n < 9223372036854775808 := by have := HN200.out; omega
                  by_cases p1 : ∃ s ∈ ss, s.data.toList = x.data.toList
                  · have C1 := Lib.hid (fixw (hasWord_any N wr _ _ _ _ (H.out.kept HK.out (fun _ _ _ e => e) HN.out) (Nat.le_trans HN.out HK.out.size) hn18 x) (b := true) ⟨fun _ => p1, fun _ => rfl⟩)
                    have HP1 := Lib.hid p1
                    clear p1
                    go_wp2_with fail
                    (with_reducible refine C1.out.mono ?_)
                    rintro e w2 ⟨rfl, hk2⟩
                    have hvc2 := (hk2.cell _ _ hbb id).trans hvc
                    have hx2 := (hk2.cell _ _ hlb id).trans hx0
                    have hy2 := (hk2.cell _ _ hlb id).trans hy0
                    have K2 := Lib.hid (HK.out.trans hk2 (fun _ _ _ => id))
                    clear hk2 C1 hvc hx0 hy0 hlb hbb
                    by_cases p2 : ∃ s ∈ ss, s.data.toList = y.data.toList
                    · have C2 := Lib.hid (fixw (hasWord_any N w2 _ _ _ _ (H.out.kept K2.out (fun _ _ _ e => e) HN.out) (Nat.le_trans HN.out K2.out.size) hn18 y) (b := true) ⟨fun _ => p2, fun _ => rfl⟩)
                      have HP2 := Lib.hid p2
                      clear p2
                      go_wp2_with fail
                      (with_reducible refine C2.out.mono ?_)
                      rintro e w3 ⟨rfl, hk3⟩
                      have K3 := Lib.hid (K2.out.trans hk3 (fun _ _ _ => id))
                      clear hk3 C2
                      go_wp2_with fail
                      go_roundw
                      case rel => exact ⟨k + 1, by omega, by go_num, Lib.hid (fun j hj => by
                          by_cases e : j = k
                          · rw [e, ← HXY.out.1]; exact ⟨HP1.out, HP2.out⟩
                          · exact HJ2.out j (by omega)), K3⟩
                      case measure => simp only [intOf]; omega
                    · have C2 := Lib.hid (fixw (hasWord_any N w2 _ _ _ _ (H.out.kept K2.out (fun _ _ _ e => e) HN.out) (Nat.le_trans HN.out K2.out.size) hn18 y) (b := false) ⟨fun h => by simp at h, fun h => absurd h p2⟩)
                      have HP2 : Hid (¬ okX ss xs i) := Lib.hid (fun h => p2 (by
                        have := (IFF.out.1 h).2 (x, y) (by rw [HXY.out.1, AtS.at.getD_of' HXY.out.2]; exact List.getElem_mem _)
                        exact this.2))
                      clear p2
                      go_wp2_with fail
                      (with_reducible refine C2.out.mono ?_)
                      rintro e w3 ⟨rfl, hk3⟩
                      have K3 := Lib.hid (K2.out.trans hk3 (fun _ _ _ => id))
                      clear hk3 C2
                      go_wp2_with fail
                      go_ret
                      exact ⟨⟨_, rfl, Or.inr (Or.inl ⟨HJS.out, i, HE.out.2, HJ.out, HP2.out, by rw [← hlen.out]⟩)⟩, K3.out⟩
                  · have C1 := Lib.hid (fixw (hasWord_any N wr _ _ _ _ (H.out.kept HK.out (fun _ _ _ e => e) HN.out) (Nat.le_trans HN.out HK.out.size) hn18 x) (b := false) ⟨fun h => by simp at h, fun h => absurd h p1⟩)
                    have HP1 : Hid (¬ okX ss xs i) := Lib.hid (fun h => p1 (by
                      have := (IFF.out.1 h).2 (x, y) (by rw [HXY.out.1, AtS.at.getD_of' HXY.out.2]; exact List.getElem_mem _)
                      exact this.1))
                    clear p1
                    go_wp2_with fail
                    (with_reducible refine C1.out.mono ?_)
                    rintro e w2 ⟨rfl, hk2⟩
                    have K2 := Lib.hid (HK.out.trans hk2 (fun _ _ _ => id))
                    clear hk2 C1
                    go_wp2_with fail
                    go_ret
                    exact ⟨⟨_, rfl, Or.inr (Or.inl ⟨HJS.out, i, HE.out.2, HJ.out, HP1.out, by rw [← hlen.out]⟩)⟩, K2.out⟩
                · obtain rfl : k = nl := by omega
                  have hkn : ¬ (k : Int) < k := by omega
                  have OK : Hid (okX ss xs i) := Lib.hid (IFF.out.2 ⟨HQ.out, mem_at (P := fun x : Lab => (∃ s ∈ ss, s.data.toList = x.1.data.toList) ∧ ∃ s ∈ ss, s.data.toList = x.2.data.toList) (fun j hj => HJ2.out j (by have := hlL.out; omega))⟩)
                  go_wp2_with fail
                  go_roundw
                  case rel => exact ⟨i + 1, by omega, by go_num, Lib.hid (fun j hj => by
                      by_cases e : j = i
                      · rw [e]; exact OK.out
                      · exact HJ.out j (by omega)), HK⟩
                  case measure => simp only [intOf]; omega
        · obtain rfl : i = m := by omega
          have hlx := Lib.hid HX.out.len
          have hm0 : ¬ (i : Int) < i := by omega
          go_wp2_with fail
          go_ret
          exact ⟨⟨_, rfl, Or.inr (Or.inr ⟨HJS.out, fun j hj => HJ.out j (by have := hlx.out; omega), rfl⟩)⟩, HK.out⟩

end Go.Proofs.YtfipfoplmopkaaaGreatDoor

namespace Go.Proofs.YtfipfoplmopkaaaGreatDoor
open Go.RowKit Go.Maps

section
variable {N N' : Nat} {w : World} {v : Value}
theorem AtS.more (h : N ≤ N') {ss : List ByteArray} (k : AtS N w v ss) : AtS N' w v ss := by
  obtain ⟨ao, c, h1, h2, h3⟩ := k
  refine ⟨ao, c, h1, h2, fun h0 => ?_⟩
  obtain ⟨b, o, h4, h5, h6⟩ := h3 h0
  exact ⟨b, o, h4, Nat.lt_of_lt_of_le h5 h, h6⟩
theorem AtL.more (h : N ≤ N') {ss : List Lab} (k : AtL N w v ss) : AtL N' w v ss := by
  obtain ⟨ao, c, h1, h2, h3⟩ := k
  refine ⟨ao, c, h1, h2, fun h0 => ?_⟩
  obtain ⟨b, o, h4, h5, h6⟩ := h3 h0
  exact ⟨b, o, h4, Nat.lt_of_lt_of_le h5 h, h6⟩
theorem AtK.more (h : N ≤ N') {ss : List Ck} (k : AtK N w v ss) : AtK N' w v ss := by
  obtain ⟨ao, c, h1, h2, h3⟩ := k
  refine ⟨ao, c, h1, h2, fun h0 => ?_⟩
  obtain ⟨b, o, h4, h5, h6⟩ := h3 h0
  exact ⟨b, o, h4, Nat.lt_of_lt_of_le h5 h, h6⟩
theorem AtX.more (h : N ≤ N') {ss : List Sr} (k : AtX N w v ss) : AtX N' w v ss := by
  obtain ⟨ao, c, h1, h2, h3⟩ := k
  refine ⟨ao, c, h1, h2, fun h0 => ?_⟩
  obtain ⟨b, o, h4, h5, h6⟩ := h3 h0
  refine ⟨b, o, h4, Nat.lt_of_lt_of_le h5 h, fun i hi => ?_⟩
  obtain ⟨vl, vk, a1, a2, a3, a4, a5⟩ := h6 i hi
  exact ⟨vl, vk, a1, a2, a3, a4.more h, a5.more h⟩
end

set_option maxRecDepth 100000 in
set_option maxHeartbeats 2000000 in
theorem law_any (w : World) (ao : Option Addr) (n c : Nat) (ss : List ByteArray) (h : AtS w.heap.size w (.slice ao n c) ss) (hn : n ≤ maxLen) (bo : Option Addr) (m c2 : Nat) (xs : List Sr) (hx : AtX w.heap.size w (.slice bo m c2) xs)
    (hl : ∀ s ∈ xs, s.ls.length ≤ maxLen ∧ s.ck.length ≤ maxLen) (h64 : ∀ s ∈ xs, s.r < 18446744073709551616 ∧ ∀ k ∈ s.ck, k.r < 18446744073709551616) :
    Calls Tryz.prog 3 #[.slice ao n c, .slice bo m c2] w fun e w' => e = .returned (.bool true) ∧ Kept (fun _ _ => False) w w' := by
  have hmx : maxLen < 9223372036854775808 := by decide
  have H := Lib.hid h
  have HX := Lib.hid hx
  have H64 := Lib.hid h64
  have HN18 : Hid (n < 9223372036854775808) := Lib.hid (by omega)
  have HL18 : Hid (∀ x ∈ xs, x.ls.length < 9223372036854775808 ∧ x.ck.length < 9223372036854775808) := Lib.hid (fun x hx => by have := hl x hx; omega)
  have Z1 := Lib.hid (zz13_any _ w _ _ _ _ h (Nat.le_refl _))
  clear h hx h64 hl hn hmx
  go_enter Tryz.func3, Tryz.ntmps3
  go_wp2_with fail
  (with_reducible refine Z1.out.mono ?_)
  rintro e w1 ⟨⟨t, rfl⟩, hk⟩
  have K1 := Lib.hid hk
  clear hk Z1
  cases t with
  | false =>
    go_wp2_with fail
    go_ret
    exact ⟨rfl, K1.out⟩
  | true =>
  have Z2 := Lib.hid (zz14_any _ w1 _ _ _ _ (HX.out.kept K1.out (fun _ _ _ e => e) (Nat.le_refl _)) K1.out.size)
  go_wp2_with fail
  (with_reducible refine Z2.out.mono ?_)
  rintro e w2 ⟨⟨t, rfl⟩, hk⟩
  have K2 := Lib.hid (K1.out.trans hk (fun _ _ _ => id))
  clear hk Z2 K1
  cases t with
  | false =>
    go_wp2_with fail
    go_ret
    exact ⟨rfl, K2.out⟩
  | true =>
  have Z3 := Lib.hid (wordsFew_any _ w2 _ _ _ _ (H.out.kept K2.out (fun _ _ _ e => e) (Nat.le_refl _)) K2.out.size HN18.out)
  go_wp2_with fail
  (with_reducible refine Z3.out.mono ?_)
  rintro e w3 ⟨⟨t, rfl, ht⟩, hk⟩
  have K3 := Lib.hid (K2.out.trans hk (fun _ _ _ => id))
  have HT := Lib.hid ht
  clear hk Z3 K2 ht
  cases t with
  | false =>
    go_wp2_with fail
    (with_reducible refine (awake_any w3).mono ?_)
    rintro e w4 ⟨rfl, hk⟩
    have K4 := Lib.hid (K3.out.trans hk (fun _ _ _ => id))
    clear hk
    go_wp2_with fail
    go_ret
    exact ⟨rfl, K4.out⟩
  | true =>
  have SO := Lib.hid (HT.out rfl)
  have Z4 := Lib.hid (indexFew_any _ w3 _ _ _ _ (HX.out.kept K3.out (fun _ _ _ e => e) (Nat.le_refl _)) K3.out.size HL18.out)
  clear HT
  go_wp2_with fail
  (with_reducible refine Z4.out.mono ?_)
  rintro e w4 ⟨⟨t, rfl, ht⟩, hk⟩
  have K4 := Lib.hid (K3.out.trans hk (fun _ _ _ => id))
  have HT := Lib.hid ht
  clear hk Z4 K3 ht
  cases t with
  | false =>
    go_wp2_with fail
    (with_reducible refine (awake_any w4).mono ?_)
    rintro e w5 ⟨rfl, hk⟩
    have K5 := Lib.hid (K4.out.trans hk (fun _ _ _ => id))
    clear hk
    go_wp2_with fail
    go_ret
    exact ⟨rfl, K5.out⟩
  | true =>
  obtain ⟨h20, hfx⟩ := HT.out rfl
  have XO := Lib.hid (FX.xok h20 hfx H64.out)
  have FXX := Lib.hid hfx
  have H20 := Lib.hid h20
  clear HT h20 hfx
  have Z5 := Lib.hid (build_any w4 ss xs _ _ ((H.out.kept K4.out (fun _ _ _ e => e) (Nat.le_refl _)).more K4.out.size) ((HX.out.kept K4.out (fun _ _ _ e => e) (Nat.le_refl _)).more K4.out.size) SO.out XO.out)
  go_wp2_with fail
  (with_reducible refine Z5.out.mono ?_)
  rintro e w5 ⟨v, r, rfl, hr, hk⟩
  have K5 := Lib.hid (K4.out.trans hk (fun _ _ _ => id))
  have HR := Lib.hid hr
  clear hk Z5 K4 hr
  go_wp2_with fail
  (with_reducible refine (awake_any w5).mono ?_)
  rintro e w6 ⟨rfl, hk⟩
  have K6 := Lib.hid (K5.out.trans hk (fun _ _ _ => id))
  clear hk K5
  have Z6 := Lib.hid (refused_any _ w6 _ _ _ _ (H.out.kept K6.out (fun _ _ _ e => e) (Nat.le_refl _)) _ _ _ _ (HX.out.kept K6.out (fun _ _ _ e => e) (Nat.le_refl _)) K6.out.size (by rw [H.out.len]; exact SO.out.n) (by rw [HX.out.len]; exact H20.out) HL18.out FXX.out)
  go_wp2_with fail
  (with_reducible refine Z6.out.mono ?_)
  rintro e w7 ⟨⟨r', rfl, hr'⟩, hk⟩
  have K7 := Lib.hid (K6.out.trans hk (fun _ _ _ => id))
  obtain rfl := RefR.one HR.out hr'
  have hrr : (r == r) = true := beq_self_eq_true r
  clear hk Z6 K6 hr' HR
  go_wp2_with fail
  go_ret
  exact ⟨rfl, K7.out⟩

end Go.Proofs.YtfipfoplmopkaaaGreatDoor
