/- spec.Refused(10). Conditions: lengths; what indexFew lets by. laws.FnIndexRefuses(3): true, whatever the arguments. Conditions: what every reading of them gives. -/
import Derived.Test.YtfipfoplmopkaaaGreatDoorZ49
import Derived.Test.YtfipfoplmopkaaaGreatDoorZ50
import Derived.Test.YtfipfoplmopkaaaGreatDoorZ13
import Derived.Deep.RegionHeld3
import Derived.StillTailTactics

namespace Go.Proofs.YtfipfoplmopkaaaGreatDoor
open Go.RowKit Go.Maps

theorem leq_bytes (x y : ByteArray) : leB x y = decide (x.data.toList < y.data.toList ∨ x.data.toList = y.data.toList) := by
  unfold leB
  rw [bless_bytes, beq_bytes]
  by_cases h1 : x.data.toList < y.data.toList <;> by_cases h2 : x.data.toList = y.data.toList <;> simp [h1, h2]

theorem fixw {f : Nat} {args : Array Value} {w : World} {Q : Prop} {K : World → Prop} (h : Calls Tryz.prog f args w (fun e w' => (∃ b, e = .returned (.bool b) ∧ (b = true ↔ Q)) ∧ K w')) {b : Bool} (hq : b = true ↔ Q) : Calls Tryz.prog f args w (fun e w' => e = .returned (.bool b) ∧ K w') :=
  h.mono (fun e w' ⟨⟨b', he, hb⟩, hk⟩ => ⟨by
    rw [he]
    cases b <;> cases b'
    · rfl
    · exact absurd (hq.2 (hb.1 rfl)) (by simp)
    · exact absurd (hb.2 (hq.1 rfl)) (by simp)
    · rfl, hk⟩)

set_option maxRecDepth 100000 in
set_option maxHeartbeats 1500000 in
theorem refused_any (N : Nat) (w : World) (ao : Option Addr) (n c : Nat) (ss : List ByteArray) (h : AtS N w (.slice ao n c) ss) (bo : Option Addr) (m c2 : Nat) (xs : List Sr) (hx : AtX N w (.slice bo m c2) xs) (hN : N ≤ w.heap.size) (hn : n ≤ 200) (hm : m ≤ 20) (hl : ∀ x ∈ xs, x.ls.length < 9223372036854775808 ∧ x.ck.length < 9223372036854775808) (hfx : ∀ j, j < xs.length → FX xs j) :
    Calls Tryz.prog 10 #[.slice ao n c, .slice bo m c2] w fun e w' => (∃ r : Int, e = .returned (.int .i64 r) ∧ RefR ss xs r) ∧ Kept (fun _ _ => False) w w' := by
  have H := Lib.hid h
  have HX := Lib.hid hx
  have HN := Lib.hid hN
  have HL := Lib.hid hl
  have HF := Lib.hid hfx
  have HN200 := Lib.hid (And.intro hn hm)
  clear h hx hN hl hfx
  go_enter Tryz.func10, Tryz.ntmps10
  go_wp2_with fail
  go_loopw [5] (fun v wr => ∃ i, 1 ≤ i ∧ (i ≤ n ∨ i = 1) ∧ v = .int .i64 (i : Nat) ∧ Hid (∀ j, j < i → ¬ badS ss j) ∧ Hid (Kept (fun _ _ => False) w wr)) (fun v _ => n - (intOf v).toNat)
  case atStart => exact ⟨1, Nat.le_refl _, .inr rfl, rfl, Lib.hid (fun j h hb => by have := hb.1; omega), Lib.hid (Kept.refl _ _)⟩
  case round =>
    obtain ⟨i, hi1, hi, rfl, HJ, HK⟩ := hrel
    by_cases hlt : i < n
    · obtain ⟨p, hp⟩ : ∃ p, i = p + 1 := ⟨i - 1, by omega⟩
      obtain ⟨b, o, x, rfl, hc, HE⟩ := H.out.at HN.out HK.out hlt
      obtain ⟨b', o', y, he, hc', HE'⟩ := H.out.at HN.out HK.out (show p < n by omega)
      cases he
      have hiI : (i : Int) < n := by omega
      have d41 : IntKind.i64.wrap ((i : Int) - 1) = (p : Int) := by rw [show (i : Int) - 1 = p by omega]; exact IntWalk.i64_in _ (by omega)
      have d42 : (p : Int) < n := by omega
      have hip := Lib.hid (show i - 1 = p by omega)
      have hi0 := Lib.hid (show 0 < i by omega)
      clear hp
      by_cases hA : Op.bytesLess x.toList y.toList = true
      · have hbad : Hid (badS ss i) := Lib.hid ⟨hi0.out, by rw [← HE.out.1, hip.out, ← HE'.out.1]; unfold leB; rw [hA]; rfl⟩
        go_wp2_with fail
        go_region
        go_wp2_with fail
        go_ret
        exact ⟨⟨_, rfl, Or.inl ⟨i, HE.out.2, HJ.out, hbad.out, rfl⟩⟩, HK.out.trans (Kept.drew _ _) (fun _ _ _ => id)⟩
      · have hA' : Op.bytesLess x.toList y.toList = false := by simpa using hA
        clear hA
        by_cases hB : (x.toList == y.toList) = true
        · have hbad : Hid (badS ss i) := Lib.hid ⟨hi0.out, by rw [← HE.out.1, hip.out, ← HE'.out.1]; unfold leB; rw [hB, Bool.or_true]⟩
          go_wp2_with fail
          go_region
          go_wp2_with fail
          go_ret
          exact ⟨⟨_, rfl, Or.inl ⟨i, HE.out.2, HJ.out, hbad.out, rfl⟩⟩, HK.out.trans (Kept.drew _ _) (fun _ _ _ => id)⟩
        · have hB' : (x.toList == y.toList) = false := by simpa using hB
          clear hB
          have hgood : Hid (¬ badS ss i) := Lib.hid (fun hb => by
            have := hb.2
            rw [← HE.out.1, hip.out, ← HE'.out.1] at this
            unfold leB at this
            rw [hA', hB'] at this
            cases this)
          go_wp2_with fail
          go_region
          go_wp2_with fail
          go_roundw
          case rel => exact ⟨i + 1, by omega, .inl (by omega), by go_num, Lib.hid (fun j hj => by
              by_cases e : j = i
              · rw [e]; exact hgood.out
              · exact HJ.out j (by omega)), Lib.hid (HK.out.trans (Kept.drew _ _) (fun _ _ _ => id))⟩
          case measure => simp only [intOf]; omega
    · have hlen := Lib.hid H.out.len
      have HJS : Hid (∀ j, j < ss.length → ¬ badS ss j) := Lib.hid (fun j hj => HJ.out j (by have := hlen.out; omega))
      have hni : ¬ (i : Int) < n := by omega
      clear HJ hi hi1 hlt
      go_wp2_with fail
      obtain ⟨w1, hw1⟩ : ∃ w1, w1 = wr := ⟨_, rfl⟩
      subst hw1
      have K1 := HK
      clear HK hni hn
      go_loopw [6] (fun v wr => ∃ i, i ≤ m ∧ v = .int .i64 (i : Nat) ∧ Hid (∀ j, j < i → okX ss xs j) ∧ Hid (Kept (fun _ _ => False) w wr)) (fun v _ => m - (intOf v).toNat)
      case atStart => exact ⟨0, Nat.zero_le _, rfl, Lib.hid (fun j h => by omega), K1⟩
      case round =>
        obtain ⟨i, hi, rfl, HJ, HK⟩ := hrel
        by_cases hlt : i < m
        · obtain ⟨b, o, r, lao, nl, lc, kao, nk, kc, rfl, hc, hc1, hc2, HAL, HAK, HE⟩ := HX.out.at HN.out HK.out hlt
          have hiI : (i : Int) < m := by omega
          have hlL := Lib.hid HAL.out.len
          have hk18 := Lib.hid (HL.out (xs.getD i default) (by rw [AtS.at.getD_of' HE.out.2]; exact List.getElem_mem _))
          have IFF := Lib.hid (okX_iff (ss := ss) (HF.out i HE.out.2))
          have HC1 : Hid (w.cell? ⟨b, o + i * 3 + 1, none⟩ = some (.slice lao nl lc)) := Lib.hid (by rw [← kcell HK.out (P := fun _ _ => False) (fun _ _ _ e => e) HN.out (show b < N by obtain ⟨_, _, he, _, hr⟩ := HX.out; cases he; obtain ⟨b2, o2, he, hb, _⟩ := hr (by omega); cases he; exact hb) _]; exact hc1)
          have HBN : Hid (b < N) := Lib.hid (by obtain ⟨_, _, he, _, hr⟩ := HX.out; cases he; obtain ⟨b2, o2, he, hb, _⟩ := hr (by omega); cases he; exact hb)
          have hnl9 : nl < 9223372036854775808 := by have := hlL.out; have := hk18.out; omega
          have hwn : IntKind.i64.wrap ((n : Int) + i) = (n : Int) + i := IntWalk.i64_in _ (by have := HN200.out; omega)
          obtain ⟨wX, hwX⟩ : ∃ wX, wX = wr := ⟨_, rfl⟩
          subst hwX
          by_cases h0 : i = 0
          · have d4 : decide (0 < i) = false := decide_eq_false (by omega)
            have HQ : Hid (¬ (0 < i ∧ cmpL (xs.getD i default).ls (xs.getD (i - 1) default).ls < 0)) := Lib.hid (fun h => by omega)
            clear h0
            go_wp2_with fail
            go_region
            obtain ⟨w9, hw9⟩ : ∃ w9, w9 = wX.drew := ⟨_, rfl⟩
            have K9 : Hid (Kept (fun _ _ => False) w w9) := Lib.hid (by rw [hw9]; exact HK.out.trans (Kept.drew _ _) (fun _ _ _ => id))
            rw [← hw9]
            clear hw9
            go_wp2_with fail
            clear hc hc1 hc2
            go_loopw [7] (fun v wr => ∃ k, k ≤ nl ∧ v = .int .i64 (k : Nat) ∧ Hid (∀ j, j < k → (∃ s ∈ ss, s.data.toList = ((xs.getD i default).ls.getD j default).1.data.toList) ∧ ∃ s ∈ ss, s.data.toList = ((xs.getD i default).ls.getD j default).2.data.toList) ∧ Hid (Kept (fun _ _ => False) w wr)) (fun v _ => nl - (intOf v).toNat)
            case atStart => exact ⟨0, Nat.zero_le _, rfl, Lib.hid (fun j h => by omega), K9⟩
            case round =>
              clear K9 HK
              obtain ⟨k, hk, rfl, HJ2, HK⟩ := hrel
              obtain ⟨b', o', r', lao', nl', lc', kao', nk', kc', he, hc, hc1, hc2, _, _, _⟩ := HX.out.at HN.out HK.out hlt
              cases he
              clear hc hc2
              obtain ⟨v1, hv1, hvc⟩ : ∃ v1, v1 = Value.slice lao nl lc ∧ wr.cell? ⟨b, o + i * 3 + 1, none⟩ = some v1 := ⟨_, rfl, (by rw [(kcell HK.out (P := fun _ _ => False) (fun _ _ _ e => e) HN.out HBN.out _)]; exact HC1.out)⟩
              subst hv1
              clear hc1
              by_cases hlk : k < nl
              · obtain ⟨lb, lo, x, y, rfl, hx0, hy0, HXY⟩ := HAL.out.at HN.out HK.out hlk
                have hkI : (k : Int) < nl := by omega
                have hlb := World.block_lt_of_cell? _ _ hx0
                have hbb := World.block_lt_of_cell? _ _ hvc
                have hn18 : n < 9223372036854775808 := by have := HN200.out; omega
                by_cases p1 : ∃ s ∈ ss, s.data.toList = x.data.toList
                · have C1 := Lib.hid (fixw (hasWord_any N wr _ _ _ _ (H.out.kept HK.out (fun _ _ _ e => e) HN.out) (Nat.le_trans HN.out HK.out.size) hn18 x) (b := true) ⟨fun _ => p1, fun _ => rfl⟩)
                  have HP1 := Lib.hid p1
                  clear p1
                  go_wp2_with fail
                  (with_reducible refine C1.out.mono ?_)
                  rintro e w2 ⟨rfl, hk2⟩
                  have hvc2 := (hk2.cell _ _ hbb id).trans hvc
                  have hx2 := (hk2.cell _ _ hlb id).trans hx0
                  have hy2 := (hk2.cell _ _ hlb id).trans hy0
                  have K2 := Lib.hid (HK.out.trans hk2 (fun _ _ _ => id))
                  clear hk2 C1 hvc hx0 hy0 hlb hbb
                  by_cases p2 : ∃ s ∈ ss, s.data.toList = y.data.toList
                  · have C2 := Lib.hid (fixw (hasWord_any N w2 _ _ _ _ (H.out.kept K2.out (fun _ _ _ e => e) HN.out) (Nat.le_trans HN.out K2.out.size) hn18 y) (b := true) ⟨fun _ => p2, fun _ => rfl⟩)
                    have HP2 := Lib.hid p2
                    clear p2
                    go_wp2_with fail
                    (with_reducible refine C2.out.mono ?_)
                    rintro e w3 ⟨rfl, hk3⟩
                    have K3 := Lib.hid (K2.out.trans hk3 (fun _ _ _ => id))
                    clear hk3 C2
                    go_wp2_with fail
                    go_roundw
                    case rel => exact ⟨k + 1, by omega, by go_num, Lib.hid (fun j hj => by
                        by_cases e : j = k
                        · rw [e, ← HXY.out.1]; exact ⟨HP1.out, HP2.out⟩
                        · exact HJ2.out j (by omega)), K3⟩
                    case measure => simp only [intOf]; omega
                  · have C2 := Lib.hid (fixw (hasWord_any N w2 _ _ _ _ (H.out.kept K2.out (fun _ _ _ e => e) HN.out) (Nat.le_trans HN.out K2.out.size) hn18 y) (b := false) ⟨fun h => by simp at h, fun h => absurd h p2⟩)
                    have HP2 : Hid (¬ okX ss xs i) := Lib.hid (fun h => p2 (by
                      have := (IFF.out.1 h).2 (x, y) (by rw [HXY.out.1, AtS.at.getD_of' HXY.out.2]; exact List.getElem_mem _)
                      exact this.2))
                    clear p2
                    go_wp2_with fail
                    (with_reducible refine C2.out.mono ?_)
                    rintro e w3 ⟨rfl, hk3⟩
                    have K3 := Lib.hid (K2.out.trans hk3 (fun _ _ _ => id))
                    clear hk3 C2
                    go_wp2_with fail
                    go_ret
                    exact ⟨⟨_, rfl, Or.inr (Or.inl ⟨HJS.out, i, HE.out.2, HJ.out, HP2.out, by rw [← hlen.out]⟩)⟩, K3.out⟩
                · have C1 := Lib.hid (fixw (hasWord_any N wr _ _ _ _ (H.out.kept HK.out (fun _ _ _ e => e) HN.out) (Nat.le_trans HN.out HK.out.size) hn18 x) (b := false) ⟨fun h => by simp at h, fun h => absurd h p1⟩)
                  have HP1 : Hid (¬ okX ss xs i) := Lib.hid (fun h => p1 (by
                    have := (IFF.out.1 h).2 (x, y) (by rw [HXY.out.1, AtS.at.getD_of' HXY.out.2]; exact List.getElem_mem _)
                    exact this.1))
                  clear p1
                  go_wp2_with fail
                  (with_reducible refine C1.out.mono ?_)
                  rintro e w2 ⟨rfl, hk2⟩
                  have K2 := Lib.hid (HK.out.trans hk2 (fun _ _ _ => id))
                  clear hk2 C1
                  go_wp2_with fail
                  go_ret
                  exact ⟨⟨_, rfl, Or.inr (Or.inl ⟨HJS.out, i, HE.out.2, HJ.out, HP1.out, by rw [← hlen.out]⟩)⟩, K2.out⟩
              · obtain rfl : k = nl := by omega
                have hkn : ¬ (k : Int) < k := by omega
                have OK : Hid (okX ss xs i) := Lib.hid (IFF.out.2 ⟨HQ.out, mem_at (P := fun x : Lab => (∃ s ∈ ss, s.data.toList = x.1.data.toList) ∧ ∃ s ∈ ss, s.data.toList = x.2.data.toList) (fun j hj => HJ2.out j (by have := hlL.out; omega))⟩)
                go_wp2_with fail
                go_roundw
                case rel => exact ⟨i + 1, by omega, by go_num, Lib.hid (fun j hj => by
                    by_cases e : j = i
                    · rw [e]; exact OK.out
                    · exact HJ.out j (by omega)), HK⟩
                case measure => simp only [intOf]; omega
          · obtain ⟨p, hp⟩ : ∃ p, i = p + 1 := ⟨i - 1, by omega⟩
            obtain ⟨b', o', r', lao', nl', lc', kao', nk', kc', he, e0, e1, e2, HAL', _, HE'⟩ := HX.out.at HN.out HK.out (show p < m by omega)
            cases he
            have d4 : decide (0 < i) = true := decide_eq_true (by omega)
            have d41 : IntKind.i64.wrap ((i : Int) - 1) = (p : Int) := by rw [show (i : Int) - 1 = p by omega]; exact IntWalk.i64_in _ (by omega)
            have d42 : (p : Int) < m := by omega
            have hip := Lib.hid (show i - 1 = p by omega)
            have hlL' := Lib.hid HAL'.out.len
            have hk18' := Lib.hid (HL.out (xs.getD p default) (by rw [AtS.at.getD_of' HE'.out.2]; exact List.getElem_mem _))
            obtain ⟨C, hC⟩ : ∃ C, C = cmpL (xs.getD i default).ls (xs.getD p default).ls := ⟨_, rfl⟩
            have CL := Lib.hid (compareLabels_any N wX.drew _ _ _ _ (HAL.out.kept (HK.out.trans (Kept.drew _ _) (fun _ _ _ => id)) (fun _ _ _ e => e) HN.out) _ _ _ _ (HAL'.out.kept (HK.out.trans (Kept.drew _ _) (fun _ _ _ => id)) (fun _ _ _ e => e) HN.out) (Nat.le_trans HN.out HK.out.size) (by have := hlL.out; have := hk18.out; omega) (by have := hlL'.out; have := hk18'.out; omega))
            rw [← hC] at CL
            clear hp h0 e0 e2 hc hc2
            by_cases hD : C < 0
            · have d7 : decide (C < 0) = true := decide_eq_true hD
              have HP1 : Hid (¬ okX ss xs i) := Lib.hid (fun h => (IFF.out.1 h).1 ⟨of_decide_eq_true d4, by rw [hip.out, ← hC]; exact hD⟩)
              clear hD hC
              go_wp2_with fail
              go_still_tail 14, (by kernel_rfl)
              go_wp2_with fail
              (with_reducible refine CL.out.mono ?_)
              rintro e w9 ⟨rfl, hk9⟩
              have K9 : Hid (Kept (fun _ _ => False) w w9) := Lib.hid ((HK.out.trans (Kept.drew _ _) (fun _ _ _ => id)).trans hk9 (fun _ _ _ => id))
              clear hk9 CL
              go_wp2_with fail
              go_ret
              exact ⟨⟨_, rfl, Or.inr (Or.inl ⟨HJS.out, i, HE.out.2, HJ.out, HP1.out, by rw [← hlen.out]⟩)⟩, K9.out⟩
            · have d7 : decide (C < 0) = false := decide_eq_false hD
              have HQ : Hid (¬ (0 < i ∧ cmpL (xs.getD i default).ls (xs.getD (i - 1) default).ls < 0)) := Lib.hid (fun h => hD (by rw [hC, ← hip.out]; exact h.2))
              clear hD hC
              go_wp2_with fail
              go_still_tail 14, (by kernel_rfl)
              go_wp2_with fail
              (with_reducible refine CL.out.mono ?_)
              rintro e w9 ⟨rfl, hk9⟩
              have K9 : Hid (Kept (fun _ _ => False) w w9) := Lib.hid ((HK.out.trans (Kept.drew _ _) (fun _ _ _ => id)).trans hk9 (fun _ _ _ => id))
              clear hk9 CL e1
              go_wp2_with fail
              clear hc1
              go_loopw [7] (fun v wr => ∃ k, k ≤ nl ∧ v = .int .i64 (k : Nat) ∧ Hid (∀ j, j < k → (∃ s ∈ ss, s.data.toList = ((xs.getD i default).ls.getD j default).1.data.toList) ∧ ∃ s ∈ ss, s.data.toList = ((xs.getD i default).ls.getD j default).2.data.toList) ∧ Hid (Kept (fun _ _ => False) w wr)) (fun v _ => nl - (intOf v).toNat)
              case atStart => exact ⟨0, Nat.zero_le _, rfl, Lib.hid (fun j h => by omega), K9⟩
              case round =>
                clear K9 HK
                obtain ⟨k, hk, rfl, HJ2, HK⟩ := hrel
                obtain ⟨b', o', r', lao', nl', lc', kao', nk', kc', he, hc, hc1, hc2, _, _, _⟩ := HX.out.at HN.out HK.out hlt
                cases he
                clear hc hc2
                obtain ⟨v1, hv1, hvc⟩ : ∃ v1, v1 = Value.slice lao nl lc ∧ wr.cell? ⟨b, o + i * 3 + 1, none⟩ = some v1 := ⟨_, rfl, (by rw [(kcell HK.out (P := fun _ _ => False) (fun _ _ _ e => e) HN.out HBN.out _)]; exact HC1.out)⟩
                subst hv1
                clear hc1
                by_cases hlk : k < nl
                · obtain ⟨lb, lo, x, y, rfl, hx0, hy0, HXY⟩ := HAL.out.at HN.out HK.out hlk
                  have hkI : (k : Int) < nl := by omega
                  have hlb := World.block_lt_of_cell? _ _ hx0
                  have hbb := World.block_lt_of_cell? _ _ hvc
                  have hn18 : n < 9223372036854775808 := by have := HN200.out; omega
                  by_cases p1 : ∃ s ∈ ss, s.data.toList = x.data.toList
                  · have C1 := Lib.hid (fixw (hasWord_any N wr _ _ _ _ (H.out.kept HK.out (fun _ _ _ e => e) HN.out) (Nat.le_trans HN.out HK.out.size) hn18 x) (b := true) ⟨fun _ => p1, fun _ => rfl⟩)
                    have HP1 := Lib.hid p1
                    clear p1
                    go_wp2_with fail
                    (with_reducible refine C1.out.mono ?_)
                    rintro e w2 ⟨rfl, hk2⟩
                    have hvc2 := (hk2.cell _ _ hbb id).trans hvc
                    have hx2 := (hk2.cell _ _ hlb id).trans hx0
                    have hy2 := (hk2.cell _ _ hlb id).trans hy0
                    have K2 := Lib.hid (HK.out.trans hk2 (fun _ _ _ => id))
                    clear hk2 C1 hvc hx0 hy0 hlb hbb
                    by_cases p2 : ∃ s ∈ ss, s.data.toList = y.data.toList
                    · have C2 := Lib.hid (fixw (hasWord_any N w2 _ _ _ _ (H.out.kept K2.out (fun _ _ _ e => e) HN.out) (Nat.le_trans HN.out K2.out.size) hn18 y) (b := true) ⟨fun _ => p2, fun _ => rfl⟩)
                      have HP2 := Lib.hid p2
                      clear p2
                      go_wp2_with fail
                      (with_reducible refine C2.out.mono ?_)
                      rintro e w3 ⟨rfl, hk3⟩
                      have K3 := Lib.hid (K2.out.trans hk3 (fun _ _ _ => id))
                      clear hk3 C2
                      go_wp2_with fail
                      go_roundw
                      case rel => exact ⟨k + 1, by omega, by go_num, Lib.hid (fun j hj => by
                          by_cases e : j = k
                          · rw [e, ← HXY.out.1]; exact ⟨HP1.out, HP2.out⟩
                          · exact HJ2.out j (by omega)), K3⟩
                      case measure => simp only [intOf]; omega
                    · have C2 := Lib.hid (fixw (hasWord_any N w2 _ _ _ _ (H.out.kept K2.out (fun _ _ _ e => e) HN.out) (Nat.le_trans HN.out K2.out.size) hn18 y) (b := false) ⟨fun h => by simp at h, fun h => absurd h p2⟩)
                      have HP2 : Hid (¬ okX ss xs i) := Lib.hid (fun h => p2 (by
                        have := (IFF.out.1 h).2 (x, y) (by rw [HXY.out.1, AtS.at.getD_of' HXY.out.2]; exact List.getElem_mem _)
                        exact this.2))
                      clear p2
                      go_wp2_with fail
                      (with_reducible refine C2.out.mono ?_)
                      rintro e w3 ⟨rfl, hk3⟩
                      have K3 := Lib.hid (K2.out.trans hk3 (fun _ _ _ => id))
                      clear hk3 C2
                      go_wp2_with fail
                      go_ret
                      exact ⟨⟨_, rfl, Or.inr (Or.inl ⟨HJS.out, i, HE.out.2, HJ.out, HP2.out, by rw [← hlen.out]⟩)⟩, K3.out⟩
                  · have C1 := Lib.hid (fixw (hasWord_any N wr _ _ _ _ (H.out.kept HK.out (fun _ _ _ e => e) HN.out) (Nat.le_trans HN.out HK.out.size) hn18 x) (b := false) ⟨fun h => by simp at h, fun h => absurd h p1⟩)
                    have HP1 : Hid (¬ okX ss xs i) := Lib.hid (fun h => p1 (by
                      have := (IFF.out.1 h).2 (x, y) (by rw [HXY.out.1, AtS.at.getD_of' HXY.out.2]; exact List.getElem_mem _)
                      exact this.1))
                    clear p1
                    go_wp2_with fail
                    (with_reducible refine C1.out.mono ?_)
                    rintro e w2 ⟨rfl, hk2⟩
                    have K2 := Lib.hid (HK.out.trans hk2 (fun _ _ _ => id))
                    clear hk2 C1
                    go_wp2_with fail
                    go_ret
                    exact ⟨⟨_, rfl, Or.inr (Or.inl ⟨HJS.out, i, HE.out.2, HJ.out, HP1.out, by rw [← hlen.out]⟩)⟩, K2.out⟩
                · obtain rfl : k = nl := by omega
                  have hkn : ¬ (k : Int) < k := by omega
                  have OK : Hid (okX ss xs i) := Lib.hid (IFF.out.2 ⟨HQ.out, mem_at (P := fun x : Lab => (∃ s ∈ ss, s.data.toList = x.1.data.toList) ∧ ∃ s ∈ ss, s.data.toList = x.2.data.toList) (fun j hj => HJ2.out j (by have := hlL.out; omega))⟩)
                  go_wp2_with fail
                  go_roundw
                  case rel => exact ⟨i + 1, by omega, by go_num, Lib.hid (fun j hj => by
                      by_cases e : j = i
                      · rw [e]; exact OK.out
                      · exact HJ.out j (by omega)), HK⟩
                  case measure => simp only [intOf]; omega
        · obtain rfl : i = m := by omega
          have hlx := Lib.hid HX.out.len
          have hm0 : ¬ (i : Int) < i := by omega
          go_wp2_with fail
          go_ret
          exact ⟨⟨_, rfl, Or.inr (Or.inr ⟨HJS.out, fun j hj => HJ.out j (by have := hlx.out; omega), rfl⟩)⟩, HK.out⟩

end Go.Proofs.YtfipfoplmopkaaaGreatDoor

namespace Go.Proofs.YtfipfoplmopkaaaGreatDoor
open Go.RowKit Go.Maps

section
variable {N N' : Nat} {w : World} {v : Value}
theorem AtS.more (h : N ≤ N') {ss : List ByteArray} (k : AtS N w v ss) : AtS N' w v ss := by
  obtain ⟨ao, c, h1, h2, h3⟩ := k
  refine ⟨ao, c, h1, h2, fun h0 => ?_⟩
  obtain ⟨b, o, h4, h5, h6⟩ := h3 h0
  exact ⟨b, o, h4, Nat.lt_of_lt_of_le h5 h, h6⟩
theorem AtL.more (h : N ≤ N') {ss : List Lab} (k : AtL N w v ss) : AtL N' w v ss := by
  obtain ⟨ao, c, h1, h2, h3⟩ := k
  refine ⟨ao, c, h1, h2, fun h0 => ?_⟩
  obtain ⟨b, o, h4, h5, h6⟩ := h3 h0
  exact ⟨b, o, h4, Nat.lt_of_lt_of_le h5 h, h6⟩
theorem AtK.more (h : N ≤ N') {ss : List Ck} (k : AtK N w v ss) : AtK N' w v ss := by
  obtain ⟨ao, c, h1, h2, h3⟩ := k
  refine ⟨ao, c, h1, h2, fun h0 => ?_⟩
  obtain ⟨b, o, h4, h5, h6⟩ := h3 h0
  exact ⟨b, o, h4, Nat.lt_of_lt_of_le h5 h, h6⟩
theorem AtX.more (h : N ≤ N') {ss : List Sr} (k : AtX N w v ss) : AtX N' w v ss := by
  obtain ⟨ao, c, h1, h2, h3⟩ := k
  refine ⟨ao, c, h1, h2, fun h0 => ?_⟩
  obtain ⟨b, o, h4, h5, h6⟩ := h3 h0
  refine ⟨b, o, h4, Nat.lt_of_lt_of_le h5 h, fun i hi => ?_⟩
  obtain ⟨vl, vk, a1, a2, a3, a4, a5⟩ := h6 i hi
  exact ⟨vl, vk, a1, a2, a3, a4.more h, a5.more h⟩
end

set_option maxRecDepth 100000 in
set_option maxHeartbeats 2000000 in
theorem law_any (w : World) (ao : Option Addr) (n c : Nat) (ss : List ByteArray) (h : AtS w.heap.size w (.slice ao n c) ss) (hn : n ≤ maxLen) (bo : Option Addr) (m c2 : Nat) (xs : List Sr) (hx : AtX w.heap.size w (.slice bo m c2) xs)
    (hl : ∀ s ∈ xs, s.ls.length ≤ maxLen ∧ s.ck.length ≤ maxLen) (h64 : ∀ s ∈ xs, s.r < 18446744073709551616 ∧ ∀ k ∈ s.ck, k.r < 18446744073709551616) :
    Calls Tryz.prog 3 #[.slice ao n c, .slice bo m c2] w fun e w' => e = .returned (.bool true) ∧ Kept (fun _ _ => False) w w' := by
  have hmx : maxLen < 9223372036854775808 := by decide
  have H := Lib.hid h
  have HX := Lib.hid hx
  have H64 := Lib.hid h64
  have HN18 : Hid (n < 9223372036854775808) := Lib.hid (by omega)
  have HL18 : Hid (∀ x ∈ xs, x.ls.length < 9223372036854775808 ∧ x.ck.length < 9223372036854775808) := Lib.hid (fun x hx => by have := hl x hx; omega)
  have Z1 := Lib.hid (zz13_any _ w _ _ _ _ h (Nat.le_refl _))
  clear h hx h64 hl hn hmx
  go_enter Tryz.func3, Tryz.ntmps3
  go_wp2_with fail
  (with_reducible refine Z1.out.mono ?_)
  rintro e w1 ⟨⟨t, rfl⟩, hk⟩
  have K1 := Lib.hid hk
  clear hk Z1
  cases t with
  | false =>
    go_wp2_with fail
    go_ret
    exact ⟨rfl, K1.out⟩
  | true =>
  have Z2 := Lib.hid (zz14_any _ w1 _ _ _ _ (HX.out.kept K1.out (fun _ _ _ e => e) (Nat.le_refl _)) K1.out.size)
  go_wp2_with fail
  (with_reducible refine Z2.out.mono ?_)
  rintro e w2 ⟨⟨t, rfl⟩, hk⟩
  have K2 := Lib.hid (K1.out.trans hk (fun _ _ _ => id))
  clear hk Z2 K1
  cases t with
  | false =>
    go_wp2_with fail
    go_ret
    exact ⟨rfl, K2.out⟩
  | true =>
  have Z3 := Lib.hid (wordsFew_any _ w2 _ _ _ _ (H.out.kept K2.out (fun _ _ _ e => e) (Nat.le_refl _)) K2.out.size HN18.out)
  go_wp2_with fail
  (with_reducible refine Z3.out.mono ?_)
  rintro e w3 ⟨⟨t, rfl, ht⟩, hk⟩
  have K3 := Lib.hid (K2.out.trans hk (fun _ _ _ => id))
  have HT := Lib.hid ht
  clear hk Z3 K2 ht
  cases t with
  | false =>
    go_wp2_with fail
    (with_reducible refine (awake_any w3).mono ?_)
    rintro e w4 ⟨rfl, hk⟩
    have K4 := Lib.hid (K3.out.trans hk (fun _ _ _ => id))
    clear hk
    go_wp2_with fail
    go_ret
    exact ⟨rfl, K4.out⟩
  | true =>
  have SO := Lib.hid (HT.out rfl)
  have Z4 := Lib.hid (indexFew_any _ w3 _ _ _ _ (HX.out.kept K3.out (fun _ _ _ e => e) (Nat.le_refl _)) K3.out.size HL18.out)
  clear HT
  go_wp2_with fail
  (with_reducible refine Z4.out.mono ?_)
  rintro e w4 ⟨⟨t, rfl, ht⟩, hk⟩
  have K4 := Lib.hid (K3.out.trans hk (fun _ _ _ => id))
  have HT := Lib.hid ht
  clear hk Z4 K3 ht
  cases t with
  | false =>
    go_wp2_with fail
    (with_reducible refine (awake_any w4).mono ?_)
    rintro e w5 ⟨rfl, hk⟩
    have K5 := Lib.hid (K4.out.trans hk (fun _ _ _ => id))
    clear hk
    go_wp2_with fail
    go_ret
    exact ⟨rfl, K5.out⟩
  | true =>
  obtain ⟨h20, hfx⟩ := HT.out rfl
  have XO := Lib.hid (FX.xok h20 hfx H64.out)
  have FXX := Lib.hid hfx
  have H20 := Lib.hid h20
  clear HT h20 hfx
  have Z5 := Lib.hid (build_any w4 ss xs _ _ ((H.out.kept K4.out (fun _ _ _ e => e) (Nat.le_refl _)).more K4.out.size) ((HX.out.kept K4.out (fun _ _ _ e => e) (Nat.le_refl _)).more K4.out.size) SO.out XO.out)
  go_wp2_with fail
  (with_reducible refine Z5.out.mono ?_)
  rintro e w5 ⟨v, r, rfl, hr, hk⟩
  have K5 := Lib.hid (K4.out.trans hk (fun _ _ _ => id))
  have HR := Lib.hid hr
  clear hk Z5 K4 hr
  go_wp2_with fail
  (with_reducible refine (awake_any w5).mono ?_)
  rintro e w6 ⟨rfl, hk⟩
  have K6 := Lib.hid (K5.out.trans hk (fun _ _ _ => id))
  clear hk K5
  have Z6 := Lib.hid (refused_any _ w6 _ _ _ _ (H.out.kept K6.out (fun _ _ _ e => e) (Nat.le_refl _)) _ _ _ _ (HX.out.kept K6.out (fun _ _ _ e => e) (Nat.le_refl _)) K6.out.size (by rw [H.out.len]; exact SO.out.n) (by rw [HX.out.len]; exact H20.out) HL18.out FXX.out)
  go_wp2_with fail
  (with_reducible refine Z6.out.mono ?_)
  rintro e w7 ⟨⟨r', rfl, hr'⟩, hk⟩
  have K7 := Lib.hid (K6.out.trans hk (fun _ _ _ => id))
  obtain rfl := RefR.one HR.out hr'
  have hrr : (r == r) = true := beq_self_eq_true r
  clear hk Z6 K6 hr' HR
  go_wp2_with fail
  go_ret
  exact ⟨rfl, K7.out⟩

end Go.Proofs.YtfipfoplmopkaaaGreatDoor
