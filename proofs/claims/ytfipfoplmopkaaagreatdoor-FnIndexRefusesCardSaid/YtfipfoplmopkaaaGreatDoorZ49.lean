/- The law's guards: chunksRight(15), spec.CompareLabels(12). No condition but on lengths. spec.CompareLabels(12). No condition but on lengths. The law's plain part: what indexFew lets by is what BuildIndex wants; the answer is one. No program in sight. -/
import Derived.Test.YtfipfoplmopkaaaGreatDoorZ48

namespace Go.Proofs.YtfipfoplmopkaaaGreatDoor
open Go.RowKit Go.Maps

instance : Inhabited Ck := ⟨⟨0, 0, 0⟩⟩
theorem AtK.at {N : Nat} {w wr : World} {ls : List Ck} {ao : Option Addr} {n c : Nat} (h : AtK N w (.slice ao n c) ls) (hN : N ≤ w.heap.size) (hk : Kept (fun _ _ => False) w wr) {i : Nat} (hi : i < n) : ∃ b o r a z, ao = some ⟨b, o, none⟩ ∧ wr.cell? ⟨b, o + i * 3, none⟩ = some (.int .u64 (r : Nat)) ∧ wr.cell? ⟨b, o + i * 3 + 1, none⟩ = some (.int .i64 a) ∧ wr.cell? ⟨b, o + i * 3 + 2, none⟩ = some (.int .i64 z) ∧ Hid (r = (ls.getD i default).r ∧ a = (ls.getD i default).a ∧ z = (ls.getD i default).z ∧ i < ls.length) := by
  obtain ⟨ao', c', he, _, hr⟩ := h
  cases he
  obtain ⟨b, o, rfl, hb, hc⟩ := hr (by omega)
  obtain ⟨h1, h2, h3⟩ := hc i hi
  rw [← AtS.at.getD_of' hi default] at h1 h2 h3
  exact ⟨b, o, _, _, _, rfl, (kcell hk (fun _ _ _ e => e) hN hb _).trans h1, (kcell hk (fun _ _ _ e => e) hN hb _).trans h2, (kcell hk (fun _ _ _ e => e) hN hb _).trans h3, Lib.hid ⟨rfl, rfl, rfl, hi⟩⟩

/-- What chunksRight lets by. -/
structure CkT (cs : List Ck) : Prop where
  n : cs.length ≤ 10
  t : ∀ i, i < cs.length → (cs.getD i default).a ≤ (cs.getD i default).z ∧ -1152921504606846976 ≤ (cs.getD i default).a ∧ (cs.getD i default).z ≤ 1152921504606846976
  g : ∀ i, i < cs.length → 0 < i → (cs.getD (i - 1) default).z < (cs.getD i default).a

set_option maxRecDepth 100000 in
set_option maxHeartbeats 2000000 in
theorem chunksRight_any (N : Nat) (w : World) (ao : Option Addr) (n c : Nat) (ls : List Ck) (h : AtK N w (.slice ao n c) ls) (hN : N ≤ w.heap.size) (hn : n < 9223372036854775808) : Calls Tryz.prog 15 #[.slice ao n c] w fun e w' => (∃ b, e = .returned (.bool b) ∧ (b = true ↔ CkT ls)) ∧ Kept (fun _ _ => False) w w' := by
  have H := Lib.hid h
  have HN := Lib.hid hN
  clear h hN
  go_enter Tryz.func15, Tryz.ntmps15
  go_wp2
  go_loopw [3] (fun v wr => ∃ i, i ≤ n ∧ v = .int .i64 (i : Nat) ∧ Hid (∀ j, j < i → ((ls.getD j default).a ≤ (ls.getD j default).z ∧ -1152921504606846976 ≤ (ls.getD j default).a ∧ (ls.getD j default).z ≤ 1152921504606846976) ∧ (0 < j → (ls.getD (j - 1) default).z < (ls.getD j default).a)) ∧ Hid (Kept (fun _ _ => False) w wr)) (fun v _ => n - (intOf v).toNat)
  case atStart => exact ⟨0, Nat.zero_le _, rfl, Lib.hid (fun j h => by omega), Lib.hid (Kept.refl _ _)⟩
  case round =>
    obtain ⟨i, hi, rfl, HJ, HK⟩ := hrel
    by_cases hlt : i < n
    · obtain ⟨b, o, r, a, z, rfl, hc, hc1, hc2, HE⟩ := H.out.at HN.out HK.out hlt
      have hiI : (i : Int) < n := by omega
      by_cases h1 : z < a
      · have d1 : decide (z < a) = true := decide_eq_true h1
        have e1 := Lib.hid h1
        clear h1
        go_wp2
        repeat (go_quiet (fail); try go_wp2)
        go_ret
        exact ⟨⟨_, rfl, by simp, fun h => by have h9 := h.t i HE.out.2.2.2; have h8 := HE.out; have h7 := e1.out; omega⟩, HK.out.trans (Kept.drewN _ _ _) (fun _ _ _ => id)⟩
      · have d1 : decide (z < a) = false := decide_eq_false h1
        have e1 := Lib.hid h1
        clear h1
        by_cases h2 : a < -1152921504606846976
        · have d2 : decide (a < -1152921504606846976) = true := decide_eq_true h2
          have e2 := Lib.hid h2
          clear h2
          go_wp2
          repeat (go_quiet (fail); try go_wp2)
          go_ret
          exact ⟨⟨_, rfl, by simp, fun h => by have h9 := h.t i HE.out.2.2.2; have h8 := HE.out; have h7 := e2.out; omega⟩, HK.out.trans (Kept.drewN _ _ _) (fun _ _ _ => id)⟩
        · have d2 : decide (a < -1152921504606846976) = false := decide_eq_false h2
          have e2 := Lib.hid h2
          clear h2
          by_cases h3 : 1152921504606846976 < z
          · have d3 : decide (1152921504606846976 < z) = true := decide_eq_true h3
            have e3 := Lib.hid h3
            clear h3
            go_wp2
            repeat (go_quiet (fail); try go_wp2)
            go_ret
            exact ⟨⟨_, rfl, by simp, fun h => by have h9 := h.t i HE.out.2.2.2; have h8 := HE.out; have h7 := e3.out; omega⟩, HK.out.trans (Kept.drewN _ _ _) (fun _ _ _ => id)⟩
          · have d3 : decide (1152921504606846976 < z) = false := decide_eq_false h3
            have e3 := Lib.hid h3
            clear h3
            by_cases h0 : i = 0
            · have d4 : decide (0 < i) = false := decide_eq_false (by omega)
              have h0' := Lib.hid h0
              clear h0
              go_wp2
              repeat (go_quiet (fail); try go_wp2)
              go_roundw
              case rel => exact ⟨i + 1, by omega, by go_num, Lib.hid (fun j hj => by
                have := h0'.out
                obtain rfl : j = i := by omega
                have := HE.out
                have := e1.out
                have := e2.out
                have := e3.out
                omega), Lib.hid (HK.out.trans (Kept.drewN _ _ _) (fun _ _ _ => id))⟩
              case measure => simp only [intOf]; omega
            · obtain ⟨p, hp⟩ : ∃ p, i = p + 1 := ⟨i - 1, by omega⟩
              obtain ⟨b', o', r', a', z', he, hc', hc1', hc2', HE'⟩ := H.out.at HN.out HK.out (show p < n by omega)
              cases he
              have d4 : decide (0 < i) = true := decide_eq_true (by omega)
              have d5 : IntKind.i64.wrap ((i : Int) - 1) = (p : Int) := by rw [show (i : Int) - 1 = p by omega]; exact IntWalk.i64_in _ (by omega)
              have d6 : (p : Int) < n := by omega
              have HPI := Lib.hid hp
              clear hp h0
              by_cases h4 : a ≤ z'
              · have d7 : decide (a ≤ z') = true := decide_eq_true h4
                have e4 := Lib.hid h4
                clear h4
                go_wp2
                repeat (go_quiet (fail); try go_wp2)
                go_ret
                exact ⟨⟨_, rfl, by simp, fun h => by have h9 := h.g i HE.out.2.2.2 (by have := HPI.out; omega); rw [show i - 1 = p by have := HPI.out; omega] at h9; have h8 := HE.out; have h7 := e4.out; have h6 := HE'.out; omega⟩, HK.out.trans (Kept.drewN _ _ _) (fun _ _ _ => id)⟩
              · have d7 : decide (a ≤ z') = false := decide_eq_false h4
                have e4 := Lib.hid h4
                clear h4
                go_wp2
                repeat (go_quiet (fail); try go_wp2)
                go_roundw
                case rel => exact ⟨i + 1, by omega, by go_num, Lib.hid (fun j hj => by
                  by_cases e : j = i
                  · rw [e, show i - 1 = p by have := HPI.out; omega]
                    have := HE.out
                    have := HE'.out
                    have := e1.out
                    have := e2.out
                    have := e3.out
                    have := e4.out
                    omega
                  · exact HJ.out j (by omega)), Lib.hid (HK.out.trans (Kept.drewN _ _ _) (fun _ _ _ => id))⟩
                case measure => simp only [intOf]; omega
    · obtain rfl : i = n := by omega
      have hlen := Lib.hid H.out.len
      have FIN : Hid (i ≤ 10 → CkT ls) := Lib.hid (fun h => ⟨by have := hlen.out; omega, fun j hj => (HJ.out j (by have := hlen.out; omega)).1, fun j hj => (HJ.out j (by have := hlen.out; omega)).2⟩)
      by_cases h2 : i ≤ 10
      · have d2 : decide ((i : Int) ≤ 10) = true := decide_eq_true (by omega)
        go_wp2_with fail
        go_ret
        exact ⟨⟨_, rfl, fun _ => FIN.out h2, fun _ => rfl⟩, HK.out⟩
      · have d2 : decide ((i : Int) ≤ 10) = false := decide_eq_false (by omega)
        go_wp2_with fail
        go_ret
        exact ⟨⟨_, rfl, by simp, fun h => by have h9 := h.n; have h8 := hlen.out; omega⟩, HK.out⟩

/-- spec.CompareLabels. -/
def cmpL : List Lab → List Lab → Int
  | [], g => -(g.length : Int)
  | f, [] => f.length
  | x :: f, y :: g => if x.1.data.toList = y.1.data.toList then (if x.2.data.toList = y.2.data.toList then cmpL f g else if x.2.data.toList < y.2.data.toList then -1 else 1) else if x.1.data.toList < y.1.data.toList then -1 else 1
theorem cmpL_sign : ∀ (a b : List Lab), (cmpL a b < 0 ↔ cmpF (fsL a) (fsL b) < 0) ∧ (cmpL a b = 0 ↔ cmpF (fsL a) (fsL b) = 0)
  | [], g => by
    have e : cmpF (fsL []) (fsL g) = -((fsL g).length : Int) := rfl
    rw [e, fsL_len]
    simp only [cmpL]
    omega
  | x :: f, [] => by
    have e : cmpF (fsL (x :: f)) (fsL []) = ((fsL (x :: f)).length : Int) := by rw [fsL_cons]; rfl
    rw [e, fsL_len]
    simp only [cmpL, List.length_cons]
    omega
  | x :: f, y :: g => by
    obtain ⟨h1, h2⟩ := cmpL_sign f g
    rw [fsL_cons, fsL_cons]
    simp only [cmpL, cmpF]
    by_cases e1 : x.1.data.toList = y.1.data.toList
    · rw [if_pos e1, if_pos e1]
      by_cases e2 : x.2.data.toList = y.2.data.toList
      · rw [if_pos e2, if_pos e2]; exact ⟨h1, h2⟩
      · rw [if_neg e2, if_neg e2]; exact ⟨Iff.rfl, Iff.rfl⟩
    · rw [if_neg e1, if_neg e1]; exact ⟨Iff.rfl, Iff.rfl⟩
theorem cmpL_step {a b : List Lab} {i : Nat} (ha : i < a.length) (hb : i < b.length) : cmpL (a.drop i) (b.drop i) = if (a.getD i default).1.data.toList = (b.getD i default).1.data.toList then (if (a.getD i default).2.data.toList = (b.getD i default).2.data.toList then cmpL (a.drop (i + 1)) (b.drop (i + 1)) else if (a.getD i default).2.data.toList < (b.getD i default).2.data.toList then -1 else 1) else if (a.getD i default).1.data.toList < (b.getD i default).1.data.toList then -1 else 1 := by
  rw [List.drop_eq_getElem_cons ha, List.drop_eq_getElem_cons hb, AtS.at.getD_of' ha, AtS.at.getD_of' hb]
  rfl
theorem cmpL_end {a b : List Lab} {i : Nat} (h : a.length ≤ i ∨ b.length ≤ i) (ha : i ≤ a.length) (hb : i ≤ b.length) : cmpL (a.drop i) (b.drop i) = (a.length : Int) - b.length := by
  rcases h with h | h
  · rw [List.drop_of_length_le h]
    simp only [cmpL, List.length_drop]
    omega
  · rw [List.drop_of_length_le h]
    have : cmpL (a.drop i) [] = ((a.drop i).length : Int) := by cases a.drop i <;> rfl
    rw [this, List.length_drop]
    omega

end Go.Proofs.YtfipfoplmopkaaaGreatDoor

namespace Go.Proofs.YtfipfoplmopkaaaGreatDoor
open Go.RowKit Go.Maps

theorem beq_bytes (x y : ByteArray) : (x.toList == y.toList) = decide (x.data.toList = y.data.toList) := by
  rw [Lib.toList_data, Lib.toList_data]
  by_cases h : x.data.toList = y.data.toList
  · rw [decide_eq_true h]; exact beq_iff_eq.mpr h
  · rw [decide_eq_false h]; exact beq_eq_false_iff_ne.mpr h
theorem bless_bytes (x y : ByteArray) : Op.bytesLess x.toList y.toList = decide (x.data.toList < y.data.toList) := by
  rw [bytesLess_eq, Lib.toList_data, Lib.toList_data]

set_option maxRecDepth 100000 in
set_option maxHeartbeats 2000000 in
theorem compareLabels_any (N : Nat) (w : World) (ao : Option Addr) (n c : Nat) (ls : List Lab) (h : AtL N w (.slice ao n c) ls) (bo : Option Addr) (m c2 : Nat) (ms : List Lab) (h2 : AtL N w (.slice bo m c2) ms) (hN : N ≤ w.heap.size) (hn : n < 9223372036854775808) (hm : m < 9223372036854775808) :
    Calls Tryz.prog 12 #[.slice ao n c, .slice bo m c2] w fun e w' => e = .returned (.int .i64 (cmpL ls ms)) ∧ Kept (fun _ _ => False) w w' := by
  have H := Lib.hid h
  have H2 := Lib.hid h2
  have HN := Lib.hid hN
  clear h h2 hN
  go_enter Tryz.func12, Tryz.ntmps12
  go_wp2
  go_loopw [5] (fun v wr => ∃ i, i ≤ n ∧ i ≤ m ∧ v = .int .i64 (i : Nat) ∧ Hid (cmpL ls ms = cmpL (ls.drop i) (ms.drop i)) ∧ Hid (Kept (fun _ _ => False) w wr)) (fun v _ => n - (intOf v).toNat)
  case atStart => exact ⟨0, Nat.zero_le _, Nat.zero_le _, rfl, Lib.hid rfl, Lib.hid (Kept.refl _ _)⟩
  case round =>
    obtain ⟨i, hi, hi2, rfl, HJ, HK⟩ := hrel
    by_cases hlt : i < n ∧ i < m
    · obtain ⟨hlt, hlt2⟩ := hlt
      obtain ⟨b, o, x, y, rfl, hc, hc1, HE⟩ := H.out.at HN.out HK.out hlt
      obtain ⟨b', o', x', y', rfl, hc', hc1', HE'⟩ := H2.out.at HN.out HK.out hlt2
      have hiI : (i : Int) < n := by omega
      have hiI2 : (i : Int) < m := by omega
      have HS : Hid (cmpL ls ms = if x.data.toList = x'.data.toList then (if y.data.toList = y'.data.toList then cmpL (ls.drop (i + 1)) (ms.drop (i + 1)) else if y.data.toList < y'.data.toList then -1 else 1) else if x.data.toList < x'.data.toList then -1 else 1) := Lib.hid (by
        rw [HJ.out, cmpL_step HE.out.2 HE'.out.2, ← HE.out.1, ← HE'.out.1])
      by_cases h1 : x.data.toList = x'.data.toList
      · have d1 : (x.toList == x'.toList) = true := by rw [beq_bytes]; exact decide_eq_true h1
        have d1' : (x.toList != x'.toList) = false := by simp [bne, d1]
        have HS1 := Lib.hid (HS.out.trans (if_pos h1))
        clear h1
        by_cases h2 : y.data.toList = y'.data.toList
        · have d2 : (y.toList == y'.toList) = true := by rw [beq_bytes]; exact decide_eq_true h2
          have d2' : (y.toList != y'.toList) = false := by simp [bne, d2]
          have HS2 := Lib.hid (HS1.out.trans (if_pos h2))
          clear h2
          go_wp2
          repeat (go_quiet (fail); try go_wp2)
          go_roundw
          case rel => exact ⟨i + 1, by omega, by omega, by go_num, HS2, Lib.hid (HK.out.trans (by first | exact Kept.drewN _ _ _ | exact (Kept.drewN _ _ _).trans (Kept.drewN _ _ _) (fun _ _ _ => id)) (fun _ _ _ => id))⟩
          case measure => simp only [intOf]; omega
        · have d2 : (y.toList == y'.toList) = false := by rw [beq_bytes]; exact decide_eq_false h2
          have d2' : (y.toList != y'.toList) = true := by simp [bne, d2]
          have HS2 := Lib.hid (HS1.out.trans (if_neg h2))
          clear h2
          by_cases h3 : y.data.toList < y'.data.toList
          · have d3 : Op.bytesLess y.toList y'.toList = true := by rw [bless_bytes]; exact decide_eq_true h3
            have HS3 := Lib.hid (HS2.out.trans (if_pos h3))
            clear h3
            go_wp2
            repeat (go_quiet (fail); try go_wp2)
            go_ret
            exact ⟨by rw [HS3.out]; rfl, by repeat (first | exact HK.out | refine Kept.trans ?_ (Kept.drewN (fun _ _ => False) _ _) (fun _ _ _ => id))⟩
          · have d3 : Op.bytesLess y.toList y'.toList = false := by rw [bless_bytes]; exact decide_eq_false h3
            have HS3 := Lib.hid (HS2.out.trans (if_neg h3))
            clear h3
            go_wp2
            repeat (go_quiet (fail); try go_wp2)
            go_ret
            exact ⟨by rw [HS3.out]; rfl, by repeat (first | exact HK.out | refine Kept.trans ?_ (Kept.drewN (fun _ _ => False) _ _) (fun _ _ _ => id))⟩
      · have d1 : (x.toList == x'.toList) = false := by rw [beq_bytes]; exact decide_eq_false h1
        have d1' : (x.toList != x'.toList) = true := by simp [bne, d1]
        have HS1 := Lib.hid (HS.out.trans (if_neg h1))
        clear h1
        by_cases h3 : x.data.toList < x'.data.toList
        · have d3 : Op.bytesLess x.toList x'.toList = true := by rw [bless_bytes]; exact decide_eq_true h3
          have HS3 := Lib.hid (HS1.out.trans (if_pos h3))
          clear h3
          go_wp2
          repeat (go_quiet (fail); try go_wp2)
          go_ret
          exact ⟨by rw [HS3.out]; rfl, by repeat (first | exact HK.out | refine Kept.trans ?_ (Kept.drewN (fun _ _ => False) _ _) (fun _ _ _ => id))⟩
        · have d3 : Op.bytesLess x.toList x'.toList = false := by rw [bless_bytes]; exact decide_eq_false h3
          have HS3 := Lib.hid (HS1.out.trans (if_neg h3))
          clear h3
          go_wp2
          repeat (go_quiet (fail); try go_wp2)
          go_ret
          exact ⟨by rw [HS3.out]; rfl, by repeat (first | exact HK.out | refine Kept.trans ?_ (Kept.drewN (fun _ _ => False) _ _) (fun _ _ _ => id))⟩
    · have hl1 := Lib.hid H.out.len
      have hl2 := Lib.hid H2.out.len
      have hv : Hid (cmpL ls ms = (n : Int) - m) := Lib.hid (by
        rw [HJ.out, hl1.out, hl2.out]
        have := hl1.out
        have := hl2.out
        exact cmpL_end (by omega) (by omega) (by omega))
      have hr : IntKind.i64.wrap ((n : Int) - m) = (n : Int) - m := IntWalk.i64_in _ (by omega)
      by_cases hln : i < n
      · have d1 : (i : Int) < n := by omega
        have d2 : ¬ (i : Int) < m := by omega
        have d2' : decide ((i : Int) < m) = false := decide_eq_false d2
        clear hlt
        go_wp2_with fail
        go_ret
        exact ⟨by rw [hv.out]; (try rw [hr]); rfl, HK.out⟩
      · have d1 : ¬ (i : Int) < n := by omega
        have d1' : decide ((i : Int) < n) = false := decide_eq_false d1
        clear hlt
        go_wp2_with fail
        go_ret
        exact ⟨by rw [hv.out]; (try rw [hr]); rfl, HK.out⟩

end Go.Proofs.YtfipfoplmopkaaaGreatDoor

namespace Go.Proofs.YtfipfoplmopkaaaGreatDoor
open Go.RowKit Go.Maps

/-- What indexFew asks of the series j. -/
def FX (xs : List Sr) (j : Nat) : Prop :=
  (∀ q, q < (xs.getD j default).ck.length → lastR (cAt xs j) ((xs.getD j default).ck.take q) ≤ ((xs.getD j default).ck.getD q default).r) ∧
  (0 < j → (xs.getD (j - 1) default).r < (xs.getD j default).r ∧ cmpL (xs.getD j default).ls (xs.getD (j - 1) default).ls ≠ 0) ∧
  (xs.getD j default).ls.length ≠ 0 ∧ (xs.getD j default).ls.length ≤ 10 ∧ ShortP (xs.getD j default).ls ∧ ProperP (xs.getD j default).ls ∧ CkT (xs.getD j default).ck

theorem mem_at {α : Type} [Inhabited α] {l : List α} {P : α → Prop} (h : ∀ j, j < l.length → P (l.getD j default)) : ∀ x ∈ l, P x := fun x hx => by
  obtain ⟨j, hj, rfl⟩ := List.getElem_of_mem hx
  have := h j hj
  rwa [AtS.at.getD_of' hj] at this

theorem FX.cko {xs : List Sr} {j : Nat} (h : FX xs j) (h64 : ∀ c ∈ (xs.getD j default).ck, c.r < 18446744073709551616) : CkO (cAt xs j) (xs.getD j default).ck := by
  obtain ⟨h1, _, _, _, _, _, hk⟩ := h
  generalize (xs.getD j default).ck = cs at h1 h64 hk
  generalize cAt xs j = c0 at h1
  have st : ∀ i (h : i + 1 < cs.length), (cs[i]'(by omega)).r ≤ (cs[i + 1]'h).r := fun i hi => by
    have := h1 (i + 1) hi
    rw [List.take_succ_eq_append_getElem (show i < cs.length by omega), lastR_snoc, AtS.at.getD_of' hi] at this
    exact this
  have r0 : ∀ i (h : i < cs.length), c0 ≤ (cs[i]'h).r := fun i => by
    induction i with
    | zero => intro h; have := h1 0 h; rw [AtS.at.getD_of' h] at this; simpa [lastR] using this
    | succ i ih => intro h; exact Nat.le_trans (ih (by omega)) (st i h)
  refine ⟨hk.n, r0, st, fun i hi => h64 _ (List.getElem_mem hi), fun i hi => ?_, fun i hi => ?_⟩
  · have := hk.t i hi
    rwa [AtS.at.getD_of' hi] at this
  · have := hk.g (i + 1) hi (by omega)
    rwa [AtS.at.getD_of' hi, show i + 1 - 1 = i by omega, AtS.at.getD_of' (show i < cs.length by omega)] at this

theorem FX.xok {xs : List Sr} (h20 : xs.length ≤ 20) (h : ∀ j, j < xs.length → FX xs j) (h64 : ∀ x ∈ xs, x.r < 18446744073709551616 ∧ ∀ c ∈ x.ck, c.r < 18446744073709551616) : XOK xs := by
  have g64 : ∀ j, j < xs.length → (xs.getD j default).r < 18446744073709551616 ∧ ∀ c ∈ (xs.getD j default).ck, c.r < 18446744073709551616 := fun j hj => by
    rw [AtS.at.getD_of' hj]; exact h64 _ (List.getElem_mem hj)
  refine ⟨h20, fun i hi => ⟨?_, (g64 i hi).1⟩, fun i hi => ?_, fun i hi => (h i hi).cko (g64 i hi).2⟩
  · unfold rAt
    by_cases h0 : i = 0
    · rw [if_pos h0]; exact Nat.zero_le _
    · rw [if_neg h0]; exact Nat.le_of_lt ((h i hi).2.1 (by omega)).1
  · obtain ⟨_, _, hn, h10, hs, hp, _⟩ := h i hi
    refine ⟨⟨?_, ?_, by omega⟩, fun q hq => ?_, h10, by omega⟩
    · exact mem_at (P := fun x : Lab => x.1.size < 255 ∧ x.2.size < 255) (fun j hj => by have := hs j hj; omega)
    · exact mem_at (P := fun x : Lab => 0 < x.1.size ∧ 0 < x.2.size) (fun j hj => by have := hp j hj; omega)
    · have := (hp (q + 1) hq).2.2 (by omega)
      rwa [AtS.at.getD_of' hq, show q + 1 - 1 = q by omega, AtS.at.getD_of' (show q < (xs.getD i default).ls.length by omega)] at this

theorem okX_iff {ss : List ByteArray} {xs : List Sr} {i : Nat} (h : FX xs i) : okX ss xs i ↔ ¬ (0 < i ∧ cmpL (xs.getD i default).ls (xs.getD (i - 1) default).ls < 0) ∧ inW ss (xs.getD i default).ls := by
  obtain ⟨_, h1, hn, _⟩ := h
  unfold okX lAt
  by_cases h0 : i = 0
  · rw [if_pos h0]
    have e : cmpF (fsL (xs.getD i default).ls) [] = ((fsL (xs.getD i default).ls).length : Int) := by cases fsL (xs.getD i default).ls <;> rfl
    rw [e, fsL_len]
    constructor
    · intro h; exact ⟨by omega, h.2⟩
    · intro h; exact ⟨by omega, h.2⟩
  · rw [if_neg h0]
    obtain ⟨a, b⟩ := cmpL_sign (xs.getD i default).ls (xs.getD (i - 1) default).ls
    have h2 := (h1 (by omega)).2
    constructor
    · intro h; exact ⟨by omega, h.2⟩
    · intro h; exact ⟨by omega, h.2⟩

theorem RefR.one {ss : List ByteArray} {xs : List Sr} {r s : Int} (h : RefR ss xs r) (k : RefR ss xs s) : r = s := by
  rcases h with ⟨i, hi, hj, hb, rfl⟩ | ⟨ha, i, hi, hj, hb, rfl⟩ | ⟨ha, hb, rfl⟩
  · rcases k with ⟨i', hi', hj', hb', rfl⟩ | ⟨ha', _⟩ | ⟨ha', _⟩
    · rcases Nat.lt_trichotomy i i' with h | h | h
      · exact absurd hb (hj' i h)
      · rw [h]
      · exact absurd hb' (hj i' h)
    · exact absurd hb (ha' i hi)
    · exact absurd hb (ha' i hi)
  · rcases k with ⟨i', hi', hj', hb', rfl⟩ | ⟨ha', i', hi', hj', hb', rfl⟩ | ⟨ha', hb', rfl⟩
    · exact absurd hb' (ha i' hi')
    · rcases Nat.lt_trichotomy i i' with h | h | h
      · exact absurd (hj' i h) hb
      · rw [h]
      · exact absurd (hj i' h) hb'
    · exact absurd (hb' i hi) hb
  · rcases k with ⟨i', hi', hj', hb', rfl⟩ | ⟨ha', i', hi', hj', hb', rfl⟩ | ⟨ha', hb', rfl⟩
    · exact absurd hb' (ha i' hi')
    · exact absurd (hb i' hi') hb'
    · rfl

theorem RefR.range {ss : List ByteArray} {xs : List Sr} {r : Int} (h : RefR ss xs r) : -1 ≤ r ∧ r ≤ ss.length + xs.length := by
  rcases h with ⟨i, hi, hj, hb, rfl⟩ | ⟨ha, i, hi, hj, hb, rfl⟩ | ⟨ha, hb, rfl⟩ <;> omega

end Go.Proofs.YtfipfoplmopkaaaGreatDoor
