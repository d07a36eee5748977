/- Labels: labels.New(66), impl.made(24). Conditions: the labels in order, sizes below 255. Labels: impl.made(24), Validate(61). Conditions: the labels in order, sizes below 255. AddSeries' closure(62). Conditions: words below 256, bounds on counts. -/
import Derived.Test.YtfipfoplmopkaaaGreatDoorZ28
import Derived.Test.YtfipfoplmopkaaaGreatDoorZ01
import Derived.Test.YtfipfoplmopkaaaGreatDoorZ27
import Derived.Test.YtfipfoplmopkaaaGreatDoorZ19
import Derived.Test.YtfipfoplmopkaaaGreatDoorZ29
import Derived.Lib.SlBytesRow

namespace Go.Proofs.YtfipfoplmopkaaaGreatDoor
open Go.RowKit

theorem info5n : (Tryz.prog.info? 5).map (fun i => (i.zero, i.size, i.bytes)) = some (some (.int .u8 0), 1, 1) := by kernel_rfl

set_option maxHeartbeats 1000000 in
theorem yoloL_any (v : Value) (s : ByteArray) (w : World) (h : (convert 27 9 v).run Tryz.prog w = .ok (.string s) w) : Calls Tryz.prog 112 #[v] w fun e w' => e = .returned (.string s) ∧ w' = w := by
  go_enter Tryz.func112, Tryz.ntmps112
  go_wp2
  go_ret
  exact ⟨rfl, rfl⟩

theorem RB.fresh {w : World} {g N : Nat} {xs : List Value} (h : w.ownsRow 0 5 1 (.slice (some ⟨g, 0, none⟩) N N) N xs) : RB w g N N [] := by
  refine ⟨fun j hj => ⟨?_, ownsRow_frz h rfl j⟩, by simp, fun j u hu => by simp at hu⟩
  have hl : j < xs.length := by rw [h.1]; omega
  have := h.cells rfl j _ (List.getElem?_eq_getElem hl)
  rw [Addr.add_lit, Nat.zero_add] at this
  rw [this]; rfl

theorem RB.str {w : World} {g N c : Nat} {l : List UInt8} (h : RB w g N 0 l) (s : ByteArray) (hs : s.data.toList = l) : (convert 27 9 (.slice (some ⟨g, 0, none⟩) N c)).run Tryz.prog w = .ok (.string s) w := by
  have hN : N = s.size := by have := h.n; rw [← hs] at this; simpa using this.symm
  rw [hN]
  refine Lib.run_convert_whole w 27 5 9 Tryz.underlying27 Tryz.underlying5 Tryz.underlying9 g 0 s (fun i hi => ?_) c
  have := h.c i s[i] (by
    rw [← hs, List.getElem?_eq_getElem (by simpa using hi)]
    rfl)
  exact this

set_option maxRecDepth 100000 in
set_option maxHeartbeats 2000000 in
theorem new_any (b c n : Nat) (ls : List Lab) (hn : n = ls.length) (hl : LOK ls) (ha : AscL ls) (w : World) (h : RowL w b 0 ls) (hb : b < w.heap.size) :
    Calls Tryz.prog 66 #[.slice (some ⟨b, 0, none⟩) n c] w fun e w' => ∃ D : ByteArray, e = .returned (.agg #[.string D]) ∧ D.data.toList = eLs ls ∧ Kept (fun k _ => w.heap.size ≤ k) w w' := by
  obtain ⟨N, hN⟩ : ∃ N, N = (eLs ls).length := ⟨_, rfl⟩
  have hN9 : N ≤ 512 * 12 := by
    have h1 := eLs_len ls hl.a; have h2 := hl.n; rw [hN]; omega
  have hn9 : n ≤ 12 := by rw [hn]; exact hl.n
  obtain ⟨i5, hi, hz0, hz1, hz2⟩ := info_parts info5n
  obtain ⟨w1, hw1⟩ : ∃ w1, w1 = w.alloc (.cells #[.string ⟨#[]⟩] 73) := ⟨_, rfl⟩
  have k1 : Kept (fun k _ => w.heap.size ≤ k) w w1 := by rw [hw1]; exact (Kept.alloc (fun _ _ => False) _ _).mono (fun _ _ _ e => e.elim)
  have s1 : w1.heap.size = w.heap.size + 1 := by rw [hw1, World.size_alloc]
  have f1 : w1.frozen? ⟨w.heap.size, 0, none⟩ = false := by rw [hw1]; simp
  have c1 : w1.cell? ⟨w.heap.size, 0, none⟩ = some (.string ⟨#[]⟩) := by rw [hw1, World.cell?_alloc_new]; rfl
  have hrow1 : RowL w1 b 0 ls := h.kept k1 (fun _ e => by omega) hb
  have HS := Lib.hid (sortL_any b 0 c n ls hn hn9 ha w1 hrow1 (by omega))
  have HW1 := Lib.hid hw1
  have H := Lib.hid h
  have HN := Lib.hid hn
  have HNN := Lib.hid hN
  have HL := Lib.hid hl
  have K1 := Lib.hid k1
  clear h hn hN hl ha hw1 k1 hrow1
  go_enter Tryz.func66, Tryz.ntmps66
  go_wp2_with fail
  rw [← HW1.out]
  obtain ⟨rb, hrb⟩ : ∃ rb, rb = w.heap.size := ⟨_, rfl⟩
  simp only [← hrb] at c1 f1 s1 hb ⊢
  have HRB := Lib.hid hrb
  clear hrb HW1
  refine HS.out.mono ?_
  rintro e w2 ⟨rfl, k2⟩
  have K2 := Lib.hid (K1.out.trans (k2.mono (fun _ _ _ e => e.elim)) (fun _ _ _ => id))
  have s2 : rb < w2.heap.size := Nat.lt_of_lt_of_le (by omega) k2.size
  have c2 := (k2.cell rb 0 (by omega) id).trans c1
  have f2 := (k2.fr rb 0 (by omega)).trans f1
  have hb2 : b < w2.heap.size := by omega
  have hrow2 : RowL w2 b 0 ls := H.out.kept K2.out (fun _ e => by have := HRB.out; omega) (by have := HRB.out; omega)
  have HSZ := Lib.hid (labelsSize_any b 0 c n ls HN.out HL.out w2 hrow2 hb2)
  clear k2 c1 f1 HS K1 hrow2
  go_wp2_with fail
  refine HSZ.out.mono ?_
  rintro e w3 ⟨rfl, k3⟩
  have K3 := Lib.hid (K2.out.trans (k3.mono (fun _ _ _ e => e.elim)) (fun _ _ _ => id))
  have s3 : rb < w3.heap.size := Nat.lt_of_lt_of_le s2 k3.size
  have c3 := (k3.cell rb 0 s2 id).trans c2
  have f3 := (k3.fr rb 0 s2).trans f2
  rw [← HNN.out]
  clear k3 c2 f2 HSZ K2 s2
  go_wp2_with (at_make; refine wpList_make_full _ rfl _ _ 27 rfl 0 5 i5 (.int .u8 0) 1 Tryz.underlying27 hi hz0 hz1 _ _ _ _ N rfl rfl rfl rfl (by rw [hz2]; omega) (by unfold maxLen; omega) (Nat.zero_le _) ?_)
  intro w4 ho4 hg4
  obtain ⟨g, hgd⟩ : ∃ g, g = w3.heap.size := ⟨_, rfl⟩
  rw [← hgd] at ho4
  simp only [← hgd]
  have k4 : Kept (fun _ _ => False) w3 w4 := Kept.grown hg4 (fun _ _ e => by cases e) (fun _ _ e => by cases e)
  have hr4 : RB w4 g N N [] := RB.fresh ho4
  have hg4' : g < w4.heap.size := (ho4.lt g rfl).2
  have K4 := Lib.hid (K3.out.trans (k4.mono (fun _ _ _ e => e.elim)) (fun _ _ _ => id))
  have hb4 : b < w4.heap.size := by have := k4.size; omega
  have hrow4 : RowL w4 b 0 ls := H.out.kept K4.out (fun _ e => by have := HRB.out; omega) (by have := HRB.out; omega)
  have HM := Lib.hid (marshals_any b 0 c n g N N ls HN.out HL.out HNN.out (Nat.le_refl _) (by omega) (by omega) w4 hrow4 hb4 hr4)
  have c4 := (k4.cell rb 0 s3 id).trans c3
  have f4 := (k4.fr rb 0 s3).trans f3
  have s4 : rb < w4.heap.size := Nat.lt_of_lt_of_le s3 k4.size
  have hgr : rb ≠ g := by omega
  have HGG : Hid (w.heap.size ≤ g) := Lib.hid (by have := HRB.out; omega)
  have HGD := Lib.hid hgd
  clear hg4 ho4 k4 hr4 hrow4 c3 f3 K3 hgd
  go_wp2_with fail
  (with_reducible refine HM.out.mono ?_)
  rintro e w5 ⟨⟨r5, rfl⟩, hr5, k5⟩
  have K5 := Lib.hid (K4.out.trans (k5.mono (fun _ _ _ e => by rw [e]; exact HGG.out)) (fun _ _ _ => id))
  have c5 := (k5.cell rb 0 s4 hgr).trans c4
  have f5 := (k5.fr rb 0 s4).trans f4
  obtain ⟨D, hD⟩ : ∃ D : ByteArray, D.data.toList = eLs ls := ⟨⟨(eLs ls).toArray⟩, by simp⟩
  have HY := Lib.hid (fun c => yoloL_any _ D w5 (hr5.str (c := c) D hD))
  have HD := Lib.hid hD
  clear hr5 k5 c4 f4 HM K4 hD
  go_wp2_with (go_at_call 112; (with_reducible refine (HY.out _).mono ?_); rintro e w' ⟨rfl, rfl⟩)
  refine bodyPost_ret (v := .agg #[.string D]) ?_ rfl ⟨D, rfl, HD.out, K5.out.trans (Kept.setCell (P := fun k _ => w.heap.size ≤ k) _ rb 0 _ (by rw [HRB.out]; exact Nat.le_refl _)) (fun _ _ _ => id)⟩
  have hres : Tryz.f66.results = #[.cell 2 73] := by kernel_rfl
  simp only [results, hres]
  go_simp

end Go.Proofs.YtfipfoplmopkaaaGreatDoor

namespace Go.Proofs.YtfipfoplmopkaaaGreatDoor
open Go.RowKit

def fsL (ls : List Lab) : List (List UInt8) := (ls.map (fun x => [x.1.data.toList, x.2.data.toList])).flatten
theorem fsL_cons (x : Lab) (ls : List Lab) : fsL (x :: ls) = x.1.data.toList :: x.2.data.toList :: fsL ls := by simp [fsL]
theorem fsL_len (ls : List Lab) : (fsL ls).length = 2 * ls.length := by
  induction ls with
  | nil => rfl
  | cons x t ih => rw [fsL_cons]; simp [ih]; omega
theorem eLs_eF (ls : List Lab) : eLs ls = eF (fsL ls) := by
  induction ls with
  | nil => rfl
  | cons x t ih => rw [eLs_cons, fsL_cons, ih]; simp [eL, eF]
theorem fsL_get : ∀ (ls : List Lab) (i : Nat) (h : i < ls.length), (fsL ls).getD (2 * i) [] = (ls[i]'h).1.data.toList ∧ (fsL ls).getD (2 * i + 1) [] = (ls[i]'h).2.data.toList
  | [], i, h => by simp at h
  | x :: t, 0, _ => by rw [fsL_cons]; exact ⟨rfl, rfl⟩
  | x :: t, i + 1, h => by
    have := fsL_get t i (by simpa using h)
    rw [fsL_cons, show 2 * (i + 1) = 2 * i + 2 by omega]
    exact this
theorem LOK.ld {ls : List Lab} (h : LOK ls) {D : ByteArray} (hD : D.data.toList = eLs ls) : LD D (fsL ls) := by
  refine ⟨by rw [hD, eLs_eF], fun s hs => ?_, ?_⟩
  · simp only [fsL, List.mem_flatten, List.mem_map] at hs
    obtain ⟨l, ⟨x, hx, rfl⟩, hs⟩ := hs
    have := h.a x hx
    simp at hs
    rcases hs with rfl | rfl
    · simpa using this.1
    · simpa using this.2
  · have h1 := eLs_len ls h.a
    have h2 := h.n
    have h3 : D.size = (eLs ls).length := by rw [← hD]; simp
    omega

set_option maxRecDepth 100000 in
set_option maxHeartbeats 2000000 in
theorem made_any (b o c n : Nat) (ls : List Lab) (hn : n = ls.length) (hn0 : 0 < n) (hl : LOK ls) (ha : AscL ls) (w : World) (h : RowL w b o ls) (hb : b < w.heap.size) :
    Calls Tryz.prog 24 #[.slice (some ⟨b, o, none⟩) n c] w fun e w' => ∃ D : ByteArray, e = .returned (.agg #[.string D]) ∧ LD D (fsL ls) ∧ Kept (fun k _ => w.heap.size ≤ k) w w' := by
  obtain ⟨w1, hw1⟩ : ∃ w1, w1 = w.alloc (.cells #[.string ⟨#[]⟩] 73) := ⟨_, rfl⟩
  have k1 : Kept (fun k _ => w.heap.size ≤ k) w w1 := by rw [hw1]; exact (Kept.alloc (fun _ _ => False) _ _).mono (fun _ _ _ e => e.elim)
  have s1 : w1.heap.size = w.heap.size + 1 := by rw [hw1, World.size_alloc]
  have f1 : w1.frozen? ⟨w.heap.size, 0, none⟩ = false := by rw [hw1]; simp
  have c1 : w1.cell? ⟨w.heap.size, 0, none⟩ = some (.string ⟨#[]⟩) := by rw [hw1, World.cell?_alloc_new]; rfl
  have hrow1 : RowL w1 b o ls := h.kept k1 (fun _ e => by omega) hb
  have hn9 : n < 1000 := by have := hl.n; omega
  have HP := Lib.hid (pairs_any b o c n ls hn hn0 hn9 w1 hrow1 (by omega))
  have HW1 := Lib.hid hw1
  have HN := Lib.hid hn
  have HL := Lib.hid hl
  have HA := Lib.hid ha
  have K1 := Lib.hid k1
  clear h hn hl ha hw1 k1 hrow1
  go_enter Tryz.func24, Tryz.ntmps24
  go_wp2_with fail
  rw [← HW1.out]
  obtain ⟨rb, hrb⟩ : ∃ rb, rb = w.heap.size := ⟨_, rfl⟩
  simp only [← hrb] at c1 f1 s1 hb ⊢
  have HRB := Lib.hid hrb
  clear hrb HW1
  (with_reducible refine HP.out.mono ?_)
  rintro e w2 ⟨g, gc, rfl, hg1, hg2, hrow, k2⟩
  have K2 := Lib.hid (K1.out.trans (k2.mono (fun _ _ _ e => by have := HRB.out; omega)) (fun _ _ _ => id))
  have s2 : rb < w2.heap.size := Nat.lt_of_lt_of_le (by omega) k2.size
  have c2 := (k2.cell rb 0 (by omega) (by omega)).trans c1
  have f2 := (k2.fr rb 0 (by omega)).trans f1
  have HNW := Lib.hid (new_any g gc n ls HN.out HL.out HA.out w2 hrow hg2)
  clear k2 c1 f1 HP K1 hrow
  go_wp2_with fail
  (with_reducible refine HNW.out.mono ?_)
  rintro e w3 ⟨D, rfl, hD, k3⟩
  have K3 := Lib.hid (K2.out.trans (k3.mono (fun _ _ _ e => by have := HRB.out; omega)) (fun _ _ _ => id))
  have c3 := (k3.cell rb 0 s2 (by omega)).trans c2
  have f3 := (k3.fr rb 0 s2).trans f2
  have HD := Lib.hid (HL.out.ld hD)
  clear k3 hD c2 f2 HNW K2
  go_wp2
  refine bodyPost_ret (v := .agg #[.string D]) ?_ rfl ⟨D, rfl, HD.out, K3.out.trans (Kept.setCell (P := fun k _ => w.heap.size ≤ k) _ rb 0 _ (by rw [HRB.out]; exact Nat.le_refl _)) (fun _ _ _ => id)⟩
  have hres : Tryz.f24.results = #[.cell 2 73] := by kernel_rfl
  simp only [results, hres]
  go_simp

/-- What Validate asks of the function value that it calls: from round k to round k + 1, or an error. -/
def ValC (x : Value) (ls : List Lab) (Inv : Nat → World → Prop) (Bad : World → Prop) : Prop :=
  ∀ (k : Nat) (h : k < ls.length) (X Y : ByteArray) (w : World), X.data.toList = (ls[k]'h).1.data.toList → Y.data.toList = (ls[k]'h).2.data.toList → Inv k w →
    Calls Tryz.prog 62 #[.agg #[.string X, .string Y], x] w fun e w' => (e = .returned .nilIface ∧ Inv (k + 1) w') ∨ ((∃ t v, e = .returned (.iface t v)) ∧ Bad w')

set_option maxRecDepth 100000 in
set_option maxHeartbeats 2000000 in
theorem validate_any (D : ByteArray) (ls : List Lab) (hD : LD D (fsL ls)) (x : Value) (Inv : Nat → World → Prop) (Bad : World → Prop) (hc : ValC x ls Inv Bad) (w : World) (hi : Inv 0 (w.alloc (.cells #[.string D] 73))) (hcell : ∀ k w', Inv k w' → w'.cell? ⟨w.heap.size, 0, none⟩ = some (.string D)) :
    Calls Tryz.prog 61 #[.agg #[.string D], .func (.func 62) #[] #[x]] w fun e w' => (e = .returned .nilIface ∧ Inv ls.length w') ∨ ((∃ t v, e = .returned (.iface t v)) ∧ Bad w') := by
  obtain ⟨n, hn⟩ : ∃ n, n = ls.length := ⟨_, rfl⟩
  have hfl := fsL_len ls
  rw [← hn] at hfl ⊢
  have hsz := hD.n
  have hn9 : n < 10000000 := by
    have h1 := eF_len_le (fsL ls)
    rw [← hD.size] at h1; omega
  have HD := Lib.hid hD
  have HC := Lib.hid hc
  have HI := Lib.hid hi
  have HCELL := Lib.hid hcell
  have HN := Lib.hid hn
  have HFL := Lib.hid hfl
  clear hD hc hi hcell hn hfl
  go_enter Tryz.func61, Tryz.ntmps61
  go_wp2_with fail
  obtain ⟨gb, hgb⟩ : ∃ gb, gb = w.heap.size := ⟨_, rfl⟩
  rw [← hgb] at HCELL
  simp only [← hgb]
  clear hgb
  go_loopw [5] (fun y wr => ∃ k : Nat, k ≤ n ∧ y = .int .i64 (ix (fsL ls) (2 * k) : Nat) ∧ Hid (Inv k wr)) (fun y _ => D.size - (intOf y).toNat)
  case atStart => exact ⟨0, Nat.zero_le _, rfl, HI⟩
  case round =>
    obtain ⟨k, hk, rfl, HK⟩ := hrel
    have c0 := HCELL.out k wr HK.out
    by_cases hlt : k < n
    · obtain ⟨p1, p2, p3, p4, p5, p6⟩ := HD.out.af (show 2 * k < (fsL ls).length by rw [HFL.out]; omega)
      obtain ⟨q1, q2, q3, q4, q5, q6⟩ := HD.out.af (show 2 * k + 1 < (fsL ls).length by rw [HFL.out]; omega)
      obtain ⟨g1, g2⟩ := fsL_get ls k (by rw [← HN.out]; exact hlt)
      rw [g1] at p6
      rw [g2] at q6
      rw [p3] at p4 q1 q2 q3 q6
      have e2 : ix (fsL ls) (2 * (k + 1)) = ix (fsL ls) (2 * k) + 1 + fl (fsL ls) (2 * k) + 1 + fl (fsL ls) (2 * k + 1) := q3
      rw [q3] at q4
      obtain ⟨a, ha⟩ : ∃ a, ix (fsL ls) (2 * k) = a := ⟨_, rfl⟩
      obtain ⟨n1, hn1⟩ : ∃ n, fl (fsL ls) (2 * k) = n := ⟨_, rfl⟩
      obtain ⟨n2, hn2⟩ : ∃ n, fl (fsL ls) (2 * k + 1) = n := ⟨_, rfl⟩
      rw [ha, hn1] at p4 p6 q1 q2 q4 q6 e2
      rw [ha] at p1 p2
      rw [hn1] at p2 p5
      rw [hn2] at q2 q4 q5 q6 e2
      have D1 := Lib.hid (fun w => decStr_any D a n1 w (by omega) p2 p5 (by omega))
      have D20 := fun w => decStr_any D (a + 1 + n1) n2 w (by omega) q2 q5 (by omega)
      obtain ⟨X, hX⟩ : ∃ X, X = D.extract (a + 1) (a + 1 + n1) := ⟨_, rfl⟩
      obtain ⟨Y, hY⟩ : ∃ Y, Y = D.extract (a + 1 + n1 + 1) (a + 1 + n1 + 1 + n2) := ⟨_, rfl⟩
      rw [← hX] at D1 p6
      rw [← hY] at D20 q6
      rw [show ((a + 1 + n1 : Nat) : Int) = (a : Int) + 1 + n1 by omega] at D20
      have D2 := Lib.hid D20
      have hV := Lib.hid (HC.out k (by rw [← HN.out]; exact hlt) X Y wr p6 q6 HK.out)
      have hin : a + 1 + n1 + 1 + n2 < 20000000 := by omega
      have haI : (a : Int) < D.size := by omega
      have E2 := Lib.hid e2
      rw [ha]
      clear p1 p2 p3 p4 p5 p6 q1 q2 q3 q4 q5 q6 g1 g2 e2 hX hY D20 ha hn1 hn2
      go_wp2_with (first | (go_at_call 103; (with_reducible refine (D1.out _).mono ?_); rintro e w' ⟨rfl, rfl⟩) | (go_at_call 103; (with_reducible refine (D2.out _).mono ?_); rintro e w' ⟨rfl, rfl⟩))
      (with_reducible refine hV.out.mono ?_)
      rintro e w2 (⟨rfl, hi'⟩ | ⟨⟨t, v, rfl⟩, hb⟩)
      · have HI' := Lib.hid hi'
        clear hi'
        go_wp2_with fail
        go_roundw
        case rel => exact ⟨k + 1, by omega, by rw [E2.out]; go_num, HI'⟩
        case measure => simp only [intOf]; omega
      · have HB := Lib.hid hb
        clear hb
        go_wp2_with fail
        go_ret
        exact Or.inr ⟨⟨t, v, rfl⟩, HB.out⟩
    · obtain rfl : k = n := by omega
      have hix : ix (fsL ls) (2 * k) = D.size := by rw [← HFL.out, ix_end, HD.out.size]
      rw [hix]
      have hL : ¬ (D.size : Int) < D.size := by omega
      clear hix
      go_wp2_with fail
      go_ret
      exact Or.inl ⟨rfl, HK.out⟩

end Go.Proofs.YtfipfoplmopkaaaGreatDoor

namespace Go.Proofs.YtfipfoplmopkaaaGreatDoor
open Go.RowKit Go.Maps

theorem Kept.drewN (P : Nat → Nat → Prop) (w : World) (n : Nat) : Kept P w (w.drewN n) := ⟨rfl, rfl, rfl, Nat.le_refl _, fun _ _ _ _ => rfl, fun _ _ _ => rfl, fun _ _ _ => rfl⟩
theorem WI.drewN {w : World} {G : Gh} (h : WI w G) (n : Nat) : WI (w.drewN n) G := h.kept (Kept.drewN (fun _ _ => False) _ _) (fun _ _ _ => False.elim)
theorem Reach.drewN {w w1 : World} {G G1 : Gh} (h : Reach w G w1 G1) (n : Nat) : Reach w G (w1.drewN n) G1 := h.trans ⟨h.wi.drewN n, Nx.refl _ _, Kept.drewN _ _ _, Hp.none _ (Kept.drewN _ _ _)⟩

/-- symbolCache[s], with 'ok'. -/
theorem WI.symOk {w : World} {G : Gh} (h : WI w G) (s : ByteArray) (hs : s.size < 256) :
    ∃ c : Nat, c < 4294967296 ∧ G.S.atKey (.string s.data.toList) (.lit (.int .u32 0)) = .lit (.int .u32 (c : Int)) ∧ ∀ m, (Instr.lookup 114 (.map (some G.sm)) (.string s) true).run Tryz.prog (w.drewN m) = .ok (.tuple #[.int .u32 (c : Int), .bool (Maps.has G.S (.string s.data.toList))]) (w.drewN m) := by
  have key : ∀ w, WI w G → ∃ c : Nat, c < 4294967296 ∧ G.S.atKey (.string s.data.toList) (.lit (.int .u32 0)) = .lit (.int .u32 (c : Int)) ∧ (Instr.lookup 114 (.map (some G.sm)) (.string s) true).run Tryz.prog w = .ok (.tuple #[.int .u32 (c : Int), .bool (Maps.has G.S (.string s.data.toList))]) w := by
    intro w h
    obtain ⟨v, ps, h1, h2⟩ := h.s.look_ok keyS Tryz.underlying114 (z := .int .u32 0) (by kernel_rfl) (plainElem_int Tryz.underlying94 (by decide)) (WideMaps.keyOf_string_mk Tryz.underlying9 (by unfold maxLen; omega : s.size ≤ maxLen))
    obtain ⟨c, rfl, h3, h4⟩ := plainElem_int_inv Tryz.underlying94 h2
    have h5 : 0 ≤ c ∧ c < 4294967296 := by
      have e1 : IntKind.u32.min = 0 := rfl
      have e2 : IntKind.u32.max = 4294967295 := rfl
      simp [Lit.wf, e1, e2] at h4
      omega
    refine ⟨c.toNat, by omega, ?_, ?_⟩
    · rw [show ((c.toNat : Nat) : Int) = c by omega]; exact congrArg Prod.fst h3
    · rw [h1, show ((c.toNat : Nat) : Int) = c by omega]
  obtain ⟨c, h1, h2, _⟩ := key w h
  refine ⟨c, h1, h2, fun m => ?_⟩
  obtain ⟨c', _, h4, h5⟩ := key (w.drewN m) (h.drewN m)
  rw [h2] at h4
  cases h4
  exact h5

/-- labelNames[s]. -/
theorem WI.lnAt {w : World} {G : Gh} (h : WI w G) (s : ByteArray) (hs : s.size < 256) (c : Nat) (hc : G.L.atKey (.string s.data.toList) (.lit (.int .u64 0)) = .lit (.int .u64 (c : Int))) :
    (Instr.lookup 116 (.map (some G.lm)) (.string s) false).run Tryz.prog w = .ok (.int .u64 (c : Int)) w := by
  obtain ⟨c', hr', ha', _⟩ := h.l.lookup_int keyS Tryz.underlying116 Tryz.underlying32 (by kernel_rfl) (WideMaps.keyOf_string_mk Tryz.underlying9 (by unfold maxLen; omega : s.size ≤ maxLen))
  rw [hc] at ha'
  cases ha'
  exact hr'

theorem wf_u64 {n : Nat} (h : n < 18446744073709551616) : (Lit.int .u64 (n : Int)).wf = true := by
  have h1 : IntKind.u64.min = 0 := rfl
  have h2 : IntKind.u64.max = 18446744073709551615 := rfl
  simp [Lit.wf, h1, h2]; omega

set_option maxRecDepth 100000 in
set_option maxHeartbeats 4000000 in
theorem cl62_good (w : World) (G : Gh) (V : Vw) (wx : Nat) (X Y : ByteArray) (hG : WI w G) (hV : G.v = V) (hbox : w.cell? ⟨wx, 0, none⟩ = some (.pointer (some ⟨G.wb, 0, none⟩))) (hT : G.T wx = 0)
    (hX : X.size < 256) (hY : Y.size < 256) (hl2 : V.l2.length < 100000000) (hnl : V.nl < 100000) (cx cy c : Nat) (yb : Bool) (hx1 : Maps.has V.S (.string X.data.toList) = true) (hy1 : Maps.has V.S (.string Y.data.toList) = yb)
    (hcx : V.S.atKey (.string X.data.toList) (.lit (.int .u32 0)) = .lit (.int .u32 (cx : Int))) (hcy : V.S.atKey (.string Y.data.toList) (.lit (.int .u32 0)) = .lit (.int .u32 (cy : Int))) (hc : V.L.atKey (.string X.data.toList) (.lit (.int .u64 0)) = .lit (.int .u64 (c : Int))) (hc9 : c < 100000) :
    Calls Tryz.prog 62 #[.agg #[.string X, .string Y], .pointer (some ⟨wx, 0, none⟩)] w (fun e w' => (yb = true ∧ StE w G { V with l2 := V.l2 ++ (Lib.uvarint cx ++ Lib.uvarint cy), nl := V.nl + 1, L := V.L.put (.string X.data.toList) (.lit (.int .u64 ((c : Int) + 1))) } e w') ∨ (yb = false ∧ (∃ t v, e = .returned (.iface t v)) ∧ ∃ G', Reach w G w' G')) := by
  have hwx := World.block_lt_of_cell? _ _ hbox
  obtain ⟨w1, hw1⟩ : ∃ w1, w1 = w.alloc (.cells #[.string X, .string Y] 130) := ⟨_, rfl⟩
  obtain ⟨xb, hxb⟩ : ∃ xb, xb = w.heap.size := ⟨_, rfl⟩
  obtain ⟨G1, r1, v1, t1, t1'⟩ := (Reach.refl hG).newv hV (.cells #[.string X, .string Y] 130)
  rw [← hw1] at r1
  rw [← hxb] at t1
  have b1 : w1.cell? ⟨wx, 0, none⟩ = some (.pointer (some ⟨G.wb, 0, none⟩)) := by rw [hw1, World.cell?_alloc_old _ _ _ (Nat.ne_of_lt hwx)]; exact hbox
  have tx1 : G1.T wx = 0 := (t1' _ hwx).trans hT
  have x1 : w1.cell? ⟨xb, 0, none⟩ = some (.string X) := by rw [hw1, hxb, World.cell?_alloc_new]; rfl
  have x2 : w1.cell? ⟨xb, 1, none⟩ = some (.string Y) := by rw [hw1, hxb, World.cell?_alloc_new]; rfl
  have hxl : xb < w1.heap.size := World.block_lt_of_cell? _ _ x1
  have hwl : wx < w1.heap.size := World.block_lt_of_cell? _ _ b1
  have HW1 := Lib.hid hw1
  have HXB := Lib.hid hxb
  have R1 := Lib.hid r1
  have V1 := Lib.hid v1
  have HL2 := Lib.hid hl2
  have HNL := Lib.hid hnl
  have eS : G1.S = V.S := congrArg Vw.S v1
  obtain ⟨cx', lcx, ecx, LX⟩ := r1.wi.symOk X hX
  rw [eS, hcx] at ecx
  cases ecx
  obtain ⟨cy', lcy, ecy, LY⟩ := r1.wi.symOk Y hY
  rw [eS, hcy] at ecy
  cases ecy
  rw [r1.nx.sm, eS, hx1] at LX
  rw [eS, hy1] at LY
  have m1 := R1.out.c38
  have HCX := Lib.hid hcx
  have HCY := Lib.hid hcy
  have HY1 := Lib.hid hy1
  have HC := Lib.hid hc
  clear hw1 hxb r1 v1 hl2 hnl hG hV hbox hT hwx hx1 hy1 hcx hcy hc LY eS t1'
  go_enter Tryz.func62, Tryz.ntmps62
  go_wp2_with fail
  simp only [← HW1.out, ← HXB.out]
  go_quiet (fail)
  have R2 := Lib.hid (R1.out.drewN nq)
  change Exit.then _ _ _ _ (w1.drewN nq)
  have b2 : (w1.drewN nq).cell? ⟨wx, 0, none⟩ = _ := b1
  have x3 : (w1.drewN nq).cell? ⟨xb, 0, none⟩ = _ := x1
  have x4 : (w1.drewN nq).cell? ⟨xb, 1, none⟩ = _ := x2
  have hxl2 : xb < (w1.drewN nq).heap.size := hxl
  have hwl2 : wx < (w1.drewN nq).heap.size := hwl
  clear b1 x1 x2 hxl hwl m1 LX HW1 HXB R1
  generalize w1.drewN nq = w2 at *
  have m2 := R2.out.c40
  have LN := R2.out.drew.wi.lnAt X hX c (by rw [show G1.L = V.L from congrArg Vw.L V1.out]; exact HC.out)
  rw [R2.out.nx.lm] at LN
  go_wp2_with fail
  go_still_tail 8, (by kernel_rfl)
  have hm := R2.out.drew.wi.l
  rw [R2.out.nx.lm, show G1.nl = V.nl from congrArg Vw.nl V1.out, show G1.L = V.L from congrArg Vw.L V1.out] at hm
  have HM := Lib.hid hm
  have hwf : (plainElem (H := Unit) Tryz.prog 32) (.int .u64 (IntKind.u64.wrap ((c : Int) + 1))) = some (.lit (.int .u64 ((c : Int) + 1)), []) := by
    rw [show IntKind.u64.wrap ((c : Int) + 1) = ((c + 1 : Nat) : Int) by rw [IntKind.wrap_u64]; omega, show (c : Int) + 1 = ((c + 1 : Nat) : Int) by omega]
    exact plainElem_int Tryz.underlying32 (wf_u64 (by omega))
  have HWF := Lib.hid hwf
  have HKEY := Lib.hid (WideMaps.keyOf_string_mk (P := Tryz.prog) (s := X) Tryz.underlying9 (by unfold maxLen; omega))
  have HNM : Hid (V.nl < maxLen) := Lib.hid (by have := HNL.out; unfold maxLen; omega)
  clear hm hwf LN
  go_wp2_with (at_mapUpdate; refine wpList_mapUpdate_in _ rfl _ _ _ 116 rfl 9 32 keyS Tryz.underlying116 (plainElem Tryz.prog 32) G.lm V.nl V.L rfl HM.out HNM.out _ _ (.string X.data.toList) rfl rfl HKEY.out (.lit (.int .u64 ((c : Int) + 1))) [] HWF.out ?_)
  intro w3 ho ht
  rw [← R2.out.nx.lm] at ho ht
  have r3 := R2.out.drew.wi.lnr ho ht
  obtain ⟨G3, hG3⟩ : ∃ G3, G3 = G1.ln (V.nl + 1) (V.L.put (.string X.data.toList) (.lit (.int .u64 ((c : Int) + 1)))) := ⟨_, rfl⟩
  rw [← hG3] at r3
  have v3 : G3.v = { V with nl := V.nl + 1, L := V.L.put (.string X.data.toList) (.lit (.int .u64 ((c : Int) + 1))) } := by
    rw [hG3, ← V1.out]; rfl
  have b3 := (KT.cell r3.kp hwl2 tx1 0).trans b2
  have x5 := (KT.cell r3.kp hxl2 t1 0).trans x3
  have x6 := (KT.cell r3.kp hxl2 t1 1).trans x4
  have tx3 : G3.T wx = 0 := (r3.nx.T _ hwl2).trans tx1
  have t3 : G3.T xb = 0 := (r3.nx.T _ hxl2).trans t1
  have hwl3 : wx < w3.heap.size := Nat.lt_of_lt_of_le hwl2 r3.kp.size
  have hxl3 : xb < w3.heap.size := Nat.lt_of_lt_of_le hxl2 r3.kp.size
  have R3 := Lib.hid (R2.out.drew.trans r3)
  have V3 := Lib.hid v3
  clear ho ht r3 hG3 v3 b2 x3 x4 tx1 t1 hwl2 hxl2 m2 HM HWF V1 R2
  go_wp2_with fail
  refine (R3.out.u32_2s V3.out cx (by have := HL2.out; show V.l2.length < _; omega) lcx).mono ?_
  rintro e w4 ⟨rfl, G4, r4, v4, s4⟩
  have b4 := (KT.cell s4.kp hwl3 tx3 0).trans b3
  have x7 := (KT.cell s4.kp hxl3 t3 0).trans x5
  have x8 := (KT.cell s4.kp hxl3 t3 1).trans x6
  have m4 := r4.c38
  have eS4 : G4.S = V.S := congrArg Vw.S v4
  obtain ⟨cy', _, ecy, LY⟩ := r4.wi.symOk Y hY
  rw [eS4, HCY.out] at ecy
  cases ecy
  rw [r4.nx.sm, eS4, HY1.out] at LY
  have R4 := Lib.hid r4
  have V4 := Lib.hid v4
  have B4 := Lib.hid b4
  have HU := Lib.hid (Lib.uvarint_length64 (x := cx) (by omega))
  clear b3 x5 x6 tx3 t3 hwl3 hxl3 r4 v4 s4 R3 V3 eS4
  go_wp2_with fail
  go_quiet (fail)
  have R5 := Lib.hid (R4.out.drewN nq)
  clear LY m4 b4 x7 x8 R4
  change Exit.then _ _ _ _ (w4.drewN nq)
  have b5 : (w4.drewN nq).cell? ⟨wx, 0, none⟩ = some (.pointer (some ⟨G.wb, 0, none⟩)) := B4.out
  generalize w4.drewN nq = w5 at *
  cases yb with
  | true =>
    go_wp2_with fail
    refine (R5.out.u32_2s V4.out cy (by have := HL2.out; have := HU.out; simp only [List.length_append]; omega) lcy).mono ?_
    rintro e w6 ⟨rfl, G6, r6, v6, s6⟩
    have R6 := Lib.hid r6
    have V6 := Lib.hid v6
    clear r6 v6 s6
    go_wp2_with fail
    go_ret
    exact ⟨rfl, G6, R6.out, by rw [V6.out, List.append_assoc]⟩
  | false =>
    go_wp2_with fail
    refine (errNew_any _ _).mono ?_
    rintro e w6 ⟨t, v, rfl, k6⟩
    have K6 := Lib.hid k6
    clear k6
    go_wp2_with fail
    go_ret
    exact ⟨⟨t, v, rfl⟩, G4, R5.out.trans ⟨R5.out.wi.kept K6.out (fun _ _ _ => False.elim), Nx.refl _ _, K6.out.mono (fun _ _ _ => False.elim), Hp.none _ K6.out⟩⟩

set_option maxRecDepth 100000 in
set_option maxHeartbeats 4000000 in
theorem cl62_bad (w : World) (G : Gh) (V : Vw) (wx : Nat) (X Y : ByteArray) (hG : WI w G) (hV : G.v = V) (hbox : w.cell? ⟨wx, 0, none⟩ = some (.pointer (some ⟨G.wb, 0, none⟩)))
    (hX : X.size < 256) (hx1 : Maps.has V.S (.string X.data.toList) = false) :
    Calls Tryz.prog 62 #[.agg #[.string X, .string Y], .pointer (some ⟨wx, 0, none⟩)] w (fun e w' => (∃ t v, e = .returned (.iface t v)) ∧ ∃ G', Reach w G w' G') := by
  have hwx := World.block_lt_of_cell? _ _ hbox
  obtain ⟨w1, hw1⟩ : ∃ w1, w1 = w.alloc (.cells #[.string X, .string Y] 130) := ⟨_, rfl⟩
  obtain ⟨xb, hxb⟩ : ∃ xb, xb = w.heap.size := ⟨_, rfl⟩
  have r1 := (Reach.refl hG).alloc (.cells #[.string X, .string Y] 130)
  rw [← hw1] at r1
  have b1 : w1.cell? ⟨wx, 0, none⟩ = some (.pointer (some ⟨G.wb, 0, none⟩)) := by rw [hw1, World.cell?_alloc_old _ _ _ (Nat.ne_of_lt hwx)]; exact hbox
  have x1 : w1.cell? ⟨xb, 0, none⟩ = some (.string X) := by rw [hw1, hxb, World.cell?_alloc_new]; rfl
  have HW1 := Lib.hid hw1
  have HXB := Lib.hid hxb
  have R1 := Lib.hid r1
  have eS : G.S = V.S := congrArg Vw.S hV
  obtain ⟨cx, _, _, LX⟩ := r1.wi.symOk X hX
  rw [eS, hx1] at LX
  have m1 := R1.out.c38
  clear hw1 hxb r1 hG hV hbox hwx hx1 eS
  go_enter Tryz.func62, Tryz.ntmps62
  go_wp2_with fail
  simp only [← HW1.out, ← HXB.out]
  go_quiet (fail)
  have R2 := Lib.hid (R1.out.drewN nq)
  clear b1 x1 m1 LX HW1 HXB R1
  generalize w1.drewN nq = w2 at *
  go_wp2_with fail
  refine (errNew_any _ _).mono ?_
  rintro e w6 ⟨t, v, rfl, k6⟩
  have K6 := Lib.hid k6
  clear k6
  go_wp2_with fail
  go_ret
  exact ⟨⟨t, v, rfl⟩, G, R2.out.trans ⟨R2.out.wi.kept K6.out (fun _ _ _ => False.elim), Nx.refl _ _, K6.out.mono (fun _ _ _ => False.elim), Hp.none _ K6.out⟩⟩

end Go.Proofs.YtfipfoplmopkaaaGreatDoor
