/- Labels: impl.pairs(67), labels.New(66), impl.made(24). Conditions: the labels in order, sizes below 255. Labels: labels.New(66), impl.made(24). Conditions: the labels in order, sizes below 255. Labels: impl.made(24), Validate(61). Conditions: the labels in order, sizes below 255. The sums: zzcrc.Update and what stands on it: a sum is a function of the polynomial, the sum before and the bytes. No condition but bounds on lengths. The digest behind the interface hash.Hash, and Encbuf's methods that use it. A sum's bytes are four bytes of which nothing more is said. No condition but bounds on lengths. -/
import Derived.Test.YtfipfoplmopkaaaGreatDoorZ16
import Derived.Test.YtfipfoplmopkaaaGreatDoorZ01
import Derived.Test.YtfipfoplmopkaaaGreatDoorZ12
import Derived.Lib.SlBytesRow
import Derived.Laws.Closers25b
import Derived.Deep.RegionWith

namespace Go.Proofs.YtfipfoplmopkaaaGreatDoor
open Go.RowKit

def encL (x : Lab) : List Value := [.string x.1, .string x.2]
def rowV (ls : List Lab) : List Value := (ls.map encL).flatten
theorem rowV_snoc (ls : List Lab) (x : Lab) : rowV (ls ++ [x]) = rowV ls ++ [.string x.1, .string x.2] := by simp [rowV, encL]
theorem rowV_cons (x : Lab) (ls : List Lab) : rowV (x :: ls) = .string x.1 :: .string x.2 :: rowV ls := by simp [rowV, encL]
theorem rowV_get : ∀ (ls : List Lab) (i : Nat) (h : i < ls.length), (rowV ls)[i * 2]? = some (.string (ls[i]'h).1) ∧ (rowV ls)[i * 2 + 1]? = some (.string (ls[i]'h).2)
  | [], i, h => by simp at h
  | x :: t, 0, _ => by rw [rowV_cons]; exact ⟨rfl, rfl⟩
  | x :: t, i + 1, h => by
    have := rowV_get t i (by simpa using h)
    rw [rowV_cons, show (i + 1) * 2 = i * 2 + 2 by omega]
    exact this

theorem two_newL (w : World) (x y : Value) (t : TypeId) : ∀ ad, some (⟨w.heap.size, 0, none⟩ : Addr) = some ad → ∀ (j : Nat) u, [x, y][j]? = some u → (w.alloc (.cells #[x, y] t)).cell? (ad.add j) = some u := by
  intro ad e j u hj
  cases e
  match j, hj with
  | 0, hj => simp at hj; subst hj; rw [Addr.add_lit, Nat.zero_add, World.cell?_alloc_new]; rfl
  | 1, hj => simp at hj; subst hj; rw [Addr.add_lit, Nat.zero_add, World.cell?_alloc_new]; rfl

theorem info130 : (Tryz.prog.info? 130).map (fun i => (i.zero, i.size, i.bytes)) = some (some (.agg #[.string ByteArray.empty, .string ByteArray.empty]), 2, 32) := by kernel_rfl

set_option maxRecDepth 100000 in
set_option maxHeartbeats 2000000 in
theorem pairs_any (b o c n : Nat) (ls : List Lab) (hn : n = ls.length) (hn0 : 0 < n) (hn9 : n < 1000) (w : World) (h : RowL w b o ls) (hb : b < w.heap.size) :
    Calls Tryz.prog 67 #[.slice (some ⟨b, o, none⟩) n c] w fun e w' => ∃ g c', e = .returned (.slice (some ⟨g, 0, none⟩) n c') ∧ w.heap.size ≤ g ∧ g < w'.heap.size ∧ RowL w' g 0 ls ∧ Kept (fun k _ => w.heap.size ≤ k) w w' := by
  have H := Lib.hid h
  have HN := Lib.hid hn
  have HB := Lib.hid hb
  obtain ⟨i130, hi, hz0, hz1, hz2⟩ := info_parts info130
  clear h hn hb
  go_enter Tryz.func67, Tryz.ntmps67
  go_wp2_with fail
  go_loopw [3, 8] (fun s x wr => ∃ (i : Nat) (ao : Option Addr) (cc : Nat), i ≤ n ∧ x = .int .i64 i ∧ s = .slice ao i cc ∧ Hid (wr.ownsRow 0 130 2 (.slice ao i cc) i (rowV (ls.take i))) ∧ Hid (∀ k, (Value.slice ao i cc).ownBlock = some k → w.heap.size ≤ k) ∧ Hid (Kept (fun k _ => w.heap.size ≤ k) w wr)) (fun _ x _ => n - (intOf x).toNat)
  case atStart => exact ⟨0, none, 0, Nat.zero_le _, rfl, rfl, Lib.hid (World.ownsRow_nil _ _ _ _), Lib.hid (fun k e => by cases e), Lib.hid (Kept.refl _ _)⟩
  case round =>
    obtain ⟨i, ao, cc, hi', rfl, rfl, HO, HG, HR⟩ := hrel
    by_cases hlt : i < n
    · have hil : i < ls.length := by rw [← HN.out]; exact hlt
      have hRow := H.out.kept HR.out (fun _ e => by have := HB.out; omega) HB.out
      obtain ⟨x1, x2⟩ := hRow i hil
      have hrv : rowV (ls.take (i + 1)) = rowV (ls.take i) ++ [.string (ls[i]'hil).1, .string (ls[i]'hil).2] := by
        rw [List.take_succ_eq_append_getElem hil, rowV_snoc]
      obtain ⟨x, hx⟩ : ∃ x, x = (ls[i]'hil).1 := ⟨_, rfl⟩
      obtain ⟨y, hy⟩ : ∃ y, y = (ls[i]'hil).2 := ⟨_, rfl⟩
      rw [← hx] at x1 hrv
      rw [← hy] at x2 hrv
      have HRV := Lib.hid hrv
      have hiI : (i : Int) < n := by omega
      have hrow : ∀ o1 o2 : Obj, ((wr.alloc o1).alloc o2).ownsRow 0 130 2 (.slice ao i cc) i (rowV (ls.take i)) := fun o1 o2 => by
        have h1 := ownsRow_block (w' := wr.alloc o1) HO.out (fun k e => heap_alloc_old _ _ (HO.out.lt k e).2)
        exact ownsRow_block h1 (fun k e => heap_alloc_old _ _ (h1.lt k e).2)
      have HROW := Lib.hid hrow
      clear hrv hx hy hRow hrow
      go_wp2_with (at_builtin; refine wpList_app _ rfl _ _ 136 rfl 130 i130 (.agg #[.string ByteArray.empty, .string ByteArray.empty]) 2 32 Tryz.underlying136 hi hz0 hz1 hz2 rfl (by decide) (.slice ao i cc) i (rowV (ls.take i)) rfl (HROW.out _ _) (some ⟨wr.heap.size + 1, 0, none⟩) 1 1 [.string x, .string y] rfl rfl (fun e => by cases e) (by have := two_newL (wr.alloc (.cells #[.string x, .string y] 79)) (.string x) (.string y) 130; rw [World.size_alloc] at this; exact this) (by intro u hu; simp at hu; rcases hu with rfl | rfl <;> rfl) (by unfold maxLen; omega) (by omega) ?_)
      intro v' wz ha
      obtain ⟨ao', c', rfl⟩ := own_slice ha.own
      have hk := (((HR.out.trans (Kept.alloc _ _ _) (fun _ _ _ => id)).trans (Kept.alloc _ _ _) (fun _ _ _ => id)).trans ((ha.kept (HROW.out _ _)).mono (fun k _ _ e => HG.out k e)) (fun _ _ _ => id))
      have HK := Lib.hid hk
      have hg : ∀ k, (Value.slice ao' (i + 1) c').ownBlock = some k → w.heap.size ≤ k := fun k e => by
        rcases ha.mv with h | ⟨g', h1, h2⟩
        · exact HG.out k (h.symm.trans e)
        · rw [e] at h1; cases h1
          have := HR.out.size
          simp only [World.size_alloc] at h2; omega
      have HG' := Lib.hid hg
      have HO' := Lib.hid ha.own
      clear ha hk hg
      go_wp2_with fail
      go_roundw
      case rel => exact ⟨i + 1, ao', c', by omega, by go_num, rfl, Lib.hid (by rw [HRV.out]; exact HO'.out), HG', HK⟩
      case measure => simp only [intOf]; omega
    · obtain rfl : i = n := by omega
      have ho := HO.out
      rw [show ls.take i = ls by rw [HN.out, List.take_length]] at ho
      obtain ⟨g, cap, he, _, hglt⟩ := ho.form hn0
      cases he
      have hg0 := HG.out g rfl
      have hrow : RowL wr g 0 ls := fun j hj => by
        obtain ⟨r1, r2⟩ := rowV_get ls j hj
        rw [Nat.zero_add]
        exact ⟨by have := ho.cells rfl _ _ r1; rwa [Addr.add_lit, Nat.zero_add] at this, by have := ho.cells rfl _ _ r2; rwa [Addr.add_lit, Nat.zero_add] at this⟩
      have FIN := Lib.hid (And.intro hg0 (And.intro hglt hrow))
      clear ho hg0 hglt hrow HO HG
      go_wp2_with fail
      go_ret
      exact ⟨g, _, rfl, FIN.out.1, FIN.out.2.1, FIN.out.2.2, HR.out⟩

end Go.Proofs.YtfipfoplmopkaaaGreatDoor

namespace Go.Proofs.YtfipfoplmopkaaaGreatDoor
open Go.RowKit

theorem info5n : (Tryz.prog.info? 5).map (fun i => (i.zero, i.size, i.bytes)) = some (some (.int .u8 0), 1, 1) := by kernel_rfl

set_option maxHeartbeats 1000000 in
theorem yoloL_any (v : Value) (s : ByteArray) (w : World) (h : (convert 27 9 v).run Tryz.prog w = .ok (.string s) w) : Calls Tryz.prog 112 #[v] w fun e w' => e = .returned (.string s) ∧ w' = w := by
  go_enter Tryz.func112, Tryz.ntmps112
  go_wp2
  go_ret
  exact ⟨rfl, rfl⟩

theorem RB.fresh {w : World} {g N : Nat} {xs : List Value} (h : w.ownsRow 0 5 1 (.slice (some ⟨g, 0, none⟩) N N) N xs) : RB w g N N [] := by
  refine ⟨fun j hj => ⟨?_, ownsRow_frz h rfl j⟩, by simp, fun j u hu => by simp at hu⟩
  have hl : j < xs.length := by rw [h.1]; omega
  have := h.cells rfl j _ (List.getElem?_eq_getElem hl)
  rw [Addr.add_lit, Nat.zero_add] at this
  rw [this]; rfl

theorem RB.str {w : World} {g N c : Nat} {l : List UInt8} (h : RB w g N 0 l) (s : ByteArray) (hs : s.data.toList = l) : (convert 27 9 (.slice (some ⟨g, 0, none⟩) N c)).run Tryz.prog w = .ok (.string s) w := by
  have hN : N = s.size := by have := h.n; rw [← hs] at this; simpa using this.symm
  rw [hN]
  refine Lib.run_convert_whole w 27 5 9 Tryz.underlying27 Tryz.underlying5 Tryz.underlying9 g 0 s (fun i hi => ?_) c
  have := h.c i s[i] (by
    rw [← hs, List.getElem?_eq_getElem (by simpa using hi)]
    rfl)
  exact this

set_option maxRecDepth 100000 in
set_option maxHeartbeats 2000000 in
theorem new_any (b c n : Nat) (ls : List Lab) (hn : n = ls.length) (hl : LOK ls) (ha : AscL ls) (w : World) (h : RowL w b 0 ls) (hb : b < w.heap.size) :
    Calls Tryz.prog 66 #[.slice (some ⟨b, 0, none⟩) n c] w fun e w' => ∃ D : ByteArray, e = .returned (.agg #[.string D]) ∧ D.data.toList = eLs ls ∧ Kept (fun k _ => w.heap.size ≤ k) w w' := by
  obtain ⟨N, hN⟩ : ∃ N, N = (eLs ls).length := ⟨_, rfl⟩
  have hN9 : N ≤ 512 * 12 := by
    have h1 := eLs_len ls hl.a; have h2 := hl.n; rw [hN]; omega
  have hn9 : n ≤ 12 := by rw [hn]; exact hl.n
  obtain ⟨i5, hi, hz0, hz1, hz2⟩ := info_parts info5n
  obtain ⟨w1, hw1⟩ : ∃ w1, w1 = w.alloc (.cells #[.string ⟨#[]⟩] 73) := ⟨_, rfl⟩
  have k1 : Kept (fun k _ => w.heap.size ≤ k) w w1 := by rw [hw1]; exact (Kept.alloc (fun _ _ => False) _ _).mono (fun _ _ _ e => e.elim)
  have s1 : w1.heap.size = w.heap.size + 1 := by rw [hw1, World.size_alloc]
  have f1 : w1.frozen? ⟨w.heap.size, 0, none⟩ = false := by rw [hw1]; simp
  have c1 : w1.cell? ⟨w.heap.size, 0, none⟩ = some (.string ⟨#[]⟩) := by rw [hw1, World.cell?_alloc_new]; rfl
  have hrow1 : RowL w1 b 0 ls := h.kept k1 (fun _ e => by omega) hb
  have HS := Lib.hid (sortL_any b 0 c n ls hn hn9 ha w1 hrow1 (by omega))
  have HW1 := Lib.hid hw1
  have H := Lib.hid h
  have HN := Lib.hid hn
  have HNN := Lib.hid hN
  have HL := Lib.hid hl
  have K1 := Lib.hid k1
  clear h hn hN hl ha hw1 k1 hrow1
  go_enter Tryz.func66, Tryz.ntmps66
  go_wp2_with fail
  rw [← HW1.out]
  obtain ⟨rb, hrb⟩ : ∃ rb, rb = w.heap.size := ⟨_, rfl⟩
  simp only [← hrb] at c1 f1 s1 hb ⊢
  have HRB := Lib.hid hrb
  clear hrb HW1
  refine HS.out.mono ?_
  rintro e w2 ⟨rfl, k2⟩
  have K2 := Lib.hid (K1.out.trans (k2.mono (fun _ _ _ e => e.elim)) (fun _ _ _ => id))
  have s2 : rb < w2.heap.size := Nat.lt_of_lt_of_le (by omega) k2.size
  have c2 := (k2.cell rb 0 (by omega) id).trans c1
  have f2 := (k2.fr rb 0 (by omega)).trans f1
  have hb2 : b < w2.heap.size := by omega
  have hrow2 : RowL w2 b 0 ls := H.out.kept K2.out (fun _ e => by have := HRB.out; omega) (by have := HRB.out; omega)
  have HSZ := Lib.hid (labelsSize_any b 0 c n ls HN.out HL.out w2 hrow2 hb2)
  clear k2 c1 f1 HS K1 hrow2
  go_wp2_with fail
  refine HSZ.out.mono ?_
  rintro e w3 ⟨rfl, k3⟩
  have K3 := Lib.hid (K2.out.trans (k3.mono (fun _ _ _ e => e.elim)) (fun _ _ _ => id))
  have s3 : rb < w3.heap.size := Nat.lt_of_lt_of_le s2 k3.size
  have c3 := (k3.cell rb 0 s2 id).trans c2
  have f3 := (k3.fr rb 0 s2).trans f2
  rw [← HNN.out]
  clear k3 c2 f2 HSZ K2 s2
  go_wp2_with (at_make; refine wpList_make_full _ rfl _ _ 27 rfl 0 5 i5 (.int .u8 0) 1 Tryz.underlying27 hi hz0 hz1 _ _ _ _ N rfl rfl rfl rfl (by rw [hz2]; omega) (by unfold maxLen; omega) (Nat.zero_le _) ?_)
  intro w4 ho4 hg4
  obtain ⟨g, hgd⟩ : ∃ g, g = w3.heap.size := ⟨_, rfl⟩
  rw [← hgd] at ho4
  simp only [← hgd]
  have k4 : Kept (fun _ _ => False) w3 w4 := Kept.grown hg4 (fun _ _ e => by cases e) (fun _ _ e => by cases e)
  have hr4 : RB w4 g N N [] := RB.fresh ho4
  have hg4' : g < w4.heap.size := (ho4.lt g rfl).2
  have K4 := Lib.hid (K3.out.trans (k4.mono (fun _ _ _ e => e.elim)) (fun _ _ _ => id))
  have hb4 : b < w4.heap.size := by have := k4.size; omega
  have hrow4 : RowL w4 b 0 ls := H.out.kept K4.out (fun _ e => by have := HRB.out; omega) (by have := HRB.out; omega)
  have HM := Lib.hid (marshals_any b 0 c n g N N ls HN.out HL.out HNN.out (Nat.le_refl _) (by omega) (by omega) w4 hrow4 hb4 hr4)
  have c4 := (k4.cell rb 0 s3 id).trans c3
  have f4 := (k4.fr rb 0 s3).trans f3
  have s4 : rb < w4.heap.size := Nat.lt_of_lt_of_le s3 k4.size
  have hgr : rb ≠ g := by omega
  have HGG : Hid (w.heap.size ≤ g) := Lib.hid (by have := HRB.out; omega)
  have HGD := Lib.hid hgd
  clear hg4 ho4 k4 hr4 hrow4 c3 f3 K3 hgd
  go_wp2_with fail
  (with_reducible refine HM.out.mono ?_)
  rintro e w5 ⟨⟨r5, rfl⟩, hr5, k5⟩
  have K5 := Lib.hid (K4.out.trans (k5.mono (fun _ _ _ e => by rw [e]; exact HGG.out)) (fun _ _ _ => id))
  have c5 := (k5.cell rb 0 s4 hgr).trans c4
  have f5 := (k5.fr rb 0 s4).trans f4
  obtain ⟨D, hD⟩ : ∃ D : ByteArray, D.data.toList = eLs ls := ⟨⟨(eLs ls).toArray⟩, by simp⟩
  have HY := Lib.hid (fun c => yoloL_any _ D w5 (hr5.str (c := c) D hD))
  have HD := Lib.hid hD
  clear hr5 k5 c4 f4 HM K4 hD
  go_wp2_with (go_at_call 112; (with_reducible refine (HY.out _).mono ?_); rintro e w' ⟨rfl, rfl⟩)
  refine bodyPost_ret (v := .agg #[.string D]) ?_ rfl ⟨D, rfl, HD.out, K5.out.trans (Kept.setCell (P := fun k _ => w.heap.size ≤ k) _ rb 0 _ (by rw [HRB.out]; exact Nat.le_refl _)) (fun _ _ _ => id)⟩
  have hres : Tryz.f66.results = #[.cell 2 73] := by kernel_rfl
  simp only [results, hres]
  go_simp

end Go.Proofs.YtfipfoplmopkaaaGreatDoor

namespace Go.Proofs.YtfipfoplmopkaaaGreatDoor
open Go.RowKit

def fsL (ls : List Lab) : List (List UInt8) := (ls.map (fun x => [x.1.data.toList, x.2.data.toList])).flatten
theorem fsL_cons (x : Lab) (ls : List Lab) : fsL (x :: ls) = x.1.data.toList :: x.2.data.toList :: fsL ls := by simp [fsL]
theorem fsL_len (ls : List Lab) : (fsL ls).length = 2 * ls.length := by
  induction ls with
  | nil => rfl
  | cons x t ih => rw [fsL_cons]; simp [ih]; omega
theorem eLs_eF (ls : List Lab) : eLs ls = eF (fsL ls) := by
  induction ls with
  | nil => rfl
  | cons x t ih => rw [eLs_cons, fsL_cons, ih]; simp [eL, eF]
theorem fsL_get : ∀ (ls : List Lab) (i : Nat) (h : i < ls.length), (fsL ls).getD (2 * i) [] = (ls[i]'h).1.data.toList ∧ (fsL ls).getD (2 * i + 1) [] = (ls[i]'h).2.data.toList
  | [], i, h => by simp at h
  | x :: t, 0, _ => by rw [fsL_cons]; exact ⟨rfl, rfl⟩
  | x :: t, i + 1, h => by
    have := fsL_get t i (by simpa using h)
    rw [fsL_cons, show 2 * (i + 1) = 2 * i + 2 by omega]
    exact this
theorem LOK.ld {ls : List Lab} (h : LOK ls) {D : ByteArray} (hD : D.data.toList = eLs ls) : LD D (fsL ls) := by
  refine ⟨by rw [hD, eLs_eF], fun s hs => ?_, ?_⟩
  · simp only [fsL, List.mem_flatten, List.mem_map] at hs
    obtain ⟨l, ⟨x, hx, rfl⟩, hs⟩ := hs
    have := h.a x hx
    simp at hs
    rcases hs with rfl | rfl
    · simpa using this.1
    · simpa using this.2
  · have h1 := eLs_len ls h.a
    have h2 := h.n
    have h3 : D.size = (eLs ls).length := by rw [← hD]; simp
    omega

set_option maxRecDepth 100000 in
set_option maxHeartbeats 2000000 in
theorem made_any (b o c n : Nat) (ls : List Lab) (hn : n = ls.length) (hn0 : 0 < n) (hl : LOK ls) (ha : AscL ls) (w : World) (h : RowL w b o ls) (hb : b < w.heap.size) :
    Calls Tryz.prog 24 #[.slice (some ⟨b, o, none⟩) n c] w fun e w' => ∃ D : ByteArray, e = .returned (.agg #[.string D]) ∧ LD D (fsL ls) ∧ Kept (fun k _ => w.heap.size ≤ k) w w' := by
  obtain ⟨w1, hw1⟩ : ∃ w1, w1 = w.alloc (.cells #[.string ⟨#[]⟩] 73) := ⟨_, rfl⟩
  have k1 : Kept (fun k _ => w.heap.size ≤ k) w w1 := by rw [hw1]; exact (Kept.alloc (fun _ _ => False) _ _).mono (fun _ _ _ e => e.elim)
  have s1 : w1.heap.size = w.heap.size + 1 := by rw [hw1, World.size_alloc]
  have f1 : w1.frozen? ⟨w.heap.size, 0, none⟩ = false := by rw [hw1]; simp
  have c1 : w1.cell? ⟨w.heap.size, 0, none⟩ = some (.string ⟨#[]⟩) := by rw [hw1, World.cell?_alloc_new]; rfl
  have hrow1 : RowL w1 b o ls := h.kept k1 (fun _ e => by omega) hb
  have hn9 : n < 1000 := by have := hl.n; omega
  have HP := Lib.hid (pairs_any b o c n ls hn hn0 hn9 w1 hrow1 (by omega))
  have HW1 := Lib.hid hw1
  have HN := Lib.hid hn
  have HL := Lib.hid hl
  have HA := Lib.hid ha
  have K1 := Lib.hid k1
  clear h hn hl ha hw1 k1 hrow1
  go_enter Tryz.func24, Tryz.ntmps24
  go_wp2_with fail
  rw [← HW1.out]
  obtain ⟨rb, hrb⟩ : ∃ rb, rb = w.heap.size := ⟨_, rfl⟩
  simp only [← hrb] at c1 f1 s1 hb ⊢
  have HRB := Lib.hid hrb
  clear hrb HW1
  (with_reducible refine HP.out.mono ?_)
  rintro e w2 ⟨g, gc, rfl, hg1, hg2, hrow, k2⟩
  have K2 := Lib.hid (K1.out.trans (k2.mono (fun _ _ _ e => by have := HRB.out; omega)) (fun _ _ _ => id))
  have s2 : rb < w2.heap.size := Nat.lt_of_lt_of_le (by omega) k2.size
  have c2 := (k2.cell rb 0 (by omega) (by omega)).trans c1
  have f2 := (k2.fr rb 0 (by omega)).trans f1
  have HNW := Lib.hid (new_any g gc n ls HN.out HL.out HA.out w2 hrow hg2)
  clear k2 c1 f1 HP K1 hrow
  go_wp2_with fail
  (with_reducible refine HNW.out.mono ?_)
  rintro e w3 ⟨D, rfl, hD, k3⟩
  have K3 := Lib.hid (K2.out.trans (k3.mono (fun _ _ _ e => by have := HRB.out; omega)) (fun _ _ _ => id))
  have c3 := (k3.cell rb 0 s2 (by omega)).trans c2
  have f3 := (k3.fr rb 0 s2).trans f2
  have HD := Lib.hid (HL.out.ld hD)
  clear k3 hD c2 f2 HNW K2
  go_wp2
  refine bodyPost_ret (v := .agg #[.string D]) ?_ rfl ⟨D, rfl, HD.out, K3.out.trans (Kept.setCell (P := fun k _ => w.heap.size ≤ k) _ rb 0 _ (by rw [HRB.out]; exact Nat.le_refl _)) (fun _ _ _ => id)⟩
  have hres : Tryz.f24.results = #[.cell 2 73] := by kernel_rfl
  simp only [results, hres]
  go_simp

/-- What Validate asks of the function value that it calls: from round k to round k + 1, or an error. -/
def ValC (x : Value) (ls : List Lab) (Inv : Nat → World → Prop) (Bad : World → Prop) : Prop :=
  ∀ (k : Nat) (h : k < ls.length) (X Y : ByteArray) (w : World), X.data.toList = (ls[k]'h).1.data.toList → Y.data.toList = (ls[k]'h).2.data.toList → Inv k w →
    Calls Tryz.prog 62 #[.agg #[.string X, .string Y], x] w fun e w' => (e = .returned .nilIface ∧ Inv (k + 1) w') ∨ ((∃ t v, e = .returned (.iface t v)) ∧ Bad w')

set_option maxRecDepth 100000 in
set_option maxHeartbeats 2000000 in
theorem validate_any (D : ByteArray) (ls : List Lab) (hD : LD D (fsL ls)) (x : Value) (Inv : Nat → World → Prop) (Bad : World → Prop) (hc : ValC x ls Inv Bad) (w : World) (hi : Inv 0 (w.alloc (.cells #[.string D] 73))) (hcell : ∀ k w', Inv k w' → w'.cell? ⟨w.heap.size, 0, none⟩ = some (.string D)) :
    Calls Tryz.prog 61 #[.agg #[.string D], .func (.func 62) #[] #[x]] w fun e w' => (e = .returned .nilIface ∧ Inv ls.length w') ∨ ((∃ t v, e = .returned (.iface t v)) ∧ Bad w') := by
  obtain ⟨n, hn⟩ : ∃ n, n = ls.length := ⟨_, rfl⟩
  have hfl := fsL_len ls
  rw [← hn] at hfl ⊢
  have hsz := hD.n
  have hn9 : n < 10000000 := by
    have h1 := eF_len_le (fsL ls)
    rw [← hD.size] at h1; omega
  have HD := Lib.hid hD
  have HC := Lib.hid hc
  have HI := Lib.hid hi
  have HCELL := Lib.hid hcell
  have HN := Lib.hid hn
  have HFL := Lib.hid hfl
  clear hD hc hi hcell hn hfl
  go_enter Tryz.func61, Tryz.ntmps61
  go_wp2_with fail
  obtain ⟨gb, hgb⟩ : ∃ gb, gb = w.heap.size := ⟨_, rfl⟩
  rw [← hgb] at HCELL
  simp only [← hgb]
  clear hgb
  go_loopw [5] (fun y wr => ∃ k : Nat, k ≤ n ∧ y = .int .i64 (ix (fsL ls) (2 * k) : Nat) ∧ Hid (Inv k wr)) (fun y _ => D.size - (intOf y).toNat)
  case atStart => exact ⟨0, Nat.zero_le _, rfl, HI⟩
  case round =>
    obtain ⟨k, hk, rfl, HK⟩ := hrel
    have c0 := HCELL.out k wr HK.out
    by_cases hlt : k < n
    · obtain ⟨p1, p2, p3, p4, p5, p6⟩ := HD.out.af (show 2 * k < (fsL ls).length by rw [HFL.out]; omega)
      obtain ⟨q1, q2, q3, q4, q5, q6⟩ := HD.out.af (show 2 * k + 1 < (fsL ls).length by rw [HFL.out]; omega)
      obtain ⟨g1, g2⟩ := fsL_get ls k (by rw [← HN.out]; exact hlt)
      rw [g1] at p6
      rw [g2] at q6
      rw [p3] at p4 q1 q2 q3 q6
      have e2 : ix (fsL ls) (2 * (k + 1)) = ix (fsL ls) (2 * k) + 1 + fl (fsL ls) (2 * k) + 1 + fl (fsL ls) (2 * k + 1) := q3
      rw [q3] at q4
      obtain ⟨a, ha⟩ : ∃ a, ix (fsL ls) (2 * k) = a := ⟨_, rfl⟩
      obtain ⟨n1, hn1⟩ : ∃ n, fl (fsL ls) (2 * k) = n := ⟨_, rfl⟩
      obtain ⟨n2, hn2⟩ : ∃ n, fl (fsL ls) (2 * k + 1) = n := ⟨_, rfl⟩
      rw [ha, hn1] at p4 p6 q1 q2 q4 q6 e2
      rw [ha] at p1 p2
      rw [hn1] at p2 p5
      rw [hn2] at q2 q4 q5 q6 e2
      have D1 := Lib.hid (fun w => decStr_any D a n1 w (by omega) p2 p5 (by omega))
      have D20 := fun w => decStr_any D (a + 1 + n1) n2 w (by omega) q2 q5 (by omega)
      obtain ⟨X, hX⟩ : ∃ X, X = D.extract (a + 1) (a + 1 + n1) := ⟨_, rfl⟩
      obtain ⟨Y, hY⟩ : ∃ Y, Y = D.extract (a + 1 + n1 + 1) (a + 1 + n1 + 1 + n2) := ⟨_, rfl⟩
      rw [← hX] at D1 p6
      rw [← hY] at D20 q6
      rw [show ((a + 1 + n1 : Nat) : Int) = (a : Int) + 1 + n1 by omega] at D20
      have D2 := Lib.hid D20
      have hV := Lib.hid (HC.out k (by rw [← HN.out]; exact hlt) X Y wr p6 q6 HK.out)
      have hin : a + 1 + n1 + 1 + n2 < 20000000 := by omega
      have haI : (a : Int) < D.size := by omega
      have E2 := Lib.hid e2
      rw [ha]
      clear p1 p2 p3 p4 p5 p6 q1 q2 q3 q4 q5 q6 g1 g2 e2 hX hY D20 ha hn1 hn2
      go_wp2_with (first | (go_at_call 103; (with_reducible refine (D1.out _).mono ?_); rintro e w' ⟨rfl, rfl⟩) | (go_at_call 103; (with_reducible refine (D2.out _).mono ?_); rintro e w' ⟨rfl, rfl⟩))
      (with_reducible refine hV.out.mono ?_)
      rintro e w2 (⟨rfl, hi'⟩ | ⟨⟨t, v, rfl⟩, hb⟩)
      · have HI' := Lib.hid hi'
        clear hi'
        go_wp2_with fail
        go_roundw
        case rel => exact ⟨k + 1, by omega, by rw [E2.out]; go_num, HI'⟩
        case measure => simp only [intOf]; omega
      · have HB := Lib.hid hb
        clear hb
        go_wp2_with fail
        go_ret
        exact Or.inr ⟨⟨t, v, rfl⟩, HB.out⟩
    · obtain rfl : k = n := by omega
      have hix : ix (fsL ls) (2 * k) = D.size := by rw [← HFL.out, ix_end, HD.out.size]
      rw [hix]
      have hL : ¬ (D.size : Int) < D.size := by omega
      clear hix
      go_wp2_with fail
      go_ret
      exact Or.inl ⟨rfl, HK.out⟩

end Go.Proofs.YtfipfoplmopkaaaGreatDoor

namespace Go.Proofs.YtfipfoplmopkaaaGreatDoor
open Go.RowKit

def cBit (p y : Int) : Int := if bits .and .u32 y 1 = 1 then bits .xor .u32 (y / 2) p else y / 2
def cN (p y : Int) : Nat → Int
  | 0 => y
  | k + 1 => cBit p (cN p y k)
def crcN (p c : Int) (l : List UInt8) : Int := l.foldl (fun y b => cN p (bits .xor .u32 y b.toNat) 8) c
/-- The sum behind some bytes. -/
def crcF (p c : Int) (l : List UInt8) : Int := bits .xor .u32 IntKind.u32.max (crcN p (bits .xor .u32 IntKind.u32.max c) l)

theorem xor_in (a b : Int) : 0 ≤ bits .xor .u32 a b ∧ bits .xor .u32 a b ≤ 4294967295 := by
  have h := bits_within .xor .u32 a b
  exact ⟨h.1, h.2⟩
theorem cBit_in (p : Int) {y : Int} (h0 : 0 ≤ y) (h1 : y ≤ 4294967295) : 0 ≤ cBit p y ∧ cBit p y ≤ 4294967295 := by
  unfold cBit
  split
  · exact xor_in _ _
  · omega
theorem cN_in (p : Int) {y : Int} (h0 : 0 ≤ y) (h1 : y ≤ 4294967295) : ∀ k, 0 ≤ cN p y k ∧ cN p y k ≤ 4294967295
  | 0 => ⟨h0, h1⟩
  | k + 1 => cBit_in p (cN_in p h0 h1 k).1 (cN_in p h0 h1 k).2
theorem crcN_snoc (p c : Int) (l : List UInt8) (b : UInt8) : crcN p c (l ++ [b]) = cN p (bits .xor .u32 (crcN p c l) b.toNat) 8 := by simp [crcN]
theorem crcF_in (p c : Int) (l : List UInt8) : 0 ≤ crcF p c l ∧ crcF p c l ≤ 4294967295 := xor_in _ _

set_option maxHeartbeats 800000 in
theorem update_any (tb : Nat) (poly c : Int) (ao : Option Addr) (n cap : Nat) (l : List UInt8) (w : World) (hl : l.length = n) (hn : n < 1000000000000) (hp : w.cell? ⟨tb, 0, none⟩ = some (.int .u32 poly))
    (hc : ∀ j u, l[j]? = some u → ∃ ad, ao = some ad ∧ w.cell? (ad.add j) = some (bV u)) :
    Calls Tryz.prog 159 #[.int .u32 c, .pointer (some ⟨tb, 0, none⟩), .slice ao n cap] w fun e w' => e = .returned (.int .u32 (crcF poly c l)) ∧ w = w' := by
  have HC := Lib.hid hc
  have HL := Lib.hid hl
  clear hc hl
  unfold crcF
  obtain ⟨c1, hc1'⟩ : ∃ c1, c1 = bits .xor .u32 IntKind.u32.max c := ⟨_, rfl⟩
  have hx := xor_in IntKind.u32.max c
  have h1 := Lib.hid hc1'
  go_enter Tryz.func159, Tryz.ntmps159
  go_wp2
  rw [← h1.out] at hx ⊢
  clear hc1'
  go_loop [0, 13, 8, 21] (fun x i _ _ => ∃ (k : Nat) (y : Int), k ≤ n ∧ i = .int .i64 k ∧ x = .int .u32 y ∧ 0 ≤ y ∧ y ≤ 4294967295 ∧ y = crcN poly c1 (l.take k)) (fun _ i _ _ => n - (intOf i).toNat)
  case atStart => exact ⟨0, c1, Nat.zero_le _, rfl, rfl, hx.1, hx.2, rfl⟩
  case round =>
    obtain ⟨k, y, hk, rfl, rfl, hy0, hy1, hyk0⟩ := hrel
    have hyk := Lib.hid hyk0
    clear hyk0
    by_cases hlt : k < n
    · have hkl : k < l.length := by rw [HL.out]; exact hlt
      obtain ⟨u, hu0⟩ : ∃ u, u = l[k] := ⟨_, rfl⟩
      obtain ⟨ad, rfl, hb⟩ := HC.out k u (by rw [hu0]; simp [hkl])
      unfold bV at hb
      have hub : u.toNat < 256 := UInt8.toNat_lt _
      have hu := Lib.hid hu0
      have hts : crcN poly c1 (l.take (k + 1)) = cN poly (bits .xor .u32 y u.toNat) 8 := by
        rw [List.take_succ_eq_append_getElem hkl, crcN_snoc, ← hyk.out, ← hu.out]
      have HS := Lib.hid hts
      clear hts hu0
      have hz := xor_in y u.toNat
      obtain ⟨z, hz0⟩ : ∃ z, z = bits .xor .u32 y u.toNat := ⟨_, rfl⟩
      have HZ := Lib.hid hz0
      rw [← hz0] at hz
      clear hz0
      go_wp2
      rw [← HZ.out]
      go_loop [0, 21] (fun x i => ∃ (k : Nat), k ≤ 8 ∧ i = .int .i64 k ∧ x = .int .u32 (cN poly z k)) (fun _ i => 8 - (intOf i).toNat)
      case atStart => exact ⟨0, by omega, rfl, rfl⟩
      case round =>
        obtain ⟨j, hj, rfl, rfl⟩ := hrel
        have hq := cN_in poly hz.1 hz.2 j
        obtain ⟨q, hq0⟩ : ∃ q, q = cN poly z j := ⟨_, rfl⟩
        rw [← hq0] at hq ⊢
        have HQ := Lib.hid hq0
        clear hq0
        have e8 : cN poly z (j + 1) = cBit poly q := by rw [HQ.out]; rfl
        have H8 := Lib.hid e8
        clear e8
        by_cases hj8 : j < 8
        · by_cases hbit : bits .and .u32 q 1 = 1
          · have hbb : (bits .and .u32 q 1 == 1) = true := by simp [hbit]
            go_wp2
            go_round
            case rel => exact ⟨j + 1, by omega, by go_num, by rw [H8.out]; simp [cBit, hbit]⟩
            case measure => simp [intOf]; omega
          · have hbb : (bits .and .u32 q 1 == 1) = false := by simp [hbit]
            go_wp2
            go_round
            case rel => exact ⟨j + 1, by omega, by go_num, by rw [H8.out]; simp [cBit, hbit]⟩
            case measure => simp [intOf]; omega
        · obtain rfl : j = 8 := by omega
          go_wp2
          go_round
          case rel => exact ⟨k + 1, q, by omega, by go_num, rfl, hq.1, hq.2, by rw [HS.out, HQ.out, HZ.out]⟩
          case measure => simp [intOf]; omega
    · go_wp2
      go_ret
      obtain rfl : k = n := by omega
      exact ⟨by rw [hyk.out, List.take_of_length_le (by rw [HL.out]; exact Nat.le_refl _), h1.out]; rfl, rfl⟩

end Go.Proofs.YtfipfoplmopkaaaGreatDoor

namespace Go.Proofs.YtfipfoplmopkaaaGreatDoor
open Go.RowKit
theorem ahead_write (a : Addr) (w : World) : (nilAhead 482 284 (.pointer (some a)) "Write").run Tryz.prog w = .ok (some false) w := by kernel_rfl
theorem method_write (a : Addr) (w : World) : (method 482 284 (.pointer (some a)) "Write").run Tryz.prog w = .ok (291, .pointer (some a)) w := by kernel_rfl
theorem ahead_sum (a : Addr) (w : World) : (nilAhead 482 284 (.pointer (some a)) "Sum").run Tryz.prog w = .ok (some false) w := by kernel_rfl
theorem method_sum (a : Addr) (w : World) : (method 482 284 (.pointer (some a)) "Sum").run Tryz.prog w = .ok (289, .pointer (some a)) w := by kernel_rfl
theorem ahead_reset (a : Addr) (w : World) : (nilAhead 482 284 (.pointer (some a)) "Reset").run Tryz.prog w = .ok (some false) w := by kernel_rfl
theorem method_reset (a : Addr) (w : World) : (method 482 284 (.pointer (some a)) "Reset").run Tryz.prog w = .ok (287, .pointer (some a)) w := by kernel_rfl

/-- The digest at dg, its table at tb. -/
structure DG (w : World) (dg tb : Nat) : Prop where
  c : ∃ c : Int, w.cell? ⟨dg, 0, none⟩ = some (.int .u32 c) ∧ 0 ≤ c ∧ c ≤ 4294967295
  t : w.cell? ⟨dg, 1, none⟩ = some (.pointer (some ⟨tb, 0, none⟩))
  f : w.frozen? ⟨dg, 0, none⟩ = false
  p : ∃ p : Int, w.cell? ⟨tb, 0, none⟩ = some (.int .u32 p)
  ne : tb ≠ dg

def dgP (dg : Nat) (k off : Nat) : Prop := k = dg ∧ off = 0

theorem DG.lt {w : World} {dg tb : Nat} (h : DG w dg tb) : dg < w.heap.size := World.block_lt_of_cell? _ _ h.t
theorem DG.ltb {w : World} {dg tb : Nat} (h : DG w dg tb) : tb < w.heap.size := by obtain ⟨p, hp⟩ := h.p; exact World.block_lt_of_cell? _ _ hp
theorem DG.kept {w w' : World} {dg tb : Nat} {P : Nat → Nat → Prop} (h : DG w dg tb) (hk : Kept P w w') (h1 : ∀ o, ¬ P dg o) (h2 : ∀ o, ¬ P tb o) : DG w' dg tb := by
  obtain ⟨c, hc, h0, h3⟩ := h.c
  obtain ⟨p, hp⟩ := h.p
  exact ⟨⟨c, (hk.cell _ _ h.lt (h1 0)).trans hc, h0, h3⟩, (hk.cell _ _ h.lt (h1 1)).trans h.t, (hk.fr _ _ h.lt).trans h.f, ⟨p, (hk.cell _ _ h.ltb (h2 0)).trans hp⟩, h.ne⟩
theorem DG.drew {w : World} {dg tb : Nat} (h : DG w dg tb) : DG w.drew dg tb := ⟨h.c, h.t, h.f, h.p, h.ne⟩
theorem DG.set {w : World} {dg tb : Nat} (h : DG w dg tb) (c : Int) (h0 : 0 ≤ c) (h1 : c ≤ 4294967295) : DG (w.setCell ⟨dg, 0, none⟩ (.int .u32 c)) dg tb ∧ Kept (dgP dg) w (w.setCell ⟨dg, 0, none⟩ (.int .u32 c)) := by
  obtain ⟨c0, hc, _⟩ := h.c
  obtain ⟨p, hp⟩ := h.p
  refine ⟨⟨⟨c, World.cell?_setCell_same _ _ _ hc, h0, h1⟩, ?_, by rw [World.frozen?_setCell]; exact h.f, ⟨p, ?_⟩, h.ne⟩, Kept.setCell _ _ _ _ ⟨rfl, rfl⟩⟩
  · rw [World.cell?_setCell_other _ _ _ _ (by simp)]; exact h.t
  · rw [World.cell?_setCell_other _ _ _ _ (by simp; exact fun e => h.ne e.symm)]; exact hp

theorem dReset_any (dg tb : Nat) (w : World) (h : DG w dg tb) :
    Calls Tryz.prog 287 #[.pointer (some ⟨dg, 0, none⟩)] w fun e w' => e = .returned (.tuple #[]) ∧ DG w' dg tb ∧ Kept (dgP dg) w w' := by
  obtain ⟨c, h0, _⟩ := h.c
  have f0 := h.f
  have H := Lib.hid h
  clear h
  go_enter Tryz.func287, Tryz.ntmps287
  go_wp2
  go_end0
  exact ⟨rfl, H.out.set 0 (by omega) (by omega)⟩

theorem dWrite_any (dg tb : Nat) (ao : Option Addr) (n cap : Nat) (l : List UInt8) (w : World) (h : DG w dg tb) (hl : l.length = n) (hn : n < 1000000000)
    (hc : ∀ j u, l[j]? = some u → ∃ ad, ao = some ad ∧ w.cell? (ad.add j) = some (bV u)) :
    Calls Tryz.prog 291 #[.pointer (some ⟨dg, 0, none⟩), .slice ao n cap] w fun e w' => e = .returned (.tuple #[.int .i64 n, .nilIface]) ∧ DG w' dg tb ∧ Kept (dgP dg) w w' := by
  obtain ⟨c, h0, hc0, hc1⟩ := h.c
  obtain ⟨p, hp⟩ := h.p
  have f0 := h.f
  have h1 := h.t
  have H := Lib.hid h
  have HC := Lib.hid hc
  have HL := Lib.hid hl
  clear h hc hl
  go_enter Tryz.func291, Tryz.ntmps291
  go_wp2
  go_region_with (go_at_call 159; refine (update_any tb p c ao n cap l w.drew HL.out (by omega) hp (fun j u hj => HC.out j u hj)).mono ?_; rintro e w' ⟨rfl, rfl⟩)
  all_goals
    go_wp2
    go_ret2
    have hin := crcF_in p c l
    exact ⟨rfl, (H.out.drew.set _ hin.1 hin.2).1, (Kept.drew _ w).trans (H.out.drew.set _ hin.1 hin.2).2 (fun _ _ _ => id)⟩

set_option maxRecDepth 100000 in
/-- Four bytes behind a slice of bytes of the caller's own. -/
theorem dSum_any (dg tb : Nat) (v : Value) (g : Option Nat) (l : List UInt8) (w : World) (h : DG w dg tb) (hb : Bf w v g l) (hl : l.length < 1000000000) :
    Calls Tryz.prog 289 #[.pointer (some ⟨dg, 0, none⟩), v] w fun e w' => ∃ (k : List UInt8) (v' : Value), k.length = 4 ∧ e = .returned v' ∧ App (w.alloc (.cells (bVs k).toArray 5)) w' 5 1 v v' (l.length + k.length) (bVs l ++ bVs k) := by
  obtain ⟨c, h0, hc0, hc1⟩ := h.c
  obtain ⟨x, rfl⟩ : ∃ x : Nat, c = x := ⟨c.toNat, by omega⟩
  have HK := Lib.hid (be32_vs x (by omega))
  obtain ⟨ao, cap, rfl⟩ := own_slice hb.1
  have HB := Lib.hid hb
  clear h hb
  go_enter Tryz.func289, Tryz.ntmps289
  go_wp2_with (at_builtin; refine wpList_appB _ rfl _ _ rfl _ g l (be32 x) rfl ⟨HB.out.1.alloc _, HB.out.2⟩ (some ⟨w.heap.size, 0, none⟩) 4 4 rfl rfl ?c0 ?c1 ?c2 ?_)
  case c0 => intro e; cases e
  case c1 =>
    intro ad e j u hj
    cases e
    rw [Addr.add_lit, Nat.zero_add, World.cell?_alloc_new]
    have : (bVs (be32 x))[j]? = some (bV u) := by simp [bVs, hj]
    rw [HK.out] at this
    simpa using this
  case c2 => omega
  intro v' w' ha
  obtain ⟨ao', c', rfl⟩ := own_slice ha.own
  have HA := Lib.hid ha
  clear ha
  go_wp2
  go_ret
  exact ⟨be32 x, _, rfl, rfl, by rw [HK.out] at *; exact HA.out⟩

end Go.Proofs.YtfipfoplmopkaaaGreatDoor
