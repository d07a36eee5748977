/- NewWriterWithEncoder(92), NewWriter(51), ZZWriter(21). No condition. -/
import Derived.Test.YtfipfoplmopkaaaGreatDoorZ46

namespace Go.Proofs.YtfipfoplmopkaaaGreatDoor
open Go.RowKit Go.Maps

theorem NW.drew {w : World} {fb pb ob m1 m2 tb dg wb : Nat} (h : NW w fb pb ob m1 m2 tb dg wb) : NW w.drew fb pb ob m1 m2 tb dg wb :=
  ⟨h.hf, h.hp, h.ho, h.h1, h.h2, h.ht, h.hd, h.hw, h.ne⟩

set_option maxRecDepth 100000 in
set_option maxHeartbeats 8000000 in
theorem newWE_any (s : ByteArray) (hs : s.size < 1000) (w : World) : Calls Tryz.prog 92 #[.agg #[], .string s, .func (.func 80) #[] #[]] w fun e w' => ∃ G, e = .returned (.tuple #[.pointer (some ⟨G.wb, 0, none⟩), .nilIface]) ∧ P1 w' G [] ∧ Kept (fun _ _ => False) w w' ∧ ∀ k, k < w.heap.size → G.T k = 0 := by
  have hmm := @run_makeMap Tryz.prog
  have hz : ∀ (A : Array Value), Array.foldl (fun (cs : Array Value) (x : Value × Nat) => cs.setIfInBounds x.snd x.fst) A ((#[] : Array Value).zipIdx 0) 0 0 = A := fun A => rfl
  go_enter Tryz.func92, Tryz.ntmps92
  go_wp2_with (first | (go_at_call 123; refine (newFW_any _ _).mono ?_; rintro e w' ⟨rfl, rfl⟩))
  obtain ⟨n0, hn0⟩ : ∃ n0, n0 = w.heap.size := ⟨_, rfl⟩
  obtain ⟨w4, hw4⟩ : ∃ w4, w4 = (((w.alloc (.cells #[] 105)).alloc (.cells #[.slice none 0 0, .int .u64 0, .string s] 127)).alloc (.cells #[.slice none 0 0, .int .u64 0, .string (s ++ ⟨#[95, 116, 109, 112, 95, 112]⟩)] 127)).alloc (.cells #[.slice none 0 0, .int .u64 0, .string (s ++ ⟨#[95, 116, 109, 112, 95, 112, 111]⟩)] 127) := ⟨_, rfl⟩
  rw [← hw4]
  have s4 : w4.heap.size = w.heap.size + 4 := by rw [hw4]; simp [World.size_alloc]
  have HW4 := Lib.hid hw4
  have S4 := Lib.hid s4
  clear hw4 s4
  simp only [← hn0]
  have HN0 := Lib.hid hn0
  clear hn0
  have hnf : NF w4 n0 := by
    rw [HW4.out, HN0.out]
    obtain ⟨a1, a2, a3, a4, _, _⟩ := a5 w (.cells #[] 105) (.cells #[.slice none 0 0, .int .u64 0, .string s] 127) (.cells #[.slice none 0 0, .int .u64 0, .string (s ++ ⟨#[95, 116, 109, 112, 95, 112]⟩)] 127) (.cells #[.slice none 0 0, .int .u64 0, .string (s ++ ⟨#[95, 116, 109, 112, 95, 112, 111]⟩)] 127) mpO
    have hk : ∀ k, k < w.heap.size + 4 → ((((w.alloc (.cells #[] 105)).alloc (.cells #[.slice none 0 0, .int .u64 0, .string s] 127)).alloc (.cells #[.slice none 0 0, .int .u64 0, .string (s ++ ⟨#[95, 116, 109, 112, 95, 112]⟩)] 127)).alloc (.cells #[.slice none 0 0, .int .u64 0, .string (s ++ ⟨#[95, 116, 109, 112, 95, 112, 111]⟩)] 127)).heap[k]? = (((((w.alloc (.cells #[] 105)).alloc (.cells #[.slice none 0 0, .int .u64 0, .string s] 127)).alloc (.cells #[.slice none 0 0, .int .u64 0, .string (s ++ ⟨#[95, 116, 109, 112, 95, 112]⟩)] 127)).alloc (.cells #[.slice none 0 0, .int .u64 0, .string (s ++ ⟨#[95, 116, 109, 112, 95, 112, 111]⟩)] 127)).alloc mpO).heap[k]? := fun k hk => (heap_alloc_old _ _ (by simp only [World.size_alloc]; omega)).symm
    exact ⟨⟨_, (hk _ (by omega)).trans a2⟩, ⟨_, (hk _ (by omega)).trans a3⟩, ⟨_, (hk _ (by omega)).trans a4⟩, by simp only [World.size_alloc]⟩
  have hkw : Kept (fun _ _ => False) w w4 := by
    rw [HW4.out]
    exact ((((Kept.alloc _ _ _).trans (Kept.alloc _ _ _) (fun _ _ _ => id)).trans (Kept.alloc _ _ _) (fun _ _ _ => id)).trans (Kept.alloc _ _ _) (fun _ _ _ => id))
  have FIN : Hid (∀ (w5 w6 : World) (m1 m2 tb dg : Nat) (G : Gh), Kept (fun _ _ => False) w4 w5 → w4.heap.size ≤ m1 → w4.heap.size ≤ m2 → w4.heap.size ≤ tb → w4.heap.size ≤ dg → Kept (fun k _ => newT (n0 + 1) (n0 + 1 + 1) (n0 + 1 + 1 + 1) m1 m2 tb dg (w4.heap.size + 1 + 1 + 1 + 1) k ≠ 0) w5 w6 → (∀ k, k < w5.heap.size → G.T k = newT (n0 + 1) (n0 + 1 + 1) (n0 + 1 + 1 + 1) m1 m2 tb dg (w4.heap.size + 1 + 1 + 1 + 1) k) → Kept (fun _ _ => False) w w6 ∧ ∀ k, k < w.heap.size → G.T k = 0) := Lib.hid (fun w5 w6 m1 m2 tb dg G k5 b1 b2 b3 b4 k6 hT => by
    have hs := S4.out
    have hn := HN0.out
    have z : ∀ k, k < w.heap.size → newT (n0 + 1) (n0 + 1 + 1) (n0 + 1 + 1 + 1) m1 m2 tb dg (w4.heap.size + 1 + 1 + 1 + 1) k = 0 := fun k hk => by
      unfold newT
      rw [if_neg (by omega), if_neg (by omega), if_neg (by omega), if_neg (by omega), if_neg (by omega), if_neg (by omega), if_neg (by omega), if_neg (by omega)]
    have kk := hkw.trans k5 (fun _ _ _ => id)
    exact ⟨kk.trans k6 (fun k _ hk hne => hne (z k hk)), fun k hk => (hT k (Nat.lt_of_lt_of_le hk kk.size)).trans (z k hk)⟩)
  have NFH := Lib.hid hnf
  have SZ := Lib.hid hnf.sz
  clear hnf hkw HW4
  go_region_held3 (fun _ => True) (exact trivial) (first | (go_at_call 124; (with_reducible refine (newCRC_any _).mono ?_); rintro e w' ⟨rfl, rfl⟩))
  all_goals go_wp2_with fail
  · refine (NW.meta1 (NW.drew (nwMMTD NFH.out (Or.inl ⟨rfl, rfl⟩)))).mono ?_
    rintro e w6 ⟨rfl, G, hwb, hp, hk, hT⟩
    have HF := Lib.hid (FIN.out _ _ _ _ _ _ G ((kept5 _ _ _ _ _ _).trans (Kept.drew _ _) (fun _ _ _ => id)) (by omega) (by omega) (by omega) (by omega) hk hT)
    have HP := Lib.hid (And.intro hwb hp)
    clear hwb hp hk hT
    go_wp2_with fail
    go_ret2
    exact ⟨G, (by rw [HP.out.1]; rfl), HP.out.2, HF.out.1, HF.out.2⟩
  · refine (NW.meta1 (NW.drew (nwMTDM NFH.out (Or.inl ⟨rfl, rfl⟩)))).mono ?_
    rintro e w6 ⟨rfl, G, hwb, hp, hk, hT⟩
    have HF := Lib.hid (FIN.out _ _ _ _ _ _ G ((kept5 _ _ _ _ _ _).trans (Kept.drew _ _) (fun _ _ _ => id)) (by omega) (by omega) (by omega) (by omega) hk hT)
    have HP := Lib.hid (And.intro hwb hp)
    clear hwb hp hk hT
    go_wp2_with fail
    go_ret2
    exact ⟨G, (by rw [HP.out.1]; rfl), HP.out.2, HF.out.1, HF.out.2⟩
  · refine (NW.meta1 (NW.drew (nwMMTD NFH.out (Or.inr ⟨rfl, rfl⟩)))).mono ?_
    rintro e w6 ⟨rfl, G, hwb, hp, hk, hT⟩
    have HF := Lib.hid (FIN.out _ _ _ _ _ _ G ((kept5 _ _ _ _ _ _).trans (Kept.drew _ _) (fun _ _ _ => id)) (by omega) (by omega) (by omega) (by omega) hk hT)
    have HP := Lib.hid (And.intro hwb hp)
    clear hwb hp hk hT
    go_wp2_with fail
    go_ret2
    exact ⟨G, (by rw [HP.out.1]; rfl), HP.out.2, HF.out.1, HF.out.2⟩
  · refine (NW.meta1 (NW.drew (nwMTDM NFH.out (Or.inr ⟨rfl, rfl⟩)))).mono ?_
    rintro e w6 ⟨rfl, G, hwb, hp, hk, hT⟩
    have HF := Lib.hid (FIN.out _ _ _ _ _ _ G ((kept5 _ _ _ _ _ _).trans (Kept.drew _ _) (fun _ _ _ => id)) (by omega) (by omega) (by omega) (by omega) hk hT)
    have HP := Lib.hid (And.intro hwb hp)
    clear hwb hp hk hT
    go_wp2_with fail
    go_ret2
    exact ⟨G, (by rw [HP.out.1]; rfl), HP.out.2, HF.out.1, HF.out.2⟩
  · refine (NW.meta1 (NW.drew (nwTDMM NFH.out (Or.inl ⟨rfl, rfl⟩)))).mono ?_
    rintro e w6 ⟨rfl, G, hwb, hp, hk, hT⟩
    have HF := Lib.hid (FIN.out _ _ _ _ _ _ G ((kept5 _ _ _ _ _ _).trans (Kept.drew _ _) (fun _ _ _ => id)) (by omega) (by omega) (by omega) (by omega) hk hT)
    have HP := Lib.hid (And.intro hwb hp)
    clear hwb hp hk hT
    go_wp2_with fail
    go_ret2
    exact ⟨G, (by rw [HP.out.1]; rfl), HP.out.2, HF.out.1, HF.out.2⟩
  · refine (NW.meta1 (NW.drew (nwTDMM NFH.out (Or.inr ⟨rfl, rfl⟩)))).mono ?_
    rintro e w6 ⟨rfl, G, hwb, hp, hk, hT⟩
    have HF := Lib.hid (FIN.out _ _ _ _ _ _ G ((kept5 _ _ _ _ _ _).trans (Kept.drew _ _) (fun _ _ _ => id)) (by omega) (by omega) (by omega) (by omega) hk hT)
    have HP := Lib.hid (And.intro hwb hp)
    clear hwb hp hk hT
    go_wp2_with fail
    go_ret2
    exact ⟨G, (by rw [HP.out.1]; rfl), HP.out.2, HF.out.1, HF.out.2⟩

set_option maxRecDepth 100000 in
set_option maxHeartbeats 2000000 in
theorem newW_any (s : ByteArray) (hs : s.size < 1000) (w : World) : Calls Tryz.prog 51 #[.agg #[], .string s] w fun e w' => ∃ G, e = .returned (.tuple #[.pointer (some ⟨G.wb, 0, none⟩), .nilIface]) ∧ P1 w' G [] ∧ Kept (fun _ _ => False) w w' ∧ ∀ k, k < w.heap.size → G.T k = 0 := by
  have HW := Lib.hid (newWE_any s hs (w.alloc (.cells #[] 105)))
  go_enter Tryz.func51, Tryz.ntmps51
  go_wp2_with fail
  (with_reducible refine HW.out.mono ?_)
  rintro e w2 ⟨G, rfl, hp, hk, hT⟩
  have HP := Lib.hid (And.intro hp (And.intro hk hT))
  clear hp hk hT HW
  go_wp2_with fail
  go_ret2
  exact ⟨G, rfl, HP.out.1, (Kept.alloc _ _ _).trans HP.out.2.1 (fun _ _ _ => id), fun k hk => HP.out.2.2 k (by rw [World.size_alloc]; omega)⟩

set_option maxRecDepth 100000 in
set_option maxHeartbeats 2000000 in
theorem zzWriter_any (w : World) : Calls Tryz.prog 21 #[] w fun e w' => ∃ G, e = .returned (.tuple #[.pointer (some ⟨G.wb, 0, none⟩), .nilIface]) ∧ P1 w' G [] ∧ Kept (fun _ _ => False) w w' ∧ ∀ k, k < w.heap.size → G.T k = 0 := by
  have HB := Lib.hid (background_any w)
  have HW := Lib.hid (newW_any ⟨#[105, 110, 100, 101, 120]⟩ (by decide) (w.alloc (.cells #[] 105)))
  go_enter Tryz.func21, Tryz.ntmps21
  go_wp2_with fail
  (with_reducible refine HB.out.mono ?_)
  rintro e w1 ⟨rfl, rfl⟩
  go_wp2_with fail
  (with_reducible refine HW.out.mono ?_)
  rintro e w2 ⟨G, rfl, hp, hk, hT⟩
  have HP := Lib.hid (And.intro hp (And.intro hk hT))
  clear hp hk hT HW
  go_wp2_with fail
  go_ret2
  exact ⟨G, rfl, HP.out.1, (Kept.alloc _ _ _).trans HP.out.2.1 (fun _ _ _ => id), fun k hk => HP.out.2.2 k (by rw [World.size_alloc]; omega)⟩

end Go.Proofs.YtfipfoplmopkaaaGreatDoor
