/- indexFew's great condition, at some of its outcomes: printed by genT5.py. Conditions: the cells, the callees' answers. Rows of numbers: refs(74), unrefs(72). Condition: less than 1000 numbers, one at least. Printed by genW1.py. Postings of lists: the methods of ListPostings (243, 244, 246), NewListPostings(73). Condition: the struct in memory. -/
import Derived.Test.YtfipfoplmopkaaaGreatDoorZ01

namespace Go.Proofs.YtfipfoplmopkaaaGreatDoor
open Go.RowKit

set_option maxRecDepth 1000000 in
set_option maxHeartbeats 8000000 in
theorem leaf_b9 {wX : World} {b o n c gb i nl lc q kc p nl' lc' : Nat} {lao kao lao' : Option Addr} {R R' C : Int} (g0 : wX.cell? ⟨gb, 0, none⟩ = some (.int .u64 R)) (g1 : wX.cell? ⟨gb, 1, none⟩ = some (.slice lao nl lc)) (g2 : wX.cell? ⟨gb, 2, none⟩ = some (.slice kao q kc)) (e0 : wX.cell? ⟨b, o + p * 3, none⟩ = some (.int .u64 R')) (e1 : wX.cell? ⟨b, o + p * 3 + 1, none⟩ = some (.slice lao' nl' lc')) (SF : Hid (∀ w', Kept (fun _ _ => False) wX w' → w'.cell? ⟨gb, 0, none⟩ = some (.int .u64 R) ∧ w'.cell? ⟨gb, 1, none⟩ = some (.slice lao nl lc) ∧ w'.cell? ⟨gb, 2, none⟩ = some (.slice kao q kc) ∧ w'.cell? ⟨b, o + p * 3, none⟩ = some (.int .u64 R') ∧ w'.cell? ⟨b, o + p * 3 + 1, none⟩ = some (.slice lao' nl' lc'))) (hiI : (i : Int) < n) (d4 : decide (0 < i) = true) (d41 : IntKind.i64.wrap ((i : Int) - 1) = (p : Int)) (d42 : (p : Int) < n) (d3 : (R == 0) = false) (d31 : decide (R ≤ R') = false) (HC12 : Hid (∀ w', Kept (fun _ _ => False) wX w' → Calls Tryz.prog 12 #[.slice lao nl lc, .slice lao' nl' lc'] w' (fun e w'' => e = .returned (.int .i64 C) ∧ Kept (fun _ _ => False) w' w''))) (d32 : (C == 0) = false) (d5 : ((nl : Int) == 0) = false) (d5' : (nl == 0) = false) (d6 : decide ((10 : Int) < (nl : Int)) = false) (d6' : decide (10 < nl) = false) (HC13 : Hid (∀ w', Kept (fun _ _ => False) wX w' → Calls Tryz.prog 13 #[.slice lao nl lc] w' (fun e w'' => e = .returned (.bool false) ∧ Kept (fun _ _ => False) w' w''))) (x1 x2 x3 x6 x7 x8 x9 x10 x11 x12 x13 x14 x15 x16 x17 x18 x19 x20 x21 x22 x23 x24 x25 x26 x27 x28 x29 x30 x31 x32 x33 x34 x35 x36 x37 x38 x39 x40 x41 x42 x43 x44 x45 x46 x47 x48 x49 x50 x51 x52 x53 x54 x55 x56 x57 x58 x59 x60 x61 x62 x63 x64 x65 x66 x67 x68 x69 x70 x71 x72 x73 x74 x75 x76 x77 x78 x79 x80 x81 x82 x83 x84 x85 x86 x87 x88 x89 x90 x91 x92 x93 x94 x95 x96 x97 x98 x99 x100 : Value) {ds : List Deferred} {Q0 : Exit → Act → World → Prop}
    (hexit : ∀ (y41 y42 y43 y44 y45 y46 y47 y48 y49 y50 y51 y52 y53 y54 y55 y56 y57 y58 y59 y60 y61 y62 y63 y64 y65 y66 y67 y68 y69 y70 y71 y72 y73 y74 y75 y76 y77 y78 y79 y80 y81 y82 y83 y84 y85 y86 y87 y88 y89 y90 y91 y92 y93 y94 y95 y96 y97 y98 y99 : Value) (wx : World), RK wX wx → Q0 .normal ⟨(.slice (some ⟨b, o, none⟩) n c :: x1 :: x2 :: x3 :: .int .i64 (i : Nat) :: .pointer (some ⟨gb, 0, none⟩) :: x6 :: x7 :: x8 :: x9 :: x10 :: x11 :: x12 :: x13 :: x14 :: x15 :: x16 :: x17 :: x18 :: x19 :: x20 :: x21 :: x22 :: x23 :: x24 :: x25 :: x26 :: x27 :: x28 :: x29 :: x30 :: x31 :: x32 :: x33 :: x34 :: x35 :: x36 :: x37 :: x38 :: x39 :: x40 :: y41 :: y42 :: y43 :: y44 :: y45 :: y46 :: y47 :: y48 :: y49 :: y50 :: y51 :: y52 :: y53 :: y54 :: y55 :: y56 :: y57 :: y58 :: y59 :: y60 :: y61 :: y62 :: y63 :: y64 :: y65 :: y66 :: y67 :: y68 :: y69 :: y70 :: y71 :: y72 :: y73 :: y74 :: y75 :: y76 :: y77 :: y78 :: y79 :: y80 :: y81 :: y82 :: y83 :: y84 :: y85 :: y86 :: y87 :: y88 :: y89 :: y90 :: y91 :: y92 :: y93 :: y94 :: y95 :: y96 :: y97 :: y98 :: y99 :: .bool true :: []).toArray, ds⟩ wx) :
    Code.wp Tryz.prog (rg7 14) Q0 ⟨(.slice (some ⟨b, o, none⟩) n c :: x1 :: x2 :: x3 :: .int .i64 (i : Nat) :: .pointer (some ⟨gb, 0, none⟩) :: x6 :: x7 :: x8 :: x9 :: x10 :: x11 :: x12 :: x13 :: x14 :: x15 :: x16 :: x17 :: x18 :: x19 :: x20 :: x21 :: x22 :: x23 :: x24 :: x25 :: x26 :: x27 :: x28 :: x29 :: x30 :: x31 :: x32 :: x33 :: x34 :: x35 :: x36 :: x37 :: x38 :: x39 :: x40 :: x41 :: x42 :: x43 :: x44 :: x45 :: x46 :: x47 :: x48 :: x49 :: x50 :: x51 :: x52 :: x53 :: x54 :: x55 :: x56 :: x57 :: x58 :: x59 :: x60 :: x61 :: x62 :: x63 :: x64 :: x65 :: x66 :: x67 :: x68 :: x69 :: x70 :: x71 :: x72 :: x73 :: x74 :: x75 :: x76 :: x77 :: x78 :: x79 :: x80 :: x81 :: x82 :: x83 :: x84 :: x85 :: x86 :: x87 :: x88 :: x89 :: x90 :: x91 :: x92 :: x93 :: x94 :: x95 :: x96 :: x97 :: x98 :: x99 :: x100 :: []).toArray, ds⟩ wX := by
  have _u := And.intro g0 (And.intro g1 (And.intro g2 (And.intro SF (And.intro hiI (And.intro d4 (And.intro e0 (And.intro e1 (And.intro d41 (And.intro d42 (And.intro HC13 (And.intro d6' (And.intro d6 (And.intro d5' (And.intro d5 (And.intro d32 (And.intro HC12 (And.intro d31 (And.intro d3 (Eq.refl (R, C, R', nl', lc', p, lao'))))))))))))))))))))
  clear _u
  conv => arg 2; whnf
  go_still_tail 25, (by kernel_rfl)
  go_wp2_with fail
  (with_reducible refine (HC12.out _ (Kept.drew _ _)).mono ?_)
  rintro e w12 ⟨rfl, hk⟩
  have k12 := Lib.hid (Kept.trans (Kept.drew (fun _ _ => False) _) hk (fun _ _ _ => id))
  obtain ⟨z12_0, z12_1, z12_2, z12_3, z12_4⟩ := SF.out _ k12.out
  clear hk
  go_wp2_with fail
  (with_reducible refine (HC13.out _ k12.out).mono ?_)
  rintro e w13 ⟨rfl, hk⟩
  have k13 := Lib.hid (Kept.trans k12.out hk (fun _ _ _ => id))
  obtain ⟨z13_0, z13_1, z13_2, z13_3, z13_4⟩ := SF.out _ k13.out
  clear hk
  go_wp2_with fail
  try go_wp2_with fail
  first | exact k13.out | exact hexit _ _ _ _ _ _ _ _ _ _ _ _ _ _ _ _ _ _ _ _ _ _ _ _ _ _ _ _ _ _ _ _ _ _ _ _ _ _ _ _ _ _ _ _ _ _ _ _ _ _ _ _ _ _ _ _ _ _ _ _ k13.out

end Go.Proofs.YtfipfoplmopkaaaGreatDoor

namespace Go.Proofs.YtfipfoplmopkaaaGreatDoor
open Go.RowKit

def nV (x : Nat) : Value := .int .u64 (x : Int)
/-- A row of numbers. -/
def RowN (w : World) (b o : Nat) (xs : List Nat) : Prop := ∀ i (h : i < xs.length), w.cell? ⟨b, o + i, none⟩ = some (nV (xs[i]'h))
theorem RowN.kept {w w' : World} {b o : Nat} {xs : List Nat} (h : RowN w b o xs) {P : Nat → Nat → Prop} (hk : Kept P w w') (hP : ∀ j, ¬ P b j) (hb : b < w.heap.size) : RowN w' b o xs :=
  fun i hi => (hk.cell b _ hb (hP _)).trans (h i hi)
theorem one_newN (w : World) (x : Value) (t : TypeId) : ∀ ad, some (⟨w.heap.size, 0, none⟩ : Addr) = some ad → ∀ (j : Nat) u, [x][j]? = some u → (w.alloc (.cells #[x] t)).cell? (ad.add j) = some u := by
  intro ad e j u hj
  cases e
  match j, hj with
  | 0, hj => simp at hj; subst hj; rw [Addr.add_lit, Nat.zero_add, World.cell?_alloc_new]; rfl
theorem info71 : (Tryz.prog.info? 71).map (fun i => (i.zero, i.size, i.bytes)) = some (some (.int .u64 0), 1, 8) := by kernel_rfl
theorem info32 : (Tryz.prog.info? 32).map (fun i => (i.zero, i.size, i.bytes)) = some (some (.int .u64 0), 1, 8) := by kernel_rfl

set_option maxRecDepth 100000 in
set_option maxHeartbeats 2000000 in
theorem refs_any (b o c n : Nat) (xs : List Nat) (hn : n = xs.length) (hn0 : 0 < n) (hn9 : n < 1000) (w : World) (h : RowN w b o xs) (hb : b < w.heap.size) :
    Calls Tryz.prog 74 #[.slice (some ⟨b, o, none⟩) n c] w fun e w' => ∃ g c', e = .returned (.slice (some ⟨g, 0, none⟩) n c') ∧ n ≤ c' ∧ w.heap.size ≤ g ∧ g < w'.heap.size ∧ RowN w' g 0 xs ∧ Kept (fun _ _ => False) w w' := by
  have H := Lib.hid h
  have HN := Lib.hid hn
  have HB := Lib.hid hb
  obtain ⟨i71, hi, hz0, hz1, hz2⟩ := info_parts info71
  clear h hn hb
  go_enter Tryz.func74, Tryz.ntmps74
  go_wp2_with fail
  go_loopw [3, 8] (fun s x wr => ∃ (i : Nat) (ao : Option Addr) (cc : Nat), i ≤ n ∧ x = .int .i64 i ∧ s = .slice ao i cc ∧ Hid (wr.ownsRow 0 71 1 (.slice ao i cc) i ((xs.take i).map nV)) ∧ Hid (∀ k, (Value.slice ao i cc).ownBlock = some k → w.heap.size ≤ k) ∧ Hid (Kept (fun _ _ => False) w wr)) (fun _ x _ => n - (intOf x).toNat)
  case atStart => exact ⟨0, none, 0, Nat.zero_le _, rfl, rfl, Lib.hid (World.ownsRow_nil _ _ _ _), Lib.hid (fun k e => by cases e), Lib.hid (Kept.refl _ _)⟩
  case round =>
    obtain ⟨i, ao, cc, hi', rfl, rfl, HO, HG, HR⟩ := hrel
    by_cases hlt : i < n
    · have hil : i < xs.length := by rw [← HN.out]; exact hlt
      have x1 : wr.cell? ⟨b, o + i, none⟩ = some (.int .u64 ((xs[i]'hil : Nat) : Int)) := H.out.kept HR.out (fun _ e => e) HB.out i hil
      have hrv : (xs.take (i + 1)).map nV = (xs.take i).map nV ++ [.int .u64 ((xs[i]'hil : Nat) : Int)] := by
        rw [List.take_succ_eq_append_getElem hil, List.map_append]; rfl
      obtain ⟨x, hx⟩ : ∃ x : Int, x = ((xs[i]'hil : Nat) : Int) := ⟨_, rfl⟩
      rw [← hx] at x1 hrv
      have HRV := Lib.hid hrv
      have hiI : (i : Int) < n := by omega
      have hrow : ∀ o1 : Obj, (wr.alloc o1).ownsRow 0 71 1 (.slice ao i cc) i ((xs.take i).map nV) := fun o1 =>
        ownsRow_block (w' := wr.alloc o1) HO.out (fun k e => heap_alloc_old _ _ (HO.out.lt k e).2)
      have HROW := Lib.hid hrow
      clear hrv hx hrow
      go_wp2_with (at_builtin; refine wpList_app _ rfl _ _ 139 rfl 71 i71 (.int .u64 0) 1 8 Tryz.underlying139 hi hz0 hz1 hz2 rfl (by decide) (.slice ao i cc) i ((xs.take i).map nV) rfl (HROW.out _) (some ⟨wr.heap.size, 0, none⟩) 1 1 [.int .u64 x] rfl rfl (fun e => by cases e) (one_newN _ _ _) (by intro u hu; simp at hu; subst hu; rfl) (by unfold maxLen; omega) (by omega) ?_)
      intro v' wz ha
      obtain ⟨ao', c', rfl⟩ := own_slice ha.own
      have hk := (HR.out.trans (Kept.alloc _ _ _) (fun _ _ _ => id)).trans (ha.kept (HROW.out _)) (fun k _ hlt e => by have := HG.out k e; omega)
      have HK := Lib.hid hk
      have hg : ∀ k, (Value.slice ao' (i + 1) c').ownBlock = some k → w.heap.size ≤ k := fun k e => by
        rcases ha.mv with h | ⟨g', h1, h2⟩
        · exact HG.out k (h.symm.trans e)
        · rw [e] at h1; cases h1
          have := HR.out.size
          simp only [World.size_alloc] at h2; omega
      have HG' := Lib.hid hg
      have HO' := Lib.hid ha.own
      clear ha hk hg
      go_wp2_with fail
      go_roundw
      case rel => exact ⟨i + 1, ao', c', by omega, by go_num, rfl, Lib.hid (by rw [HRV.out, List.map_take]; exact HO'.out), HG', HK⟩
      case measure => simp only [intOf]; omega
    · obtain rfl : i = n := by omega
      have ho := HO.out
      rw [show xs.take i = xs by rw [HN.out, List.take_length]] at ho
      have hcap : i ≤ cc := by
        rcases ho.2 with ⟨_, h0⟩ | ⟨g, cap, cur, he, _, _, hle, _⟩
        · omega
        · cases he; exact hle
      obtain ⟨g, cap, he, _, hglt⟩ := ho.form hn0
      cases he
      have hg0 := HG.out g rfl
      have hrow : RowN wr g 0 xs := fun j hj => by
        have := ho.cells rfl j (nV (xs[j]'hj)) (by rw [List.getElem?_map, List.getElem?_eq_getElem hj]; rfl)
        rw [Addr.add_lit, Nat.zero_add] at this
        rw [Nat.zero_add]; exact this
      have FIN := Lib.hid (And.intro hcap (And.intro hg0 (And.intro hglt hrow)))
      clear ho hg0 hglt hrow HO HG hcap
      go_wp2_with fail
      go_ret
      exact ⟨g, _, rfl, FIN.out.1, FIN.out.2.1, FIN.out.2.2.1, FIN.out.2.2.2, HR.out⟩

set_option maxRecDepth 100000 in
set_option maxHeartbeats 2000000 in
theorem unrefs_any (b o c n : Nat) (xs : List Nat) (hn : n = xs.length) (hn0 : 0 < n) (hn9 : n < 1000) (w : World) (h : RowN w b o xs) (hb : b < w.heap.size) :
    Calls Tryz.prog 72 #[.slice (some ⟨b, o, none⟩) n c] w fun e w' => ∃ g c', e = .returned (.slice (some ⟨g, 0, none⟩) n c') ∧ n ≤ c' ∧ w.heap.size ≤ g ∧ g < w'.heap.size ∧ RowN w' g 0 xs ∧ Kept (fun _ _ => False) w w' := by
  have H := Lib.hid h
  have HN := Lib.hid hn
  have HB := Lib.hid hb
  obtain ⟨i32, hi, hz0, hz1, hz2⟩ := info_parts info32
  clear h hn hb
  go_enter Tryz.func72, Tryz.ntmps72
  go_wp2_with fail
  go_loopw [3, 8] (fun s x wr => ∃ (i : Nat) (ao : Option Addr) (cc : Nat), i ≤ n ∧ x = .int .i64 i ∧ s = .slice ao i cc ∧ Hid (wr.ownsRow 0 32 1 (.slice ao i cc) i ((xs.take i).map nV)) ∧ Hid (∀ k, (Value.slice ao i cc).ownBlock = some k → w.heap.size ≤ k) ∧ Hid (Kept (fun _ _ => False) w wr)) (fun _ x _ => n - (intOf x).toNat)
  case atStart => exact ⟨0, none, 0, Nat.zero_le _, rfl, rfl, Lib.hid (World.ownsRow_nil _ _ _ _), Lib.hid (fun k e => by cases e), Lib.hid (Kept.refl _ _)⟩
  case round =>
    obtain ⟨i, ao, cc, hi', rfl, rfl, HO, HG, HR⟩ := hrel
    by_cases hlt : i < n
    · have hil : i < xs.length := by rw [← HN.out]; exact hlt
      have x1 : wr.cell? ⟨b, o + i, none⟩ = some (.int .u64 ((xs[i]'hil : Nat) : Int)) := H.out.kept HR.out (fun _ e => e) HB.out i hil
      have hrv : (xs.take (i + 1)).map nV = (xs.take i).map nV ++ [.int .u64 ((xs[i]'hil : Nat) : Int)] := by
        rw [List.take_succ_eq_append_getElem hil, List.map_append]; rfl
      obtain ⟨x, hx⟩ : ∃ x : Int, x = ((xs[i]'hil : Nat) : Int) := ⟨_, rfl⟩
      rw [← hx] at x1 hrv
      have HRV := Lib.hid hrv
      have hiI : (i : Int) < n := by omega
      have hrow : ∀ o1 : Obj, (wr.alloc o1).ownsRow 0 32 1 (.slice ao i cc) i ((xs.take i).map nV) := fun o1 =>
        ownsRow_block (w' := wr.alloc o1) HO.out (fun k e => heap_alloc_old _ _ (HO.out.lt k e).2)
      have HROW := Lib.hid hrow
      clear hrv hx hrow
      go_wp2_with (at_builtin; refine wpList_app _ rfl _ _ 43 rfl 32 i32 (.int .u64 0) 1 8 Tryz.underlying43 hi hz0 hz1 hz2 rfl (by decide) (.slice ao i cc) i ((xs.take i).map nV) rfl (HROW.out _) (some ⟨wr.heap.size, 0, none⟩) 1 1 [.int .u64 x] rfl rfl (fun e => by cases e) (one_newN _ _ _) (by intro u hu; simp at hu; subst hu; rfl) (by unfold maxLen; omega) (by omega) ?_)
      intro v' wz ha
      obtain ⟨ao', c', rfl⟩ := own_slice ha.own
      have hk := (HR.out.trans (Kept.alloc _ _ _) (fun _ _ _ => id)).trans (ha.kept (HROW.out _)) (fun k _ hlt e => by have := HG.out k e; omega)
      have HK := Lib.hid hk
      have hg : ∀ k, (Value.slice ao' (i + 1) c').ownBlock = some k → w.heap.size ≤ k := fun k e => by
        rcases ha.mv with h | ⟨g', h1, h2⟩
        · exact HG.out k (h.symm.trans e)
        · rw [e] at h1; cases h1
          have := HR.out.size
          simp only [World.size_alloc] at h2; omega
      have HG' := Lib.hid hg
      have HO' := Lib.hid ha.own
      clear ha hk hg
      go_wp2_with fail
      go_roundw
      case rel => exact ⟨i + 1, ao', c', by omega, by go_num, rfl, Lib.hid (by rw [HRV.out, List.map_take]; exact HO'.out), HG', HK⟩
      case measure => simp only [intOf]; omega
    · obtain rfl : i = n := by omega
      have ho := HO.out
      rw [show xs.take i = xs by rw [HN.out, List.take_length]] at ho
      have hcap : i ≤ cc := by
        rcases ho.2 with ⟨_, h0⟩ | ⟨g, cap, cur, he, _, _, hle, _⟩
        · omega
        · cases he; exact hle
      obtain ⟨g, cap, he, _, hglt⟩ := ho.form hn0
      cases he
      have hg0 := HG.out g rfl
      have hrow : RowN wr g 0 xs := fun j hj => by
        have := ho.cells rfl j (nV (xs[j]'hj)) (by rw [List.getElem?_map, List.getElem?_eq_getElem hj]; rfl)
        rw [Addr.add_lit, Nat.zero_add] at this
        rw [Nat.zero_add]; exact this
      have FIN := Lib.hid (And.intro hcap (And.intro hg0 (And.intro hglt hrow)))
      clear ho hg0 hglt hrow HO HG hcap
      go_wp2_with fail
      go_ret
      exact ⟨g, _, rfl, FIN.out.1, FIN.out.2.1, FIN.out.2.2.1, FIN.out.2.2.2, HR.out⟩

end Go.Proofs.YtfipfoplmopkaaaGreatDoor

namespace Go.Proofs.YtfipfoplmopkaaaGreatDoor
open Go.RowKit

/-- A ListPostings at block p: what is left of its list (in block b), where it is. -/
structure LP (w : World) (p b : Nat) (xs : List Nat) (cur : Int) : Prop where
  r : ∃ ao o c, w.cell? ⟨p, 0, none⟩ = some (.slice ao xs.length c) ∧ (0 < xs.length → ao = some ⟨b, o, none⟩ ∧ xs.length ≤ c) ∧ RowN w b o xs
  cur : w.cell? ⟨p, 1, none⟩ = some (.int .u64 cur)
  f0 : w.frozen? ⟨p, 0, none⟩ = false
  f1 : w.frozen? ⟨p, 1, none⟩ = false
theorem LP.kept {w w' : World} {p b : Nat} {xs : List Nat} {cur : Int} (h : LP w p b xs cur) {P : Nat → Nat → Prop} (hk : Kept P w w') (hp : ∀ j, ¬ P p j) (hb : ∀ j, ¬ P b j) : LP w' p b xs cur := by
  obtain ⟨ao, o, c, h1, h2, h3⟩ := h.r
  have hlt := World.block_lt_of_cell? _ _ h1
  refine ⟨⟨ao, o, c, (hk.cell _ _ hlt (hp _)).trans h1, h2, fun i hi => ?_⟩, (hk.cell _ _ hlt (hp _)).trans h.cur, (hk.fr _ _ hlt).trans h.f0, (hk.fr _ _ hlt).trans h.f1⟩
  have := h3 i hi
  exact (hk.cell _ _ (World.block_lt_of_cell? _ _ this) (hb _)).trans this

set_option maxHeartbeats 1000000 in
theorem lpAt_any (w : World) (p b : Nat) (xs : List Nat) (cur : Int) (h : LP w p b xs cur) : Calls Tryz.prog 243 #[.pointer (some ⟨p, 0, none⟩)] w fun e w' => e = .returned (.int .u64 cur) ∧ w = w' := by
  have hc := h.cur
  clear h
  go_enter Tryz.func243, Tryz.ntmps243
  go_wp2
  go_ret
  exact ⟨rfl, rfl⟩

theorem lpErr_any (w : World) (v : Value) : Calls Tryz.prog 244 #[v] w fun e w' => e = .returned .nilIface ∧ w = w' := by
  go_enter Tryz.func244, Tryz.ntmps244
  go_wp2
  go_ret
  exact ⟨rfl, rfl⟩

theorem lpSet (w : World) (p b o : Nat) (x : Nat) (t : List Nat) (ao' : Option Addr) (c' : Nat) (hr : RowN w b o (x :: t)) (hbp : b ≠ p) (h0 : ∃ v, w.cell? ⟨p, 0, none⟩ = some v) (h1 : ∃ v, w.cell? ⟨p, 1, none⟩ = some v) (f0 : w.frozen? ⟨p, 0, none⟩ = false) (f1 : w.frozen? ⟨p, 1, none⟩ = false) (ha : 0 < t.length → ao' = some ⟨b, o + 1, none⟩ ∧ t.length ≤ c') (X : Int) (hX : X = (x : Int)) :
    LP ((w.setCell ⟨p, 1, none⟩ (.int .u64 X)).setCell ⟨p, 0, none⟩ (.slice ao' t.length c')) p b t x ∧ Kept (fun k _ => k = p) w ((w.setCell ⟨p, 1, none⟩ (.int .u64 X)).setCell ⟨p, 0, none⟩ (.slice ao' t.length c')) := by
  subst hX
  obtain ⟨v0, h0⟩ := h0
  obtain ⟨v1, h1⟩ := h1
  have c1 : (w.setCell ⟨p, 1, none⟩ (.int .u64 (x : Int))).cell? ⟨p, 0, none⟩ = some v0 := (World.cell?_setCell_other _ _ _ _ (by simp)).trans h0
  refine ⟨⟨⟨ao', o + 1, c', World.cell?_setCell_same _ _ _ c1, ha, fun i hi => ?_⟩, ?_, by rw [World.frozen?_setCell, World.frozen?_setCell]; exact f0, by rw [World.frozen?_setCell, World.frozen?_setCell]; exact f1⟩, (Kept.setCell (P := fun k _ => k = p) _ _ _ _ rfl).trans (Kept.setCell (P := fun k _ => k = p) _ _ _ _ rfl) (fun _ _ _ => id)⟩
  · rw [World.cell?_setCell_other _ _ _ _ (by first | (simp; done) | (simp; exact fun e => absurd e hbp)), World.cell?_setCell_other _ _ _ _ (by first | (simp; done) | (simp; exact fun e => absurd e hbp))]
    have := hr (i + 1) (by simpa using hi)
    rw [show o + (i + 1) = o + 1 + i by omega] at this
    simpa using this
  · rw [World.cell?_setCell_other _ _ _ _ (by simp)]
    exact World.cell?_setCell_same _ _ _ h1

set_option maxHeartbeats 1000000 in
theorem lpNext_nil (w : World) (p b : Nat) (cur : Int) (h : LP w p b [] cur) : Calls Tryz.prog 246 #[.pointer (some ⟨p, 0, none⟩)] w fun e w' => e = .returned (.bool false) ∧ LP w' p b [] 0 ∧ Kept (fun k _ => k = p) w w' := by
  obtain ⟨ao, o, c, h1, h2, h3⟩ := id h.r
  rw [show ([] : List Nat).length = 0 from rfl] at h1
  have hc := h.cur
  have hf0 := h.f0
  have hf1 := h.f1
  have H := Lib.hid h
  clear h h2 h3
  go_enter Tryz.func246, Tryz.ntmps246
  go_wp2
  go_ret
  refine ⟨rfl, ⟨⟨ao, o, c, (World.cell?_setCell_other _ _ _ _ (by simp)).trans h1, fun h => absurd h (by simp), fun i hi => by simp at hi⟩, World.cell?_setCell_same _ _ _ hc, by rw [World.frozen?_setCell]; exact hf0, by rw [World.frozen?_setCell]; exact hf1⟩, Kept.setCell _ _ _ _ rfl⟩

set_option maxHeartbeats 1000000 in
theorem lpNext_cons (w : World) (p b x : Nat) (t : List Nat) (cur : Int) (h : LP w p b (x :: t) cur) (hbp : b ≠ p) (ht : t.length < 1000) : Calls Tryz.prog 246 #[.pointer (some ⟨p, 0, none⟩)] w fun e w' => e = .returned (.bool true) ∧ LP w' p b t x ∧ Kept (fun k _ => k = p) w w' := by
  obtain ⟨ao, o, c, h1, h2, h3⟩ := id h.r
  obtain ⟨rfl, hc0⟩ := h2 (by simp)
  have hc := h.cur
  have hf0 := h.f0
  have hf1 := h.f1
  have hx : w.cell? ⟨b, o, none⟩ = some (.int .u64 (x : Int)) := by have := h3 0 (by simp); simpa [nV] using this
  obtain ⟨m, hm⟩ : ∃ m, m = t.length := ⟨_, rfl⟩
  rw [show (x :: t).length = m + 1 by rw [hm]; rfl] at h1 hc0
  have FIN := Lib.hid (fun ao' c' ha X hX => lpSet w p b o x t ao' c' h3 hbp ⟨_, h1⟩ ⟨_, hc⟩ hf0 hf1 ha X hX)
  have HM := Lib.hid hm
  obtain ⟨X, hX⟩ : ∃ X : Int, X = (x : Int) := ⟨_, rfl⟩
  rw [← hX] at hx
  have HX := Lib.hid hX
  clear h h2 h3 hX hm hbp
  have HC0 := Lib.hid hc0
  by_cases hc1 : c = 1
  · subst hc1
    go_enter Tryz.func246, Tryz.ntmps246
    go_wp2
    go_ret
    have h9 := FIN.out (some ⟨b, o, none⟩) 0 (fun h => by have := HM.out; have := HC0.out; omega) X HX.out
    rw [show t.length = 0 by have := HM.out; have := HC0.out; omega] at h9
    exact ⟨rfl, h9.1, h9.2⟩
  · go_enter Tryz.func246, Tryz.ntmps246
    go_wp2
    go_ret
    have h9 := FIN.out (some ⟨b, o + 1, none⟩) (c - 1) (fun h => ⟨rfl, by have := HM.out; have := HC0.out; omega⟩) X HX.out
    rw [← HM.out] at h9
    exact ⟨rfl, h9.1, h9.2⟩

set_option maxHeartbeats 1000000 in
theorem newList_any (w : World) (b n c : Nat) (xs : List Nat) (hn : n = xs.length) (hc : n ≤ c) (hr : RowN w b 0 xs) (hb : b < w.heap.size) : Calls Tryz.prog 73 #[.slice (some ⟨b, 0, none⟩) n c] w fun e w' => ∃ p, e = .returned (.iface 180 (.pointer (some ⟨p, 0, none⟩))) ∧ LP w' p b xs 0 ∧ w.heap.size ≤ p ∧ p < w'.heap.size ∧ Kept (fun _ _ => False) w w' := by
  have HN := Lib.hid hn
  have HR := Lib.hid hr
  have HB := Lib.hid hb
  have HC := Lib.hid hc
  clear hn hr hb hc
  go_enter Tryz.func73, Tryz.ntmps73
  go_wp2
  go_ret
  refine ⟨w.heap.size, rfl, ⟨⟨some ⟨b, 0, none⟩, 0, c, by rw [World.cell?_alloc_new, ← HN.out]; rfl, fun _ => ⟨rfl, by rw [← HN.out]; exact HC.out⟩, HR.out.kept (Kept.alloc (fun _ _ => False) _ _) (fun _ => id) HB.out⟩, by rw [World.cell?_alloc_new]; rfl, by simp, by simp⟩, Nat.le_refl _, by rw [World.size_alloc]; omega, Kept.alloc _ _ _⟩

end Go.Proofs.YtfipfoplmopkaaaGreatDoor
