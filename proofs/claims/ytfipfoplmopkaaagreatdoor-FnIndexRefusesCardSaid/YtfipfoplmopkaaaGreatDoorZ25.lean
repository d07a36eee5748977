/- Labels: slices.SortFunc(107) of labels that are in order already, at most 12. Conditions: names ascending. Labels: the sizes (177, 152, 110), encodeSize(178), marshalLabelToSizedBuffer(153). Conditions: sizes below 255. Labels: labelsSize(110), marshalLabelsToSizedBuffer(111). Conditions: sizes below 255. Maps keyed by numbers of 32 bits, read raw: 'every entry has E'. No condition. -/
import Derived.Test.YtfipfoplmopkaaaGreatDoorZ01
import Derived.Test.YtfipfoplmopkaaaGreatDoorZ23
import Derived.Test.YtfipfoplmopkaaaGreatDoorZ17
import Derived.Test.YtfipfoplmopkaaaGreatDoorZ19
import Derived.Deep.DeepCutAuto
import Derived.Deep.CutBlock
import Derived.Deep.CutRange
import Derived.Deep.RegionHeld3
import Derived.OrdersHeld
import Derived.Sort.Walk0
import Derived.Lib.LazyBuf
import Derived.Maps.RangeWalk

namespace Go.Proofs.YtfipfoplmopkaaaGreatDoor
open Go.RowKit

abbrev Lab := ByteArray × ByteArray
/-- A row of labels in memory. -/
def RowL (w : World) (b o : Nat) (ls : List Lab) : Prop :=
  ∀ i (h : i < ls.length), w.cell? ⟨b, o + i * 2, none⟩ = some (.string (ls[i]'h).1) ∧ w.cell? ⟨b, o + i * 2 + 1, none⟩ = some (.string (ls[i]'h).2)
/-- The names ascend. -/
def AscL (ls : List Lab) : Prop := ∀ i (h : i + 1 < ls.length), (ls[i]'(by omega)).1.data.toList < (ls[i + 1]'h).1.data.toList

theorem RowL.kept {w w' : World} {b o : Nat} {ls : List Lab} (h : RowL w b o ls) {P : Nat → Nat → Prop} (hk : Kept P w w') (hP : ∀ j, ¬ P b j) (hb : b < w.heap.size) : RowL w' b o ls :=
  fun i hi => ⟨(hk.cell b _ hb (hP _)).trans (h i hi).1, (hk.cell b _ hb (hP _)).trans (h i hi).2⟩

set_option maxHeartbeats 1000000 in
theorem new1_any (x y : Lab) (w : World) : Calls Tryz.prog 108 #[.agg #[.string x.1, .string x.2], .agg #[.string y.1, .string y.2]] w fun e w' => e = .returned (.int .i64 (Lib.compareBytes x.1.data.toList y.1.data.toList)) ∧ Kept (fun _ _ => False) w w' := by
  have hc := Lib.hid (fun w => Tryz.strings_Compare x.1 y.1 w)
  go_enter Tryz.func108, Tryz.ntmps108
  go_wp2_with (go_at_call 109; (with_reducible refine (hc.out _).mono ?_); rintro e w' ⟨rfl, rfl⟩)
  go_ret
  exact ⟨rfl, (Kept.alloc _ _ _).trans (Kept.alloc _ _ _) (fun _ _ _ => id)⟩

theorem cmpB_gt : ∀ (a b : List UInt8), a < b → Lib.compareBytes b a = 1
  | [], [], h => by simp at h
  | [], _ :: _, _ => rfl
  | _ :: _, [], h => by simp at h
  | x :: a, y :: b, h => by
    rw [List.cons_lt_cons_iff] at h
    unfold Lib.compareBytes
    rcases h with h | ⟨rfl, h⟩
    · have h2 : ¬ y < x := fun h2 => by
        have := UInt8.lt_iff_toNat_lt.mp h; have := UInt8.lt_iff_toNat_lt.mp h2; omega
      rw [if_neg h2, if_pos h]
    · have h2 : ¬ x < x := fun h2 => by have := UInt8.lt_iff_toNat_lt.mp h2; omega
      rw [if_neg h2, if_neg h2]
      exact cmpB_gt a b h

set_option maxRecDepth 100000 in
set_option maxHeartbeats 2000000 in
theorem insL_any (b o c n : Nat) (ls : List Lab) (hn : n = ls.length) (hn9 : n < 1000) (ha : AscL ls) (w : World) (h : RowL w b o ls) (hb : b < w.heap.size) :
    Calls Tryz.prog 166 #[.slice (some ⟨b, o, none⟩) n c, .int .i64 0, .int .i64 n, .func (.func 108) #[] #[]] w fun e w' => e = .returned (.tuple #[]) ∧ Kept (fun _ _ => False) w w' := by
  have H := Lib.hid h
  have HN := Lib.hid hn
  have HA := Lib.hid ha
  have HB := Lib.hid hb
  clear h hn ha hb
  go_enter Tryz.func166, Tryz.ntmps166
  go_wp2_with fail
  go_loopw [8] (fun x wr => ∃ i : Nat, 0 < i ∧ x = .int .i64 i ∧ Hid (Kept (fun _ _ => False) w wr)) (fun x _ => n - (intOf x).toNat)
  case atStart => exact ⟨1, by omega, by go_num, Lib.hid (Kept.refl _ _)⟩
  case round =>
    obtain ⟨i, hi, rfl, HR⟩ := hrel
    by_cases hlt : i < n
    · go_wp2_with fail
      go_loopw [9] (fun x ws => x = .int .i64 i ∧ Hid (Kept (fun _ _ => False) w ws)) (fun x _ => 0)
      case atStart => exact ⟨rfl, HR⟩
      case round =>
        obtain ⟨rfl, HS⟩ := hrel
        obtain ⟨q, rfl⟩ : ∃ q, i = q + 1 := ⟨i - 1, by omega⟩
        have hRow := H.out.kept HS.out (fun _ => id) HB.out
        obtain ⟨x1, x2⟩ := hRow (q + 1) (by rw [← HN.out]; exact hlt)
        obtain ⟨y1, y2⟩ := hRow q (by rw [← HN.out]; omega)
        have hcmp := cmpB_gt _ _ (HA.out q (by rw [← HN.out]; exact hlt))
        obtain ⟨x, hx⟩ : ∃ x, x = ls[q + 1]'(by rw [← HN.out]; exact hlt) := ⟨_, rfl⟩
        obtain ⟨y, hy⟩ : ∃ y, y = ls[q]'(by rw [← HN.out]; omega) := ⟨_, rfl⟩
        rw [← hx] at x1 x2 hcmp
        rw [← hy] at y1 y2 hcmp
        obtain ⟨r, hr⟩ : ∃ r, r = Lib.compareBytes x.1.data.toList y.1.data.toList := ⟨_, rfl⟩
        rw [← hr] at hcmp
        have HC : Hid (∀ ws, Calls Tryz.prog 108 #[.agg #[.string x.1, .string x.2], .agg #[.string y.1, .string y.2]] ws fun e w' => e = .returned (.int .i64 1) ∧ Kept (fun _ _ => False) ws w') := Lib.hid (fun ws => by
          have := new1_any x y ws
          rw [← hr, hcmp] at this; exact this)
        clear hx hy hr hcmp
        have hbw : b < wr.heap.size := Nat.lt_of_lt_of_le HB.out HS.out.size
        have e1 : (q : Int) + 1 < n := by omega
        have e2 : (q : Int) < n := by omega
        have e3 : (0 : Int) ≤ (q : Int) + 1 := by omega
        have e5 : (0 : Int) < (q : Int) + 1 := by omega
        have z1 : IntKind.i64.wrap (q : Int) = q := IntWalk.i64_in _ (by omega)
        have z2 : ((q : Int) + 1).toNat = q + 1 := by omega
        go_wp2_with fail
        go_region_held3 (fun w' => w'.cell? ⟨b, o + (q + 1) * 2, none⟩ = some (.string x.1) ∧ w'.cell? ⟨b, o + (q + 1) * 2 + 1, none⟩ = some (.string x.2) ∧ w'.cell? ⟨b, o + q * 2, none⟩ = some (.string y.1) ∧ w'.cell? ⟨b, o + q * 2 + 1, none⟩ = some (.string y.2)) (first | exact ⟨x1, x2, y1, y2⟩ | exact ⟨v1, v2, v3, v4⟩ | go_keep) (first | (go_at_call 108; (with_reducible refine (HC.out _).mono ?_); rintro e w' ⟨rfl, k'⟩; have v1 := (k'.cell b _ hbw id).trans x1; have v2 := (k'.cell b _ hbw id).trans x2; have v3 := (k'.cell b _ hbw id).trans y1; have v4 := (k'.cell b _ hbw id).trans y2; have K' := Lib.hid k'; clear k'))
        go_wp2_with fail
        refine ⟨⟨q + 1 + 1, by omega, by go_num, Lib.hid (HS.out.trans ((Kept.drew _ _).trans K'.out (fun _ _ _ => id)) (fun _ _ _ => id))⟩, by simp [intOf]; omega⟩
    · go_wp2
      go_end0
      exact ⟨rfl, HR.out⟩

set_option maxRecDepth 100000 in
set_option maxHeartbeats 2000000 in
theorem pdqL_any (b o c n m : Nat) (ls : List Lab) (hn : n = ls.length) (hn9 : n ≤ 12) (ha : AscL ls) (w : World) (h : RowL w b o ls) (hb : b < w.heap.size) :
    Calls Tryz.prog 149 #[.slice (some ⟨b, o, none⟩) n c, .int .i64 0, .int .i64 n, .int .i64 m, .func (.func 108) #[] #[]] w fun e w' => e = .returned (.tuple #[]) ∧ Kept (fun _ _ => False) w w' := by
  have HI := Lib.hid (insL_any b o c n ls hn (by omega) ha w h hb)
  clear h hn ha hb
  go_enter Tryz.func149, Tryz.ntmps149
  go_wp2_with fail
  go_loopw [1, 2] (fun x y wr => x = .int .i64 0 ∧ y = .int .i64 n ∧ wr = w) (fun _ _ _ => 0)
  case atStart => exact ⟨rfl, rfl, rfl⟩
  case round =>
    obtain ⟨rfl, rfl, rfl⟩ := hrel
    have hn12 : (n : Int) ≤ 12 := by omega
    go_wp2_with (go_at_call 166; (with_reducible refine HI.out.mono ?_); rintro e w' ⟨rfl, k'⟩; have K' := Lib.hid k'; clear k')
    refine bodyPost_ret (results_none rfl _ _ _) rfl ?_
    exact ⟨rfl, K'.out⟩

set_option maxRecDepth 100000 in
set_option maxHeartbeats 2000000 in
theorem sortL_any (b o c n : Nat) (ls : List Lab) (hn : n = ls.length) (hn9 : n ≤ 12) (ha : AscL ls) (w : World) (h : RowL w b o ls) (hb : b < w.heap.size) :
    Calls Tryz.prog 107 #[.slice (some ⟨b, o, none⟩) n c, .func (.func 108) #[] #[]] w fun e w' => e = .returned (.tuple #[]) ∧ Kept (fun _ _ => False) w w' := by
  have HI := Lib.hid (fun m => pdqL_any b o c n m ls hn hn9 ha w h hb)
  have hbl := Tryz.bits_Len (n : Int)
  have hL : Hid (∀ ws, Calls Tryz.prog 150 #[.int .u64 n] ws fun e w' => e = .returned (.int .i64 (Lib.bitLen n : Nat)) ∧ w' = ws) := Lib.hid (fun ws => by
    have := hbl ws (by omega) (by omega)
    rwa [Int.toNat_natCast] at this)
  clear h hn ha hb hbl
  have wr : IntKind.u64.wrap (n : Int) = n := by simp [IntKind.wrap, IntKind.bits, IntKind.signed]; omega
  go_enter Tryz.func107, Tryz.ntmps107
  go_wp2_with (first | (go_at_call 150; (with_reducible refine (hL.out _).mono ?_); rintro e w' ⟨rfl, rfl⟩) | (go_at_call 149; (with_reducible refine (HI.out _).mono ?_); rintro e w' ⟨rfl, k'⟩; have K' := Lib.hid k'; clear k'))
  go_end0
  exact ⟨rfl, K'.out⟩

end Go.Proofs.YtfipfoplmopkaaaGreatDoor

namespace Go.Proofs.YtfipfoplmopkaaaGreatDoor
open Go.RowKit

set_option maxHeartbeats 1000000 in
theorem sizeEnc_any (n : Nat) (h : n < 255) (w : World) : Calls Tryz.prog 177 #[.int .u64 n] w fun e w' => e = .returned (.int .i64 1) ∧ w' = w := by
  have h' : (n : Int) < 255 := by omega
  go_enter Tryz.func177, Tryz.ntmps177
  go_wp2
  go_ret
  exact ⟨rfl, rfl⟩

set_option maxRecDepth 100000 in
set_option maxHeartbeats 1000000 in
theorem labelSize_any (b o : Nat) (x y : ByteArray) (hx : x.size < 255) (hy : y.size < 255) (w : World) (h1 : w.cell? ⟨b, o, none⟩ = some (.string x)) (h2 : w.cell? ⟨b, o + 1, none⟩ = some (.string y)) :
    Calls Tryz.prog 152 #[.pointer (some ⟨b, o, none⟩)] w fun e w' => e = .returned (.int .i64 (((x.size + 1 + (y.size + 1) : Nat)) : Int)) ∧ w' = w := by
  have w1 : IntKind.u64.wrap (x.size : Int) = x.size := by simp [IntKind.wrap, IntKind.bits, IntKind.signed]; omega
  have w2 : IntKind.u64.wrap (y.size : Int) = y.size := by simp [IntKind.wrap, IntKind.bits, IntKind.signed]; omega
  have hc1 := Lib.hid (fun w => sizeEnc_any x.size hx w)
  have hc2 := Lib.hid (fun w => sizeEnc_any y.size hy w)
  go_enter Tryz.func152, Tryz.ntmps152
  go_wp2_with (first | (go_at_call 177; (with_reducible refine (hc1.out _).mono ?_); rintro e w' ⟨rfl, rfl⟩) | (go_at_call 177; (with_reducible refine (hc2.out _).mono ?_); rintro e w' ⟨rfl, rfl⟩))
  go_ret
  exact ⟨by simp, rfl⟩

set_option maxHeartbeats 1000000 in
theorem encSize_any (g p c n L : Nat) (h : n < 255) (hp : 0 < p) (hpL : p ≤ L) (hL : L < 10000000) (w : World) {x : Value} (hc : w.cell? ⟨g, p - 1, none⟩ = some x) (hf : w.frozen? ⟨g, p - 1, none⟩ = false) :
    Calls Tryz.prog 178 #[.slice (some ⟨g, 0, none⟩) L c, .int .i64 p, .int .i64 n] w fun e w' => e = .returned (.int .i64 ((p - 1 : Nat) : Int)) ∧ w' = w.setCell ⟨g, p - 1, none⟩ (.int .u8 n) := by
  obtain ⟨q, rfl⟩ : ∃ q, p = q + 1 := ⟨p - 1, by omega⟩
  rw [Nat.add_sub_cancel] at *
  have h' : (n : Int) < 255 := by omega
  have w1 : IntKind.u8.wrap (n : Int) = n := by simp [IntKind.wrap, IntKind.bits, IntKind.signed]; omega
  have e1 : (q : Int) < L := by omega
  go_enter Tryz.func178, Tryz.ntmps178
  go_wp2
  go_ret
  exact ⟨rfl, rfl⟩

def bV8 (k : List UInt8) : List Value := k.map fun x => Value.int .u8 (x.toNat : Int)

/-- A block's bytes from p on, N in all; what lies ahead is free to write. -/
structure RB (w : World) (g N p : Nat) (l : List UInt8) : Prop where
  ok : ∀ j, j < N → (w.cell? ⟨g, j, none⟩).isSome = true ∧ w.frozen? ⟨g, j, none⟩ = false
  n : p + l.length = N
  c : ∀ j u, l[j]? = some u → w.cell? ⟨g, p + j, none⟩ = some (bV u)

theorem RB.put {w : World} {g N p : Nat} {l : List UInt8} (h : RB w g N p l) (q : Nat) (k : List UInt8) (hq : q + k.length = p) : RB (w.setCells g q (bV8 k)) g N q (k ++ l) := by
  have hlen : (bV8 k).length = k.length := by simp [bV8]
  have hn := h.n
  have hok : ∀ j, j < (bV8 k).length → ∃ u, w.cell? ⟨g, q + j, none⟩ = some u := fun j hj => Option.isSome_iff_exists.mp (h.ok (q + j) (by omega)).1
  refine ⟨fun j hj => ⟨?_, by rw [World.frozen?_setCells]; exact (h.ok j hj).2⟩, by simp; omega, fun j u hj => ?_⟩
  · by_cases hin : q ≤ j ∧ j < q + k.length
    · obtain ⟨d, rfl⟩ : ∃ d, j = q + d := ⟨j - q, by omega⟩
      have hd : d < (bV8 k).length := by omega
      rw [setCells_get g (bV8 k) q w hok d _ (List.getElem?_eq_getElem hd)]; rfl
    · rw [World.cell?_setCells_out g (bV8 k) q w ⟨g, j, none⟩ (fun _ _ => by simp only [hlen]; omega)]
      exact (h.ok j hj).1
  · by_cases hin : j < k.length
    · rw [List.getElem?_append_left hin] at hj
      exact setCells_get g (bV8 k) q w hok j _ (by simp only [bV8, List.getElem?_map, hj]; rfl)
    · rw [List.getElem?_append_right (by omega)] at hj
      rw [World.cell?_setCells_out g (bV8 k) q w ⟨g, q + j, none⟩ (fun _ _ => by simp only [hlen]; omega)]
      have := h.c _ u hj
      rw [show p + (j - k.length) = q + j by omega] at this
      exact this

theorem RB.drew {w : World} {g N p : Nat} {l : List UInt8} (h : RB w g N p l) : RB w.drew g N p l := ⟨h.ok, h.n, h.c⟩

def eL (x : Lab) : List UInt8 := eS x.1.data.toList ++ eS x.2.data.toList

set_option maxRecDepth 100000 in
set_option maxHeartbeats 2000000 in
theorem marshal1_any (b o : Nat) (x y : ByteArray) (hx : x.size < 255) (hy : y.size < 255) (hx0 : 0 < x.size) (hy0 : 0 < y.size) (g N p q c : Nat) (l : List UInt8) (hp : q + 1 + x.size + 1 + y.size = p) (hpc : p ≤ c) (hc9 : c < 10000000) (hbg : b ≠ g) (w : World) (h1 : w.cell? ⟨b, o, none⟩ = some (.string x)) (h2 : w.cell? ⟨b, o + 1, none⟩ = some (.string y)) (h : RB w g N p l) :
    Calls Tryz.prog 153 #[.pointer (some ⟨b, o, none⟩), .slice (some ⟨g, 0, none⟩) p c] w fun e w' => e = .returned (.int .i64 (((p - q : Nat)) : Int)) ∧ RB w' g N q (eL (x, y) ++ l) ∧ Kept (fun k _ => k = g) w w' := by
  obtain ⟨a1, ha1⟩ : ∃ a1, a1 = q + 1 + x.size + 1 := ⟨_, rfl⟩
  obtain ⟨a2, ha2⟩ : ∃ a2, a2 = q + 1 + x.size := ⟨_, rfl⟩
  obtain ⟨a3, ha3⟩ : ∃ a3, a3 = q + 1 := ⟨_, rfl⟩
  have e1 : (p : Int) - y.size = a1 := by omega
  have e2 : (a2 : Int) - x.size = a3 := by omega
  have hb1 := World.block_lt_of_cell? _ _ h1
  have H := Lib.hid h
  have hN := h.n
  have i1 : (a1 : Int) ≤ p := by omega
  have i2 : a1 < c := by omega
  have i3 : (a3 : Int) ≤ p := by omega
  have i4 : a3 < c := by omega
  have n1 : ¬ c = a1 := by omega
  have n3 : ¬ c = a3 := by omega
  have HA := Lib.hid (And.intro ha1 (And.intro ha2 (And.intro ha3 hp)))
  clear ha1 ha2 ha3 hp h
  go_enter Tryz.func153, Tryz.ntmps153
  go_wp2_with fail
  have R1 := Lib.hid (H.out.drew.put a1 y.data.toList (by have := HA.out; simp; omega))
  have hz5 : ∀ w, (Go.sizeOf 5).run Tryz.prog w = .ok 1 w := Tryz.sizeOf5
  have ok1 : ∀ j, j < y.size → (w.drew.cell? ⟨g, a1 + j, none⟩).isSome = true := fun j hj => (H.out.ok (a1 + j) (by have := HA.out; omega)).1
  have ok2 : ∀ j, j < y.size → w.drew.frozen? ⟨g, a1 + j, none⟩ = false := fun j hj => (H.out.ok (a1 + j) (by have := HA.out; omega)).2
  have hle : y.size ≤ p - a1 := by have := HA.out; omega
  go_region_law (refine step_copy_string rfl _ _ _ _ rfl 5 Tryz.underlying27 hz5 g a1 (p - a1) (c - a1) rfl y rfl hle ok1 ok2 ?_)
  have K1 : Kept (fun k _ => k = g) w (w.drew.setCells g a1 (bV8 y.data.toList)) := (Kept.drew _ w).trans (Kept.setCells _ g a1 _ (fun _ _ => rfl)) (fun _ _ _ => id)
  change Exit.then _ _ _ _ (w.drew.setCells g a1 (bV8 y.data.toList))
  generalize w.drew.setCells g a1 (bV8 y.data.toList) = w1 at *
  have g1 := (K1.cell b o hb1 hbg).trans h1
  have g2 := (K1.cell b (o + 1) hb1 hbg).trans h2
  obtain ⟨v2, hv2⟩ := Option.isSome_iff_exists.mp (R1.out.ok a2 (by have := HA.out; omega)).1
  have HE1 : Hid (Calls Tryz.prog 178 #[.slice (some ⟨g, 0, none⟩) p c, .int .i64 a1, .int .i64 y.size] w1 fun e w' => e = .returned (.int .i64 (a2 : Nat)) ∧ w' = w1.setCells g a2 (bV8 [UInt8.ofNat y.size])) := Lib.hid (by
    have hA := HA.out
    have e : a1 - 1 = a2 := by omega
    have := encSize_any g a1 c y.size p hy (by omega) (by omega) (by omega) w1 (by rw [e]; exact hv2) (by rw [e]; exact (R1.out.ok a2 (by omega)).2)
    rw [e] at this
    refine this.mono fun e w' ⟨h1, h2⟩ => ⟨h1, ?_⟩
    rw [h2]
    show _ = w1.setCell ⟨g, a2, none⟩ (.int .u8 ((UInt8.ofNat y.size).toNat : Int))
    rw [show (UInt8.ofNat y.size).toNat = y.size by simp; omega])
  have R2 := Lib.hid (R1.out.put a2 [UInt8.ofNat y.size] (by have := HA.out; simp; omega))
  have K2 : Kept (fun k _ => k = g) w (w1.setCells g a2 (bV8 [UInt8.ofNat y.size])) := K1.trans (Kept.setCells _ g a2 _ (fun _ _ => rfl)) (fun _ _ _ => id)
  have KK2 := Lib.hid K2
  have H1 := Lib.hid h1
  have H2 := Lib.hid h2
  clear K1 K2 h1 h2 ok1 ok2 hle
  go_wp2_with fail
  refine HE1.out.mono ?_
  rintro e w2 ⟨rfl, hw2⟩
  rw [← hw2] at R2 KK2
  clear g1 g2 hw2 HE1 R1 hv2
  have g1 := (KK2.out.cell b o hb1 hbg).trans H1.out
  have g2 := (KK2.out.cell b (o + 1) hb1 hbg).trans H2.out
  have hle : x.size ≤ p - a3 := by have := HA.out; omega
  have ok1 : ∀ j, j < x.size → (w2.drew.cell? ⟨g, a3 + j, none⟩).isSome = true := fun j hj => (R2.out.ok (a3 + j) (by have := HA.out; omega)).1
  have ok2 : ∀ j, j < x.size → w2.drew.frozen? ⟨g, a3 + j, none⟩ = false := fun j hj => (R2.out.ok (a3 + j) (by have := HA.out; omega)).2
  have R3 := Lib.hid (R2.out.drew.put a3 x.data.toList (by have := HA.out; simp; omega))
  go_wp2_with fail
  go_region_law (refine step_copy_string rfl _ _ _ _ rfl 5 Tryz.underlying27 hz5 g a3 (p - a3) (c - a3) rfl x rfl hle ok1 ok2 ?_)
  have K3 : Kept (fun k _ => k = g) w (w2.drew.setCells g a3 (bV8 x.data.toList)) := (KK2.out.trans (Kept.drew _ w2) (fun _ _ _ => id)).trans (Kept.setCells _ g a3 _ (fun _ _ => rfl)) (fun _ _ _ => id)
  change Exit.then _ _ _ _ (w2.drew.setCells g a3 (bV8 x.data.toList))
  clear ok1 ok2 g1 g2 R2 KK2
  generalize w2.drew.setCells g a3 (bV8 x.data.toList) = w3 at *
  have g1 := (K3.cell b o hb1 hbg).trans H1.out
  have g2 := (K3.cell b (o + 1) hb1 hbg).trans H2.out
  obtain ⟨v4, hv4⟩ := Option.isSome_iff_exists.mp (R3.out.ok q (by have := HA.out; omega)).1
  have HE2 : Hid (Calls Tryz.prog 178 #[.slice (some ⟨g, 0, none⟩) p c, .int .i64 a3, .int .i64 x.size] w3 fun e w' => e = .returned (.int .i64 (q : Nat)) ∧ w' = w3.setCells g q (bV8 [UInt8.ofNat x.size])) := Lib.hid (by
    have hA := HA.out
    have e : a3 - 1 = q := by omega
    have := encSize_any g a3 c x.size p hx (by omega) (by omega) (by omega) w3 (by rw [e]; exact hv4) (by rw [e]; exact (R3.out.ok q (by omega)).2)
    rw [e] at this
    refine this.mono fun e w' ⟨h1, h2⟩ => ⟨h1, ?_⟩
    rw [h2]
    show _ = w3.setCell ⟨g, q, none⟩ (.int .u8 ((UInt8.ofNat x.size).toNat : Int))
    rw [show (UInt8.ofNat x.size).toNat = x.size by simp; omega])
  have R4 := Lib.hid (R3.out.put q [UInt8.ofNat x.size] (by have := HA.out; simp; omega))
  have K4 := Lib.hid (K3.trans (Kept.setCells _ g q (bV8 [UInt8.ofNat x.size]) (fun _ _ => rfl)) (fun _ _ _ => id))
  have e4 : (p : Int) - q = (p - q : Nat) := by have := HA.out; omega
  clear K3 hv4
  go_wp2_with fail
  refine HE2.out.mono ?_
  rintro e w4 ⟨rfl, hw4⟩
  rw [← hw4] at R4 K4
  clear g1 g2 hw4 HE2 R3
  go_wp2_with fail
  go_ret
  refine ⟨rfl, ?_, K4.out⟩
  have := R4.out
  simpa [eL, eS, List.append_assoc] using this

end Go.Proofs.YtfipfoplmopkaaaGreatDoor

namespace Go.Proofs.YtfipfoplmopkaaaGreatDoor
open Go.RowKit

def eLs (ls : List Lab) : List UInt8 := (ls.map eL).flatten
theorem eLs_snoc (ls : List Lab) (x : Lab) : eLs (ls ++ [x]) = eLs ls ++ eL x := by simp [eLs]
theorem eLs_cons (x : Lab) (ls : List Lab) : eLs (x :: ls) = eL x ++ eLs ls := by simp [eLs]
theorem eL_len (x : Lab) : (eL x).length = x.1.size + 1 + (x.2.size + 1) := by simp [eL, eS_len]; omega
/-- The labels are short, and none of their words is empty. -/
structure LOK (ls : List Lab) : Prop where
  a : ∀ x ∈ ls, x.1.size < 255 ∧ x.2.size < 255
  z : ∀ x ∈ ls, 0 < x.1.size ∧ 0 < x.2.size
  n : ls.length ≤ 12
theorem eLs_len (ls : List Lab) (h : ∀ x ∈ ls, x.1.size < 255 ∧ x.2.size < 255) : (eLs ls).length ≤ 512 * ls.length := by
  induction ls with
  | nil => simp [eLs]
  | cons x t ih =>
    have := h x (by simp)
    have := ih (fun y hy => h y (by simp [hy]))
    rw [eLs_cons, List.length_append, eL_len, List.length_cons]; omega

set_option maxRecDepth 100000 in
set_option maxHeartbeats 2000000 in
theorem labelsSize_any (b o c n : Nat) (ls : List Lab) (hn : n = ls.length) (hl : LOK ls) (w : World) (h : RowL w b o ls) (hb : b < w.heap.size) :
    Calls Tryz.prog 110 #[.slice (some ⟨b, o, none⟩) n c] w fun e w' => e = .returned (.int .i64 (((eLs ls).length : Nat) : Int)) ∧ Kept (fun _ _ => False) w w' := by
  have H := Lib.hid h
  have HN := Lib.hid hn
  have HL := Lib.hid hl
  have HB := Lib.hid hb
  have hn9 : n ≤ 12 := by rw [hn]; exact hl.n
  clear h hn hl hb
  go_enter Tryz.func110, Tryz.ntmps110
  go_wp2_with fail
  go_loopw [2, 7] (fun s x wr => ∃ i : Nat, i ≤ n ∧ x = .int .i64 i ∧ s = .int .i64 ((eLs (ls.take i)).length : Nat) ∧ Hid (Kept (fun _ _ => False) w wr)) (fun _ x _ => n - (intOf x).toNat)
  case atStart => exact ⟨0, Nat.zero_le _, rfl, rfl, Lib.hid (Kept.refl _ _)⟩
  case round =>
    obtain ⟨i, hi, rfl, rfl, HR⟩ := hrel
    by_cases hlt : i < n
    · have hil : i < ls.length := by rw [← HN.out]; exact hlt
      have hRow := H.out.kept HR.out (fun _ => id) HB.out
      obtain ⟨x1, x2⟩ := hRow i hil
      have hxa := HL.out.a _ (List.getElem_mem hil)
      have hlen : (eLs (ls.take (i + 1))).length = (eLs (ls.take i)).length + ((ls[i]'hil).1.size + 1 + ((ls[i]'hil).2.size + 1)) := by
        rw [List.take_succ_eq_append_getElem hil, eLs_snoc, List.length_append, eL_len]
      have hle9 : (eLs (ls.take i)).length ≤ 512 * i := by
        have := eLs_len (ls.take i) (fun y hy => HL.out.a y (List.mem_of_mem_take hy))
        rw [List.length_take, Nat.min_eq_left (by omega)] at this; exact this
      obtain ⟨x, hx⟩ : ∃ x, x = (ls[i]'hil).1 := ⟨_, rfl⟩
      obtain ⟨y, hy⟩ : ∃ y, y = (ls[i]'hil).2 := ⟨_, rfl⟩
      rw [← hx] at x1 hxa hlen
      rw [← hy] at x2 hxa hlen
      have hiI : (i : Int) < n := by omega
      obtain ⟨m, hm⟩ : ∃ m, (eLs (ls.take i)).length = m := ⟨_, rfl⟩
      rw [hm] at hlen hle9
      rw [hm]
      have HLEN := Lib.hid hlen
      clear hlen hm hx hy
      go_wp2_with fail
      refine (labelSize_any wr.heap.size 0 x y hxa.1 hxa.2 _ (by rw [World.cell?_alloc_new]; rfl) (by rw [World.cell?_alloc_new]; rfl)).mono ?_
      rintro e w' ⟨rfl, rfl⟩
      go_wp2_with fail
      go_roundw
      case rel => exact ⟨i + 1, by omega, by go_num, by rw [HLEN.out]; go_num, Lib.hid (HR.out.trans (Kept.alloc _ _ _) (fun _ _ _ => id))⟩
      case measure => simp only [intOf]; omega
    · obtain rfl : i = n := by omega
      rw [show ls.take i = ls by rw [HN.out, List.take_length]]
      go_wp2_with fail
      go_ret
      exact ⟨rfl, HR.out⟩

set_option maxRecDepth 100000 in
set_option maxHeartbeats 4000000 in
theorem marshals_any (b o c n g N gc : Nat) (ls : List Lab) (hn : n = ls.length) (hl : LOK ls) (hN : N = (eLs ls).length) (hgc : N ≤ gc) (hgc9 : gc < 10000000) (hbg : b ≠ g) (w : World) (h : RowL w b o ls) (hb : b < w.heap.size) (hr : RB w g N N []) :
    Calls Tryz.prog 111 #[.slice (some ⟨b, o, none⟩) n c, .slice (some ⟨g, 0, none⟩) N gc] w fun e w' => (∃ r, e = .returned (.int .i64 r)) ∧ RB w' g N 0 (eLs ls) ∧ Kept (fun k _ => k = g) w w' := by
  have H := Lib.hid h
  have HN := Lib.hid hn
  have HNN := Lib.hid hN
  have HL := Lib.hid hl
  have HB := Lib.hid hb
  have HRB := Lib.hid hr
  have hn9 : n ≤ 12 := by rw [hn]; exact hl.n
  clear h hn hl hb hN hr
  go_enter Tryz.func111, Tryz.ntmps111
  go_wp2_with fail
  go_loopw [5, 6] (fun s x wr => ∃ k p : Nat, k ≤ n ∧ x = .int .i64 ((k : Int) - 1) ∧ s = .int .i64 p ∧ p ≤ N ∧ Hid (p = (eLs (ls.take k)).length) ∧ Hid (RB wr g N p (eLs (ls.drop k))) ∧ Hid (Kept (fun k _ => k = g) w wr)) (fun _ x _ => (intOf x + 1).toNat)
  case atStart =>
    refine ⟨n, N, Nat.le_refl _, by go_num, rfl, Nat.le_refl _, ?_, ?_, Lib.hid (Kept.refl _ _)⟩
    · rw [HN.out, List.take_length]; exact HNN
    · rw [HN.out, List.drop_length]; exact HRB
  case round =>
    obtain ⟨k, p, hk, rfl, rfl, hpN, HP, HR, HK⟩ := hrel
    by_cases hlt : 0 < k
    · obtain ⟨i, rfl⟩ : ∃ i, k = i + 1 := ⟨k - 1, by omega⟩
      have hil : i < ls.length := by rw [← HN.out]; omega
      have hRow := H.out.kept HK.out (fun _ e => hbg e) HB.out
      obtain ⟨x1, x2⟩ := hRow i hil
      have hxa := HL.out.a _ (List.getElem_mem hil)
      have hxz := HL.out.z _ (List.getElem_mem hil)
      have hlen : p = (eLs (ls.take i)).length + ((ls[i]'hil).1.size + 1 + ((ls[i]'hil).2.size + 1)) := by
        rw [HP.out, List.take_succ_eq_append_getElem hil, eLs_snoc, List.length_append, eL_len]
      have hdr : eLs (ls.drop i) = eL ((ls[i]'hil).1, (ls[i]'hil).2) ++ eLs (ls.drop (i + 1)) := by
        rw [List.drop_eq_getElem_cons hil, eLs_cons]
      obtain ⟨x, hx⟩ : ∃ x, x = (ls[i]'hil).1 := ⟨_, rfl⟩
      obtain ⟨y, hy⟩ : ∃ y, y = (ls[i]'hil).2 := ⟨_, rfl⟩
      rw [← hx] at x1 hxa hlen hxz hdr
      rw [← hy] at x2 hxa hlen hxz hdr
      obtain ⟨q, hq⟩ : ∃ q, q = (eLs (ls.take i)).length := ⟨_, rfl⟩
      rw [← hq] at hlen
      have HQ := Lib.hid hq
      have HDR := Lib.hid hdr
      have hqp : (p : Int) - ((p - q : Nat) : Int) = q := by omega
      have hqN : q ≤ N := by omega
      have MC := Lib.hid (marshal1_any b (o + i * 2) x y hxa.1 hxa.2 hxz.1 hxz.2 g N p q gc _ (by omega) (by omega) hgc9 hbg wr.drew x1 x2 HR.out.drew)
      have e1 : (i : Int) < n := by omega
      have e2 : (p : Int) ≤ gc := by omega
      rw [show (((i + 1 : Nat) : Int) - 1) = (i : Int) by omega]
      clear hlen hx hy hq hdr hRow x1 x2 hxa hxz
      go_wp2_with fail
      go_region_held3 (fun _ => True) (exact trivial) (first | (go_at_call 153; (with_reducible refine MC.out.mono ?_); rintro e w' ⟨rfl, hr', hk'⟩; have HR' := Lib.hid hr'; have HK' := Lib.hid hk'; clear hr' hk'))
      go_wp2_with fail
      go_roundw
      case rel => exact ⟨i, q, by omega, by go_num, rfl, hqN, HQ, Lib.hid (by rw [HDR.out]; exact HR'.out), Lib.hid ((HK.out.trans (Kept.drew _ _) (fun _ _ _ => id)).trans HK'.out (fun _ _ _ => id))⟩
      case measure => simp only [intOf]; omega
    · obtain rfl : k = 0 := by omega
      have h0 : p = 0 := by rw [HP.out]; rfl
      have hR := HR.out
      rw [h0, List.drop_zero] at hR
      have HR0 := Lib.hid hR
      clear hR
      rw [show (((0 : Nat) : Int) - 1) = -1 by decide]
      go_wp2_with fail
      go_ret
      exact ⟨⟨_, rfl⟩, HR0.out, HK.out⟩

end Go.Proofs.YtfipfoplmopkaaaGreatDoor

namespace Go.Proofs.YtfipfoplmopkaaaGreatDoor
open Go.RowKit Go.Maps

theorem keyU : Keyed Tryz.prog 94 := int_keyed Tryz.underlying94
def rawE (v : Value) : Option (DataW Value × List MemPlace) := some (.held v, [])
def uK (a : Nat) : Lit := .int .u32 (a : Int)
theorem uK_inj {a b : Nat} (h : uK a = uK b) : a = b := by unfold uK at h; cases h; rfl
theorem keyU_mk {a : Nat} (h : a < 4294967296) : keyOf Tryz.prog 94 (.int .u32 (a : Int)) = some (uK a) := keyOf_int_mk Tryz.underlying94 (wf_u32 h)
theorem keyU_lit {a : Nat} (h : a < 4294967296) : WideAt.IsKeyLit (uK a) := keyU.key (keyU_mk h)

theorem atKey_has {H : Type} {D : DataW H} {k : Lit} (h : Maps.has D k = true) (z z' : DataW H) : D.atKey k z = D.atKey k z' := by
  cases D <;> try (cases h; done)
  rename_i es
  obtain ⟨p, hp, hpk⟩ := List.any_eq_true.1 h
  have hs : (es.find? (fun p => p.1.sameKey k)).isSome = true := List.find?_isSome.2 ⟨p, hp, hpk⟩
  obtain ⟨x, hx⟩ := Option.isSome_iff_exists.1 hs
  simp [DataW.atKey, hx]

/-- Block b is a map of at most n entries; each entry has E. -/
def RM (w : World) (b n : Nat) (E : Nat → Value → Prop) : Prop :=
  ∃ D : DataW Value, w.ownsMap Tryz.prog 94 rawE b n D ∧ ∀ a v, a < 4294967296 → D.atKey (uK a) .nil = .held v → E a v

theorem RM.lt {w : World} {b n : Nat} {E : Nat → Value → Prop} (h : RM w b n E) : b < w.heap.size := by
  obtain ⟨D, h, _⟩ := h
  exact ownsMap_lt h
theorem RM.made (w : World) (E : Nat → Value → Prop) : RM (w.alloc (.map #[] 0)) w.heap.size 0 E :=
  ⟨_, World.ownsMap_made _ _ _ _, fun a v _ h => by cases h⟩
theorem RM.kept {w w' : World} {b n : Nat} {E : Nat → Value → Prop} {P : Nat → Nat → Prop} (h : RM w b n E) (hk : Kept P w w') (hn : ∀ o, ¬ P b o) : RM w' b n E := by
  obtain ⟨D, h, hE⟩ := h
  exact ⟨D, ownsMap_kept h hk hn, hE⟩
theorem RM.imp {w : World} {b n n' : Nat} {E F : Nat → Value → Prop} (h : RM w b n E) (hn : n ≤ n') (hF : ∀ a v, E a v → F a v) : RM w b n' F := by
  obtain ⟨D, h, hE⟩ := h
  exact ⟨D, h.mono hn, fun a v ha hv => hF a v (hE a v ha hv)⟩

/-- Block b is a map; x stands at a. -/
def RA (w : World) (b a : Nat) (x : Value) : Prop := ∃ (n : Nat) (D : DataW Value), w.ownsMap Tryz.prog 94 rawE b n D ∧ Maps.has D (uK a) = true ∧ D.atKey (uK a) .nil = .held x
theorem RA.look {w : World} {b a : Nat} {x : Value} (h : RA w b a x) {t e : TypeId} (ht : Tryz.prog.underlying t = some (.map 94 e)) {z : Value} (hz : (zeroValue e).run Tryz.prog w = .ok z w) (ha : a < 4294967296) : (Instr.lookup t (.map (some b)) (.int .u32 (a : Int)) false).run Tryz.prog w = .ok x w := by
  obtain ⟨n, D, h, hh, hx⟩ := h
  obtain ⟨v', ps', h3, h4⟩ := h.lookup keyU ht hz (zd := .held z) (zp := []) rfl (keyU_mk ha)
  have e4 : D.atKey (uK a) (.held z) = .held v' := (congrArg Prod.fst (Option.some.inj h4)).symm
  rw [atKey_has hh _ .nil, hx] at e4
  cases e4
  exact h3
theorem RA.blk {w w' : World} {b a : Nat} {x : Value} (h : RA w b a x) (hb : w'.heap[b]? = w.heap[b]?) : RA w' b a x := by
  obtain ⟨n, D, ⟨es, clock, h1, h2⟩, hh⟩ := h
  exact ⟨n, D, ⟨es, clock, hb.trans h1, h2⟩, hh⟩

/-- m[a], with and without 'ok'. -/
theorem RM.look {w : World} {b n : Nat} {E : Nat → Value → Prop} (h : RM w b n E) {t e : TypeId} (ht : Tryz.prog.underlying t = some (.map 94 e)) {z : Value} (hz : ∀ w, (zeroValue e).run Tryz.prog w = .ok z w) {a : Nat} (ha : a < 4294967296) :
    ∃ (ok : Bool) (v : Value), (Instr.lookup t (.map (some b)) (.int .u32 (a : Int)) true).run Tryz.prog w = .ok (.tuple #[v, .bool ok]) w ∧ (∀ W : World, W.heap[b]? = w.heap[b]? → (Instr.lookup t (.map (some b)) (.int .u32 (a : Int)) false).run Tryz.prog W = .ok v W) ∧ ((ok = true ∧ E a v ∧ RM w b n (fun c x => E c x ∧ (c = a → x = v)) ∧ RA w b a v) ∨ (ok = false ∧ v = z)) := by
  obtain ⟨D, h, hE⟩ := h
  obtain ⟨v, ps, h1, h2⟩ := h.look_ok keyU ht (hz w) (zd := .held z) (zp := []) rfl (keyU_mk ha)
  have e2 : D.atKey (uK a) (.held z) = .held v := (congrArg Prod.fst (Option.some.inj h2)).symm
  refine ⟨_, v, h1, fun W hW => ?_, ?_⟩
  · obtain ⟨es, clock, hb, h5⟩ := h
    have hW2 : W.ownsMap Tryz.prog 94 rawE b n D := ⟨es, clock, hW.trans hb, h5⟩
    obtain ⟨v', ps', h3, h4⟩ := hW2.lookup keyU ht (hz W) (zd := .held z) (zp := []) rfl (keyU_mk ha)
    have e4 : D.atKey (uK a) (.held z) = .held v' := (congrArg Prod.fst (Option.some.inj h4)).symm
    obtain rfl : v = v' := by rw [e2] at e4; cases e4; rfl
    exact h3
  · cases hh : Maps.has D (uK a) with
    | true =>
      have e5 := (atKey_has hh .nil (.held z)).trans e2
      refine .inl ⟨rfl, hE a v ha e5, ⟨D, h, fun c x hc hx => ⟨hE c x hc hx, fun e => ?_⟩⟩, n, D, h, hh, e5⟩
      subst e
      rw [e5] at hx; cases hx; rfl
    | false => refine .inr ⟨rfl, ?_⟩; rw [atKey_of_not_has hh] at e2; cases e2; rfl

/-- m[a] = x. -/
theorem RM.put {w : World} {b n : Nat} {E : Nat → Value → Prop} (h : RM w b n E) {t e : TypeId} (ht : Tryz.prog.underlying t = some (.map 94 e)) (hn : n < maxLen) {a : Nat} (ha : a < 4294967296) (x : Value) :
    ∃ w', (Instr.mapUpdate t (.map (some b)) (.int .u32 (a : Int)) x).run Tryz.prog w = .ok () w' ∧ RM w' b (n + 1) (fun c v => if c = a then v = x else E c v) ∧ Kept (fun k _ => k = b) w w' ∧ RA w' b a x := by
  obtain ⟨D, h, hE⟩ := h
  obtain ⟨w', h1, h2, h3⟩ := h.store keyU ht hn (d := .held x) (ps := []) (keyU_mk ha) rfl
  refine ⟨w', h1, ⟨_, h2, fun c v hc hv => ?_⟩, turned_kept h3, _, _, h2, has_put_same h.isMap (keyU_lit ha) _, atKey_put_same h.isMap (keyU_lit ha) _ _⟩
  by_cases e : c = a
  · subst e
    rw [atKey_put_same h.isMap (keyU_lit hc)] at hv
    simp only [if_true]
    cases hv; rfl
  · rw [atKey_put_other (fun e' => e (uK_inj e'))] at hv
    simp only [if_neg e]
    exact hE c v hc hv

/-- len(m). -/
theorem RM.len {w : World} {b n : Nat} {E : Nat → Value → Prop} (h : RM w b n E) {t e : TypeId} (ht : Tryz.prog.underlying t = some (.map 94 e)) (ty : TypeId) : ∃ m : Nat, m ≤ n ∧ (Builtin.len_ #[t] ty #[.map (some b)]).run Tryz.prog w = .ok (.int .i64 (m : Int)) w := by
  obtain ⟨D, h, _⟩ := h
  exact ⟨_, h.size_le, h.len ht ty⟩

/-- The loop over such a map: cnt are still to come. -/
def RG (w : World) (b r n : Nat) (E : Nat → Value → Prop) (cnt : Nat) : Prop :=
  ∃ (D : DataW Value) (left : Lit → Bool), w.ranges Tryz.prog 94 rawE b r n D left cnt ∧ ∀ a v, a < 4294967296 → D.atKey (uK a) .nil = .held v → E a v
theorem RG.left {w : World} {b r n : Nat} {E : Nat → Value → Prop} {cnt : Nat} (h : RG w b r n E cnt) : w.rangeLeft b r = cnt := by
  obtain ⟨D, l, h, _⟩ := h
  exact h.left_eq
theorem RG.kept {w w' : World} {b r n : Nat} {E : Nat → Value → Prop} {cnt : Nat} {P : Nat → Nat → Prop} (h : RG w b r n E cnt) (hk : Kept P w w') (hb : ∀ o, ¬ P b o) (hr : ∀ o, ¬ P r o) : RG w' b r n E cnt := by
  obtain ⟨D, l, h, hE⟩ := h
  have h1 := h.owns.lt
  have h2 := h.lt
  obtain ⟨es, clock, since, seen, c0, hb', F, hs, hD, hr', rest⟩ := h
  exact ⟨D, l, ⟨es, clock, since, seen, c0, (hk.block b h1 hb).trans hb', F, hs, hD, (hk.block r h2 hr).trans hr', rest⟩, hE⟩

theorem kept_grown {w w' : World} (h : w.grownBy w' none) : Kept (fun _ _ => False) w w' :=
  Kept.grown h (fun _ _ e => by cases e) (fun _ _ e => by cases e)

/-- range m, at the operation. -/
theorem RM.range {w : World} {b n : Nat} {E : Nat → Value → Prop} (h : RM w b n E) {t e : TypeId} (ht : Tryz.prog.underlying t = some (.map 94 e)) :
    ∃ w' cnt, (Instr.range t (.map (some b))).run Tryz.prog w = .ok (.pointer (some ⟨w.heap.size, 0, none⟩)) w' ∧ RG w' b w.heap.size n E cnt ∧ cnt ≤ n ∧ Kept (fun _ _ => False) w w' ∧ w'.heap.size = w.heap.size + 1 := by
  obtain ⟨D, h, hE⟩ := h
  obtain ⟨w', h1, h2, h3, h4⟩ := h.range keyU ht
  exact ⟨w', _, h1, ⟨D, _, h2, hE⟩, h.size_le, kept_grown h3, h4⟩

/-- The loop's step. -/
theorem RG.next {w : World} {b r n : Nat} {E : Nat → Value → Prop} {cnt : Nat} (h : RG w b r n E cnt) (ty : TypeId) :
    (cnt = 0 ∧ (Instr.next (.pointer (some ⟨r, 0, none⟩)) false ty).run Tryz.prog w = .ok (.tuple #[.bool false]) w) ∨
    ∃ (x : Nat) (v : Value) (w' : World) (cnt' : Nat), x < 4294967296 ∧ E x v ∧ (Instr.next (.pointer (some ⟨r, 0, none⟩)) false ty).run Tryz.prog w = .ok (.tuple #[.bool true, .int .u32 (x : Int), v]) w' ∧
      RG w' b r n E cnt' ∧ cnt' < cnt ∧ Kept (fun k _ => k = r) w w' ∧ w'.heap.size = w.heap.size ∧ (Instr.entry (.pointer (some ⟨r, 0, none⟩))).run Tryz.prog w' = .ok (.tuple #[.int .u32 (x : Int), v]) w' := by
  obtain ⟨D, l, h, hE⟩ := h
  rcases h.next keyU ty with ⟨h0, _, h1⟩ | ⟨key, v, kl, y, w', cnt', hkey, hlk, hv, hat, hrun, hrg, hlt, hgr, hsz, hen⟩
  · exact .inl ⟨h0, h1⟩
  · obtain ⟨x, rfl, rfl, hx⟩ := Maps.keyOf_int_inv Tryz.underlying94 hkey
    have e1 : IntKind.u32.min = 0 := rfl
    have e2 : IntKind.u32.max = 4294967295 := rfl
    have hx' : 0 ≤ x ∧ x < 4294967296 := by simp [Lit.wf, e1, e2] at hx; omega
    have hxx : ((x.toNat : Nat) : Int) = x := by omega
    have hat' := hat .nil
    unfold rawE at hv
    cases hv
    refine .inr ⟨x.toNat, v, w', cnt', by omega, hE _ _ (by omega) (by unfold uK; rw [hxx]; exact hat'), by rw [hxx]; exact hrun, ⟨D, _, hrg, hE⟩, hlt, ?_, hsz, by rw [hxx]; exact hen⟩
    refine Kept.grown hgr (fun k _ e => by cases e; rfl) (fun k o e => ?_)
    cases e
    obtain ⟨es, clock, since, seen, c0, _, _, _, _, hr, _⟩ := h
    obtain ⟨es', clock', since', seen', c0', _, _, _, _, hr', _⟩ := hrg
    simp [World.frozen?, hr, hr']

end Go.Proofs.YtfipfoplmopkaaaGreatDoor
