/- slices.Sort of numbers of 32 bits: the pattern breaker. Conditions: the row is there. Encbuf.PutVarint64, PutBE64. Conditions: bounds on lengths. Numbers in groups of seven bits, read: dennwcvarint.Uvarint. Condition: below 268435456. Decbuf: Uvarint64, Uvarint, Skip, Len, Err, ConsumePadding, UvarintBytes. Conditions: what is read is there. -/
import Derived.Test.YtfipfoplmopkaaaGreatDoorZ13
import Derived.Test.YtfipfoplmopkaaaGreatDoorZ01
import Derived.Test.YtfipfoplmopkaaaGreatDoorZ12
import Derived.Sort.Walk7a
import Derived.Laws.Bits64
import Derived.Laws.Bits64b
import Derived.Lib.ItoaNum
import Derived.Lib.VarintBits

namespace Go.Proofs.YtfipfoplmopkaaaGreatDoor
open Go.RowKit

set_option maxRecDepth 100000 in
set_option maxHeartbeats 2000000 in
theorem xor_any (rb X : Nat) (hX : X < 18446744073709551616) (w : World) (hc : w.cell? ⟨rb, 0, none⟩ = some (.int .u64 X)) (hf : w.frozen? ⟨rb, 0, none⟩ = false) :
    Calls Tryz.prog 202 #[.pointer (some ⟨rb, 0, none⟩)] w fun e w' => ∃ C : Nat, C < 18446744073709551616 ∧ e = .returned (.int .u64 C) ∧ w' = (w.setCell ⟨rb, 0, none⟩ (.int .u64 C)).drewN 3 := by
  obtain ⟨A, hA⟩ : ∃ A : Nat, A = X ^^^ (X * 8192 % 18446744073709551616) := ⟨_, rfl⟩
  obtain ⟨B, hB⟩ : ∃ B : Nat, B = A ^^^ (A / 128) := ⟨_, rfl⟩
  obtain ⟨C, hC⟩ : ∃ C : Nat, C = B ^^^ (B * 131072 % 18446744073709551616) := ⟨_, rfl⟩
  have lA : A < 18446744073709551616 := by rw [hA]; exact Nat.xor_lt_two_pow (n := 64) (by omega) (by omega)
  have lB : B < 18446744073709551616 := by rw [hB]; exact Nat.xor_lt_two_pow (n := 64) (by omega) (by omega)
  have lC : C < 18446744073709551616 := by rw [hC]; exact Nat.xor_lt_two_pow (n := 64) (by omega) (by omega)
  have e1 : bits .xor .u64 (X : Int) (IntKind.u64.wrap ((X : Int) * 8192)) = (A : Int) := by
    rw [IntKind.wrap_u64, show ((X : Int) * 8192 % 18446744073709551616) = ((X * 8192 % 18446744073709551616 : Nat) : Int) by omega, bits_xor_u64_nat _ _ hX (by omega), hA]
  have e2 : bits .xor .u64 (A : Int) ((A : Int) / 128) = (B : Int) := by
    rw [show ((A : Int) / 128) = ((A / 128 : Nat) : Int) by omega, bits_xor_u64_nat _ _ lA (by omega), hB]
  have e3 : bits .xor .u64 (B : Int) (IntKind.u64.wrap ((B : Int) * 131072)) = (C : Int) := by
    rw [IntKind.wrap_u64, show ((B : Int) * 131072 % 18446744073709551616) = ((B * 131072 % 18446744073709551616 : Nat) : Int) by omega, bits_xor_u64_nat _ _ lB (by omega), hC]
  clear hA hB hC
  have hss : ∀ v v', (w.setCell ⟨rb, 0, none⟩ v).setCell ⟨rb, 0, none⟩ v' = w.setCell ⟨rb, 0, none⟩ v' := setCell_setCell w rb 0
  go_enter Tryz.func202, Tryz.ntmps202
  go_wp2
  go_region
  all_goals go_wp2
  all_goals go_region
  all_goals go_wp2
  all_goals go_region
  all_goals go_wp2
  go_ret
  exact ⟨C, lC, rfl, rfl⟩

theorem npot_any (n : Nat) (h1 : 1 ≤ n) (hn : n < 1000000000) (w : World) :
    Calls Tryz.prog 201 #[.int .i64 n] w fun e w' => ∃ p : Nat, 1 ≤ p ∧ p ≤ 2 * n ∧ e = .returned (.int .u64 p) ∧ w' = w := by
  have h := Tryz.bits_Len (n : Int)
  have hL : ∀ ws, Calls Tryz.prog 150 #[.int .u64 n] ws fun e w' => e = .returned (.int .i64 (Lib.bitLen n : Nat)) ∧ w' = ws := fun ws => by
    have := h ws (by omega) (by omega)
    rwa [Int.toNat_natCast] at this
  clear h
  obtain ⟨k, hk⟩ : ∃ k, k = Lib.bitLen n := ⟨_, rfl⟩
  have hp : 2 ^ k ≤ 2 * n ∧ k ≤ 62 := by
    obtain ⟨a, b, _⟩ := Lib.bitLenAux_bounds 64 n (by omega) (by omega)
    have e : k = Lib.bitLenAux 64 n := hk
    rw [← e] at a b
    obtain ⟨m, rfl⟩ : ∃ m, k = m + 1 := ⟨k - 1, by omega⟩
    rw [Nat.add_sub_cancel] at b
    refine ⟨by rw [Nat.pow_succ]; omega, ?_⟩
    rcases Nat.lt_or_ge m 62 with h | h
    · omega
    · have := Nat.pow_le_pow_right (n := 2) (by decide) h
      omega
  have h2 : 1 ≤ 2 ^ k := Nat.one_le_two_pow
  have hw := wrap_two_pow k hp.2
  rw [← hk] at hL
  clear hk
  go_enter Tryz.func201, Tryz.ntmps201
  have wr : IntKind.u64.wrap (n : Int) = n := by simp [IntKind.wrap, IntKind.bits, IntKind.signed]; omega
  go_wp2_with (go_at_call 150; refine (hL _).mono ?_; rintro e w' ⟨rfl, rfl⟩)
  go_ret
  exact ⟨1 <<< k, by rw [Nat.one_shiftLeft]; exact h2, by rw [Nat.one_shiftLeft]; exact hp.1, rfl, rfl⟩

/-- The row, and the box of random numbers at rb. -/
def UX (Q : Int → Prop) (b off n rb : Nat) (w w' : World) : Prop :=
  US Q b off n w w' ∧ ∃ X : Nat, X < 18446744073709551616 ∧ w'.cell? ⟨rb, 0, none⟩ = some (.int .u64 X) ∧ w'.frozen? ⟨rb, 0, none⟩ = false

theorem UX.swap {Q : Int → Prop} {b off n rb : Nat} {w w1 : World} (h : UX Q b off n rb w w1) (hr : b < rb) (i j : Nat) (hi : i < n) (hj : j < n) {x y : Int} (hx : Q x) (hy : Q y) :
    UX Q b off n rb w ((w1.setCell ⟨b, off + i, none⟩ (.int .u32 x)).setCell ⟨b, off + j, none⟩ (.int .u32 y)).drew := by
  obtain ⟨h1, X, hX, hc, hf⟩ := h
  refine ⟨(h1.swap i j hi hj hx hy).drew, X, hX, ?_, ?_⟩
  · show ((w1.setCell ⟨b, off + i, none⟩ (.int .u32 x)).setCell ⟨b, off + j, none⟩ (.int .u32 y)).cell? _ = _
    rw [World.cell?_setCell_other _ _ _ _ (fun e => by have := congrArg Addr.block e; simp only [] at this; omega), World.cell?_setCell_other _ _ _ _ (fun e => by have := congrArg Addr.block e; simp only [] at this; omega)]
    exact hc
  · show ((w1.setCell ⟨b, off + i, none⟩ (.int .u32 x)).setCell ⟨b, off + j, none⟩ (.int .u32 y)).frozen? _ = _
    rw [World.frozen?_setCell, World.frozen?_setCell]
    exact hf

set_option maxRecDepth 100000 in
set_option maxHeartbeats 2000000 in
theorem breakPatterns_any (Q : Int → Prop) (b off n c f l : Nat) (w : World) (h : UR Q w b off n) (hb : b < w.heap.size) (hh : f + l ≤ n) (hn : n < 1000000000) :
    Calls Tryz.prog 193 #[.slice (some ⟨b, off, none⟩) n c, .int .i64 f, .int .i64 ((f + l : Nat) : Int)] w fun e w' => e = .returned (.tuple #[]) ∧ US Q b off n w w' := by
  have H := Lib.hid h
  clear h
  have ZL := Lib.hid (show (f : Int) + l - f = l by omega)
  go_enter Tryz.func193, Tryz.ntmps193
  by_cases h8 : l < 8
  · have g8 : ¬ (8 : Int) ≤ l := by omega
    go_wp2_with fail
    simp only [ZL.out]
    go_wp2_with fail
    go_end0
    exact ⟨rfl, US.refl H.out⟩
  · have g8 : (8 : Int) ≤ l := by omega
    go_wp2_with fail
    simp only [ZL.out, Int.natCast_add]
    go_wp2_with fail
    obtain ⟨q, hq⟩ : ∃ q, q = l / 4 := ⟨_, rfl⟩
    have ZQ := Lib.hid (show (l : Int) / 4 = q by omega)
    have hq1 : 2 ≤ q := by omega
    have hq2 : 2 * q + 2 ≤ l := by omega
    clear hq
    have X0 : Hid (UX Q b off n w.heap.size w (w.alloc (Obj.cells #[Value.int IntKind.u64 ↑l] 302))) :=
      Lib.hid ⟨⟨H.out.kept (P := fun _ => False) (Kept.alloc _ _ _) id, Kept.alloc _ _ _⟩, l, by omega, World.cell?_alloc_new _ _ _ _, World.frozen?_alloc_new _ _ _ _⟩
    refine (npot_any l (by omega) (by omega) _).mono ?_
    rintro e w1 ⟨p, hp1, hp2, rfl, rfl⟩
    obtain ⟨rb, hrb⟩ : ∃ rb, rb = w.heap.size := ⟨_, rfl⟩
    rw [← hrb] at X0 hb
    simp only [← hrb]
    have HRB := Lib.hid hrb
    clear hrb
    have zp : IntKind.u64.wrap ((p : Int) - 1) = ((p - 1 : Nat) : Int) := by
      rw [IntKind.wrap_u64]; omega
    go_wp2_with fail
    simp only [ZQ.out]
    go_wp2_with fail
    rw [show decide ((8 : Int) ≤ (l : Int)) = true from decide_eq_true g8]
    go_loopw [9] (fun x wr => ∃ t : Nat, f + 2 * q - 1 ≤ t ∧ t ≤ f + 2 * q + 2 ∧ x = .int .i64 t ∧ Hid (UX Q b off n rb w wr)) (fun x _ => f + 2 * q + 2 - (intOf x).toNat)
    case atStart => exact ⟨f + 2 * q - 1, by omega, by omega, congrArg (Value.int .i64) (by omega), X0⟩
    case round =>
      obtain ⟨t, ht0, ht1, rfl, HR⟩ := hrel
      by_cases ht : t < f + 2 * q + 2
      · have ht' : (t : Int) ≤ (f : Int) + (l : Int) / 4 * 2 + 1 := by have := ZQ.out; omega
        go_wp2_with fail
        obtain ⟨X, hX, hXc, hXf⟩ := HR.out.2
        refine (xor_any rb X hX wr hXc hXf).mono ?_
        rintro e w1 ⟨C, hC, rfl, rfl⟩
        obtain ⟨a, ha⟩ : ∃ a, a = C &&& (p - 1) := ⟨_, rfl⟩
        have zb : bits .and .u64 (C : Int) ((p - 1 : Nat) : Int) = a := by rw [bits_and_u64_nat _ _ hC (by omega), ha]
        have ha2 : a < 2 * l := by have := Nat.and_le_right (n := C) (m := p - 1); omega
        clear ha
        have za : IntKind.i64.wrap (a : Int) = a := IntWalk.i64_in _ (by omega)
        have K1 : Kept (fun k _ => k = rb) wr ((wr.setCell ⟨rb, 0, none⟩ (.int .u64 C)).drewN 3) := by
          have k := Kept.setCell (P := fun k _ => k = rb) wr rb 0 (.int .u64 C) rfl
          exact ⟨k.os, k.tape, k.output, k.size, k.cell, k.fr, k.block⟩
        have HR2 : Hid (UX Q b off n rb w ((wr.setCell ⟨rb, 0, none⟩ (.int .u64 C)).drewN 3)) := by
          refine Lib.hid ⟨⟨HR.out.1.1.kept (P := fun k => k = rb) K1 (by omega), ?_⟩, C, hC, World.cell?_setCell_same _ _ _ hXc, ?_⟩
          · exact HR.out.1.2.trans K1 (fun i o hi e => by have := HRB.out; omega)
          · exact (World.frozen?_setCell _ _ _ _).trans hXf
        clear K1
        clear hXc hXf HR
        obtain ⟨w2, hw2⟩ : ∃ w2, w2 = (wr.setCell ⟨rb, 0, none⟩ (.int .u64 C)).drewN 3 := ⟨_, rfl⟩
        rw [← hw2] at HR2 ⊢
        clear hw2
        by_cases hal : a < l
        case' pos =>
          have hal' : ¬ (l : Int) ≤ a := by omega
          go_wp2_with fail
          obtain ⟨o, ho, hoe⟩ : ∃ o, o < l ∧ o = a := ⟨a, hal, rfl⟩
          rw [← hoe]
          clear hoe hal'
        case' neg =>
          have hal' : (l : Int) ≤ a := by omega
          go_wp2_with fail
          obtain ⟨o, ho, hoe⟩ : ∃ o, o < l ∧ o = a - l := ⟨a - l, by omega, rfl⟩
          rw [show (a : Int) - l = (o : Int) by omega]
          clear hoe hal'
        all_goals
          clear hal zb za ha2 ht'
          obtain ⟨⟨u, hu, qu⟩, fu⟩ := HR2.out.1.1 t (by omega)
          obtain ⟨⟨v, hv, qv⟩, fv⟩ := HR2.out.1.1 (f + o) (by omega)
          have b0 : (t : Int) < n := by omega
          have b1 : (f : Int) + o < n := by omega
          have b2 : ((f : Int) + o).toNat = f + o := by omega
          have b3 : (0 : Int) ≤ (f : Int) + o := by omega
          have z1 : IntKind.i64.wrap ((f : Int) + o) = (f : Int) + o := IntWalk.i64_in _ (by omega)
          obtain ⟨v1, hv1⟩ := cell_setCell_some (w := w2) (p := ⟨b, off + t, none⟩) (x := .int .u32 v) hv
          obtain ⟨v2, hv2⟩ := cell_setCell_some (w := w2) (p := ⟨b, off + (f + o), none⟩) (x := .int .u32 u) hu
          go_region
          all_goals
            go_wp2_with fail
            go_roundw
            case rel =>
              refine ⟨t + 1, by omega, by omega, congrArg (Value.int .i64) (by omega), ?_⟩
              first
                | exact Lib.hid (HR2.out.swap hb t (f + o) (by omega) (by omega) qv qu)
                | exact Lib.hid (HR2.out.swap hb (f + o) t (by omega) (by omega) qu qv)
            case measure => simp [intOf]; omega
      · have ht' : ¬ (t : Int) ≤ (f : Int) + (l : Int) / 4 * 2 + 1 := by have := ZQ.out; omega
        go_wp2_with fail
        go_end0
        exact ⟨rfl, HR.out.1⟩

end Go.Proofs.YtfipfoplmopkaaaGreatDoor

namespace Go.Proofs.YtfipfoplmopkaaaGreatDoor
open Go.RowKit

theorem zigzag_lt {x : Int} (h0 : -9223372036854775808 ≤ x) (h1 : x ≤ 9223372036854775807) : Lib.zigzag x < 18446744073709551616 := by
  unfold Lib.zigzag
  split <;> omega

set_option maxRecDepth 100000 in
/-- Encbuf.PutVarint64. -/
theorem putVarint64_any (eb o : Nat) (g : Option Nat) (l : List UInt8) (x : Int) (w : World) (h : EB w eb o g l) (hn : l.length < 1000000000) (h0 : -9223372036854775808 ≤ x) (h1 : x ≤ 9223372036854775807) :
    Calls Tryz.prog 45 #[.pointer (some ⟨eb, o, none⟩), .int .i64 x] w fun e w' => e = .returned (.tuple #[]) ∧ Put w eb o g (l ++ Lib.uvarint (Lib.zigzag x)) w' := by
  have H := Lib.hid h
  have hlen := Lib.uvarint_length64 (zigzag_lt h0 h1)
  clear h
  obtain ⟨m, hm⟩ : ∃ m, m = (Lib.uvarint (Lib.zigzag x)).length := ⟨_, rfl⟩
  rw [← hm] at hlen
  have HM := Lib.hid hm
  clear hm
  go_enter Tryz.func45, Tryz.ntmps45
  go_wp2_with fail
  refine (Tryz.binary_PutVarint eb (o + 1) 10 10 x h0 h1 w (by rw [← HM.out]; exact hlen) (fun j hj => ?_)).mono ?_
  · rw [← HM.out] at hj
    obtain ⟨y, hy⟩ := H.out.c j (by omega)
    have := H.out.fr (1 + j) (by omega)
    rw [← Nat.add_assoc] at this
    exact ⟨by rw [hy]; rfl, this⟩
  rw [← HM.out]
  rintro e w1 ⟨rfl, hw1⟩
  obtain ⟨E2, K2, C2⟩ := H.out.wrote (Lib.uvarint (Lib.zigzag x)) (by rw [← HM.out]; exact hlen) id (fun _ => Kept.refl _ _) hw1
  clear hw1
  obtain ⟨v, hv, hb⟩ := E2.b
  have h0 := E2.fr 0 (by omega)
  rw [Nat.add_zero] at h0
  have HE := Lib.hid E2
  have HB := Lib.hid hb
  have HC := Lib.hid C2
  clear E2 hb C2
  have hi1 : (m : Int) ≤ 10 := by omega
  have hi0 : (0 : Int) ≤ (m : Int) := by omega
  go_wp2
  go_region_law (refine step_appB _ rfl _ _ rfl v g l (Lib.uvarint (Lib.zigzag x)) rfl HB.out (some ⟨eb, o + 1, none⟩) m 10 rfl HM.out.symm (fun e => by cases e) (fun ad e j u hj => by cases e; rw [Addr.add_lit]; exact HC.out j u hj) (by omega) (fun v' w' ha => ?_); obtain ⟨ao', c', rfl⟩ := own_slice ha.own; obtain ⟨hcell, hfr⟩ := HE.out.drew.cellApp hv HB.out ha; have HA := Lib.hid ha; clear ha)
  go_wp2
  go_end0
  exact ⟨rfl, Put.trans (.inl rfl) (K2.trans (Kept.drew _ _) (fun _ _ _ => id)) (HE.out.drew.put hv HA.out)⟩

set_option maxRecDepth 100000 in
/-- Encbuf.PutBE64. -/
theorem putBE64_any (eb o : Nat) (g : Option Nat) (l : List UInt8) (x : Nat) (w : World) (h : EB w eb o g l) (hn : l.length < 1000000000) (hx : x < 18446744073709551616) :
    Calls Tryz.prog 37 #[.pointer (some ⟨eb, o, none⟩), .int .u64 x] w fun e w' => e = .returned (.tuple #[]) ∧ Put w eb o g (l ++ Lib.beBytes 8 x) w' := by
  have H := Lib.hid h
  have hlen : (Lib.beBytes 8 x).length = 8 := Lib.beBytes_length 8 x
  clear h
  have CC : Hid (∀ j, j < 8 → (∃ y, w.drew.cell? ⟨eb, o + 1 + j, none⟩ = some y) ∧ w.drew.frozen? ⟨eb, o + 1 + j, none⟩ = false) := Lib.hid (fun j hj => by
    obtain ⟨y, hy⟩ := H.out.drew.c j (by omega)
    have := H.out.drew.fr (1 + j) (by omega)
    rw [← Nat.add_assoc] at this
    exact ⟨⟨_, hy⟩, this⟩)
  go_enter Tryz.func37, Tryz.ntmps37
  go_wp2
  go_still_tail 6, (by kernel_rfl)
  go_wp2_with fail
  obtain ⟨⟨y0, c0⟩, f0⟩ := CC.out 0 (by decide)
  obtain ⟨⟨y1, c1⟩, f1⟩ := CC.out 1 (by decide)
  obtain ⟨⟨y2, c2⟩, f2⟩ := CC.out 2 (by decide)
  obtain ⟨⟨y3, c3⟩, f3⟩ := CC.out 3 (by decide)
  obtain ⟨⟨y4, c4⟩, f4⟩ := CC.out 4 (by decide)
  obtain ⟨⟨y5, c5⟩, f5⟩ := CC.out 5 (by decide)
  obtain ⟨⟨y6, c6⟩, f6⟩ := CC.out 6 (by decide)
  obtain ⟨⟨y7, c7⟩, f7⟩ := CC.out 7 (by decide)
  refine (Tryz.binary_BE_PutUint64 eb (o + 1) _ _ x hx y0 y1 y2 y3 y4 y5 y6 y7 w.drew (by omega) c0 c1 c2 c3 c4 c5 c6 c7 f0 f1 f2 f3 f4 f5 f6 f7).mono ?_
  clear c0 c1 c2 c3 c4 c5 c6 c7 f0 f1 f2 f3 f4 f5 f6 f7 CC
  rintro e w1 ⟨rfl, hw1⟩
  obtain ⟨E2, K2, C2⟩ := (H.out.drew.kept (Kept.alloc (fun _ _ => False) _ (.cells #[] 157)) (fun _ _ => id) (fun _ _ _ => id)).wrote (Lib.beBytes 8 x) (by omega) id (fun _ => Kept.refl _ _) hw1
  have K3 : Kept (ebP eb o g) w w1 := ((Kept.drew _ w).trans (Kept.alloc _ _ _) (fun _ _ _ h => h)).trans K2 (fun _ _ _ => id)
  clear hw1 K2
  obtain ⟨v, hv, hb⟩ := E2.b
  have h0 := E2.fr 0 (by omega)
  rw [Nat.add_zero] at h0
  have HE := Lib.hid E2
  have HB := Lib.hid hb
  have HC := Lib.hid C2
  have HLEN := Lib.hid hlen
  clear E2 hb C2 hlen
  go_wp2
  go_region_law (refine step_appB _ rfl _ _ rfl v g l (Lib.beBytes 8 x) rfl HB.out (some ⟨eb, o + 1, none⟩) 8 10 rfl HLEN.out.symm (fun e => by cases e) (fun ad e j u hj => by cases e; rw [Addr.add_lit]; exact HC.out j u hj) (by omega) (fun v' w' ha => ?_); obtain ⟨ao', c', rfl⟩ := own_slice ha.own; obtain ⟨hcell, hfr⟩ := HE.out.drew.cellApp hv HB.out ha; have HA := Lib.hid ha; clear ha)
  go_wp2
  go_end0
  exact ⟨rfl, Put.trans (.inl rfl) (K3.trans (Kept.drew _ _) (fun _ _ _ => id)) (HE.out.drew.put hv HA.out)⟩

end Go.Proofs.YtfipfoplmopkaaaGreatDoor

namespace Go.Proofs.YtfipfoplmopkaaaGreatDoor
open Go.RowKit

set_option maxRecDepth 100000 in
set_option maxHeartbeats 1000000 in
theorem uvr1 (b off n c x : Nat) (w : World) (hn : 1 ≤ n) (hx : x < 128) (h0 : w.cell? ⟨b, off, none⟩ = some (.int .u8 x)) :
    Calls Tryz.prog 165 #[.slice (some ⟨b, off, none⟩) n c] w fun e w' => e = .returned (.tuple #[.int .u64 x, .int .i64 1]) ∧ w = w' := by
  have e1 : ((n : Int) == 0) = false := by simp; omega
  have e2 : (x : Int) < 128 := by omega
  have hi0 : (0 : Int) < n := by omega
  by_cases h10 : 10 ≤ (n : Int)
  · go_enter Tryz.func165, Tryz.ntmps165
    go_wp2
    go_ret2
    exact ⟨rfl, rfl⟩
  · go_enter Tryz.func165, Tryz.ntmps165
    go_wp2
    go_ret2
    exact ⟨rfl, rfl⟩

set_option maxRecDepth 100000 in
theorem and127_nat : ∀ a : Fin 256, bits BinOp.and IntKind.u8 (a.val : Int) 127 = ((a.val % 128 : Nat) : Int) := by decide +kernel
theorem and127 (p : Nat) (h : p < 256) : bits BinOp.and IntKind.u8 (p : Int) 127 = ((p % 128 : Nat) : Int) := and127_nat ⟨p, h⟩

theorem or7 (p q : Nat) (hp : p < 256) (hq : q < 128) : bits BinOp.or IntKind.u64 (IntKind.u64.wrap (bits BinOp.and IntKind.u8 (p : Int) 127)) ((q : Int) * 128) = ((p % 128 + q * 128 : Nat) : Int) := by
  rw [and127 p hp, IntWalk.u64_in _ (by omega), u64_orv7 _ _ (by omega) (by omega) (by omega) (by omega) (by omega)]
  omega

theorem or14 (p q r : Nat) (hp : p < 256) (hq : q < 256) (hr : r < 128) : bits BinOp.or IntKind.u64 (bits BinOp.or IntKind.u64 (IntKind.u64.wrap (bits BinOp.and IntKind.u8 (p : Int) 127)) (IntKind.u64.wrap (IntKind.u64.wrap (bits BinOp.and IntKind.u8 (q : Int) 127) * 128))) ((r : Int) * 16384) = ((p % 128 + q % 128 * 128 + r * 16384 : Nat) : Int) := by
  rw [and127 q hq, IntWalk.u64_in ((q % 128 : Nat) : Int) (by omega), IntWalk.u64_in (((q % 128 : Nat) : Int) * 128) (by omega), or7 p (q % 128) hp (by omega), u64_orv14 _ _ (by omega) (by omega) (by omega) (by omega) (by omega)]
  omega

set_option maxRecDepth 100000 in
set_option maxHeartbeats 1000000 in
theorem uvr2 (b off : Nat) (p q n c : Nat) (w : World) (hp : 128 ≤ p) (hp' : p < 256) (hq : q < 128) (hn : 2 ≤ n) (h0 : w.cell? ⟨b, off, none⟩ = some (.int .u8 (p : Int))) (h1 : w.cell? ⟨b, off + 1, none⟩ = some (.int .u8 (q : Int))) :
    Calls Tryz.prog 165 #[.slice (some ⟨b, off, none⟩) n c] w fun e w' => e = .returned (.tuple #[.int .u64 ((p % 128 + q * 128 : Nat) : Int), .int .i64 2]) ∧ w = w' := by
  have e0 : ((n : Int) == 0) = false := by simp; omega
  have e1 : ((n : Int) == 1) = false := by simp; omega
  have hi0 : (0 : Int) < n := by omega
  have hi1 : (1 : Int) < n := by omega
  have l0 : ¬ (p : Int) < 128 := by omega
  have l1 : (q : Int) < 128 := by omega
  by_cases h10 : 10 ≤ (n : Int)
  · go_enter Tryz.func165, Tryz.ntmps165
    go_wp2
    go_ret2
    exact ⟨congrArg (fun v => Ending.returned (Value.tuple #[Value.int .u64 v, .int .i64 2])) (or7 p q hp' hq), rfl⟩
  · go_enter Tryz.func165, Tryz.ntmps165
    go_wp2
    go_ret2
    exact ⟨congrArg (fun v => Ending.returned (Value.tuple #[Value.int .u64 v, .int .i64 2])) (or7 p q hp' hq), rfl⟩

set_option maxRecDepth 100000 in
set_option maxHeartbeats 1000000 in
theorem uvr3 (b off : Nat) (p q r n c : Nat) (w : World) (hp : 128 ≤ p) (hp' : p < 256) (hq : 128 ≤ q) (hq' : q < 256) (hr : r < 128) (hn : 3 ≤ n) (h0 : w.cell? ⟨b, off, none⟩ = some (.int .u8 (p : Int))) (h1 : w.cell? ⟨b, off + 1, none⟩ = some (.int .u8 (q : Int))) (h2 : w.cell? ⟨b, off + 2, none⟩ = some (.int .u8 (r : Int))) :
    Calls Tryz.prog 165 #[.slice (some ⟨b, off, none⟩) n c] w fun e w' => e = .returned (.tuple #[.int .u64 ((p % 128 + q % 128 * 128 + r * 16384 : Nat) : Int), .int .i64 3]) ∧ w = w' := by
  have e0 : ((n : Int) == 0) = false := by simp; omega
  have e1 : ((n : Int) == 1) = false := by simp; omega
  have e2 : ((n : Int) == 2) = false := by simp; omega
  have hi0 : (0 : Int) < n := by omega
  have hi1 : (1 : Int) < n := by omega
  have hi2 : (2 : Int) < n := by omega
  have l0 : ¬ (p : Int) < 128 := by omega
  have l1 : ¬ (q : Int) < 128 := by omega
  have l2 : (r : Int) < 128 := by omega
  by_cases h10 : 10 ≤ (n : Int)
  · go_enter Tryz.func165, Tryz.ntmps165
    go_wp2
    go_ret2
    exact ⟨congrArg (fun v => Ending.returned (Value.tuple #[Value.int .u64 v, .int .i64 3])) (or14 p q r hp' hq' hr), rfl⟩
  · go_enter Tryz.func165, Tryz.ntmps165
    go_wp2
    go_ret2
    exact ⟨congrArg (fun v => Ending.returned (Value.tuple #[Value.int .u64 v, .int .i64 3])) (or14 p q r hp' hq' hr), rfl⟩

theorem or21 (p q r t : Nat) (hp : p < 256) (hq : q < 256) (hr : r < 256) (ht : t < 128) : bits BinOp.or IntKind.u64 (bits BinOp.or IntKind.u64 (bits BinOp.or IntKind.u64 (IntKind.u64.wrap (bits BinOp.and IntKind.u8 (p : Int) 127)) (IntKind.u64.wrap (IntKind.u64.wrap (bits BinOp.and IntKind.u8 (q : Int) 127) * 128))) (IntKind.u64.wrap (IntKind.u64.wrap (bits BinOp.and IntKind.u8 (r : Int) 127) * 16384))) ((t : Int) * 2097152) = ((p % 128 + q % 128 * 128 + r % 128 * 16384 + t * 2097152 : Nat) : Int) := by
  rw [and127 r hr, IntWalk.u64_in ((r % 128 : Nat) : Int) (by omega), IntWalk.u64_in (((r % 128 : Nat) : Int) * 16384) (by omega), or14 p q (r % 128) hp hq (by omega), u64_orv21 _ _ (by omega) (by omega) (by omega) (by omega) (by omega)]
  omega

set_option maxRecDepth 100000 in
set_option maxHeartbeats 1000000 in
theorem uvr4 (b off : Nat) (p q r t n c : Nat) (w : World) (hp : 128 ≤ p) (hp' : p < 256) (hq : 128 ≤ q) (hq' : q < 256) (hr : 128 ≤ r) (hr' : r < 256) (ht : t < 128) (hn : 4 ≤ n) (h0 : w.cell? ⟨b, off, none⟩ = some (.int .u8 (p : Int))) (h1 : w.cell? ⟨b, off + 1, none⟩ = some (.int .u8 (q : Int))) (h2 : w.cell? ⟨b, off + 2, none⟩ = some (.int .u8 (r : Int))) (h3 : w.cell? ⟨b, off + 3, none⟩ = some (.int .u8 (t : Int))) :
    Calls Tryz.prog 165 #[.slice (some ⟨b, off, none⟩) n c] w fun e w' => e = .returned (.tuple #[.int .u64 ((p % 128 + q % 128 * 128 + r % 128 * 16384 + t * 2097152 : Nat) : Int), .int .i64 4]) ∧ w = w' := by
  have e0 : ((n : Int) == 0) = false := by simp; omega
  have e1 : ((n : Int) == 1) = false := by simp; omega
  have e2 : ((n : Int) == 2) = false := by simp; omega
  have e3 : ((n : Int) == 3) = false := by simp; omega
  have hi0 : (0 : Int) < n := by omega
  have hi1 : (1 : Int) < n := by omega
  have hi2 : (2 : Int) < n := by omega
  have hi3 : (3 : Int) < n := by omega
  have l0 : ¬ (p : Int) < 128 := by omega
  have l1 : ¬ (q : Int) < 128 := by omega
  have l2 : ¬ (r : Int) < 128 := by omega
  have l3 : (t : Int) < 128 := by omega
  by_cases h10 : 10 ≤ (n : Int)
  · go_enter Tryz.func165, Tryz.ntmps165
    go_wp2
    go_ret2
    exact ⟨congrArg (fun v => Ending.returned (Value.tuple #[Value.int .u64 v, .int .i64 4])) (or21 p q r t hp' hq' hr' ht), rfl⟩
  · go_enter Tryz.func165, Tryz.ntmps165
    go_wp2
    go_ret2
    exact ⟨congrArg (fun v => Ending.returned (Value.tuple #[Value.int .u64 v, .int .i64 4])) (or21 p q r t hp' hq' hr' ht), rfl⟩

end Go.Proofs.YtfipfoplmopkaaaGreatDoor

namespace Go.Proofs.YtfipfoplmopkaaaGreatDoor
open Go.RowKit

theorem u8_nat (x : Nat) (h : x < 256) : bV x.toUInt8 = .int .u8 (x : Int) := by
  simp only [bV, Nat.toUInt8, UInt8.toNat_ofNat']
  rw [Nat.mod_eq_of_lt h]

theorem uvr_any (b off n c x : Nat) (l : List UInt8) (w : World) (hx : x < 268435456) (hl : Lib.uvarint x <+: l) (hn : n = l.length) (hc : ∀ j u, l[j]? = some u → w.cell? ⟨b, off + j, none⟩ = some (bV u)) :
    Calls Tryz.prog 165 #[.slice (some ⟨b, off, none⟩) n c] w fun e w' => e = .returned (.tuple #[.int .u64 x, .int .i64 (Lib.uvarint x).length]) ∧ w = w' := by
  obtain ⟨r, rfl⟩ := hl
  have hc' : ∀ j u, (Lib.uvarint x)[j]? = some u → w.cell? ⟨b, off + j, none⟩ = some (bV u) := fun j u hj => hc j u (by
    have : j < (Lib.uvarint x).length := by
      rcases Nat.lt_or_ge j (Lib.uvarint x).length with h | h
      · exact h
      · rw [List.getElem?_eq_none h] at hj; cases hj
    rw [List.getElem?_append_left this]; exact hj)
  rw [List.length_append] at hn
  clear hc
  by_cases h1 : x < 128
  · rw [Lib.uvarint_small h1] at hc' hn ⊢
    have c0 := hc' 0 _ rfl
    rw [u8_nat x (by omega)] at c0
    exact uvr1 b off n c x w (by simp at hn; omega) h1 c0
  · rw [Lib.uvarint_big (by omega)] at hc' hn ⊢
    have c0 := hc' 0 _ rfl
    rw [u8_nat _ (by omega)] at c0
    by_cases h2 : x < 16384
    · rw [Lib.uvarint_small (by omega)] at hc' hn ⊢
      have c1 := hc' 1 _ rfl
      rw [u8_nat _ (by omega)] at c1
      refine (uvr2 b off (x % 128 + 128) (x / 128) n c w (by omega) (by omega) (by omega) (by simp at hn; omega) c0 c1).mono ?_
      rintro e w' ⟨rfl, rfl⟩
      refine ⟨?_, rfl⟩
      rw [show ((x % 128 + 128) % 128 + x / 128 * 128 : Nat) = x by omega]
      rfl
    · by_cases h3 : x < 2097152
      · rw [Lib.uvarint_big (by omega), Lib.uvarint_small (by omega)] at hc' hn ⊢
        have c1 := hc' 1 _ rfl
        have c2 := hc' 2 _ rfl
        rw [u8_nat _ (by omega)] at c1 c2
        refine (uvr3 b off (x % 128 + 128) (x / 128 % 128 + 128) (x / 128 / 128) n c w (by omega) (by omega) (by omega) (by omega) (by omega) (by simp at hn; omega) c0 c1 c2).mono ?_
        rintro e w' ⟨rfl, rfl⟩
        refine ⟨?_, rfl⟩
        rw [show ((x % 128 + 128) % 128 + (x / 128 % 128 + 128) % 128 * 128 + x / 128 / 128 * 16384 : Nat) = x by omega]
        rfl
      · rw [Lib.uvarint_big (by omega), Lib.uvarint_big (by omega), Lib.uvarint_small (by omega)] at hc' hn ⊢
        have c1 := hc' 1 _ rfl
        have c2 := hc' 2 _ rfl
        have c3 := hc' 3 _ rfl
        rw [u8_nat _ (by omega)] at c1 c2 c3
        refine (uvr4 b off (x % 128 + 128) (x / 128 % 128 + 128) (x / 128 / 128 % 128 + 128) (x / 128 / 128 / 128) n c w (by omega) (by omega) (by omega) (by omega) (by omega) (by omega) (by omega) (by simp at hn; omega) c0 c1 c2 c3).mono ?_
        rintro e w' ⟨rfl, rfl⟩
        refine ⟨?_, rfl⟩
        rw [show ((x % 128 + 128) % 128 + (x / 128 % 128 + 128) % 128 * 128 + (x / 128 / 128 % 128 + 128) % 128 * 16384 + x / 128 / 128 / 128 * 2097152 : Nat) = x by omega]
        rfl

theorem uvarint_len4 {x : Nat} (hx : x < 268435456) : 1 ≤ (Lib.uvarint x).length ∧ (Lib.uvarint x).length ≤ 4 := by
  by_cases h1 : x < 128
  · rw [Lib.uvarint_small h1]; simp
  · rw [Lib.uvarint_big (by omega)]
    by_cases h2 : x < 16384
    · rw [Lib.uvarint_small (by omega)]; simp
    · rw [Lib.uvarint_big (by omega)]
      by_cases h3 : x < 2097152
      · rw [Lib.uvarint_small (by omega)]; simp
      · rw [Lib.uvarint_big (by omega), Lib.uvarint_small (by omega)]; simp

/-- The struct Decbuf in the block db: no error, the bytes l to be read, which lie in the block b. -/
structure DB (w : World) (db : Nat) (b : Nat) (l : List UInt8) : Prop where
  s : ∃ off c, w.cell? ⟨db, 0, none⟩ = some (.slice (some ⟨b, off, none⟩) l.length c) ∧ l.length ≤ c ∧ ∀ j u, l[j]? = some u → w.cell? ⟨b, off + j, none⟩ = some (bV u)
  e : w.cell? ⟨db, 1, none⟩ = some .nilIface
  f0 : w.frozen? ⟨db, 0, none⟩ = false
  ne : b ≠ db

def dbP (db k _o : Nat) : Prop := k = db

theorem DB.lt {w : World} {db b : Nat} {l : List UInt8} (h : DB w db b l) : db < w.heap.size := World.block_lt_of_cell? _ _ h.e
theorem DB.kept {w w' : World} {db b : Nat} {l : List UInt8} {P : Nat → Nat → Prop} (h : DB w db b l) (hk : Kept P w w') (h0 : ∀ o, ¬ P db o) (hs : b < w.heap.size → ∀ o, ¬ P b o) : DB w' db b l := by
  obtain ⟨off, c, h1, h2, h3⟩ := h.s
  refine ⟨⟨off, c, (hk.cell _ _ h.lt (h0 0)).trans h1, h2, fun j u hj => ?_⟩, (hk.cell _ _ h.lt (h0 1)).trans h.e, (hk.fr _ _ h.lt).trans h.f0, h.ne⟩
  have h4 := h3 j u hj
  have hb := World.block_lt_of_cell? _ _ h4
  exact (hk.cell _ _ hb (hs hb _)).trans h4

/-- Some bytes have been read. -/
theorem DB.drop {w : World} {db b off c : Nat} {l : List UInt8} (h : DB w db b l) (hc : ∀ j u, l[j]? = some u → w.cell? ⟨b, off + j, none⟩ = some (bV u)) (hle : l.length ≤ c) (k n' c' off' : Nat) (hn : n' = l.length - k) (hc' : c' = c - k) (ha : off' = off + k ∨ c = k) :
    DB (w.setCell ⟨db, 0, none⟩ (.slice (some ⟨b, off', none⟩) n' c')) db b (l.drop k) ∧ Kept (dbP db) w (w.setCell ⟨db, 0, none⟩ (.slice (some ⟨b, off', none⟩) n' c')) := by
  subst hn; subst hc'
  have hk : Kept (dbP db) w (w.setCell ⟨db, 0, none⟩ (.slice (some ⟨b, off', none⟩) (l.length - k) (c - k))) := Kept.setCell _ _ _ _ rfl
  obtain ⟨_, c0, h1, _, _⟩ := h.s
  refine ⟨⟨⟨_, c - k, by rw [List.length_drop]; exact World.cell?_setCell_same _ _ _ h1, by rw [List.length_drop]; omega, fun j u hj => ?_⟩, ?_, ?_, h.ne⟩, hk⟩
  · rw [List.getElem?_drop] at hj
    have h4 := hc (k + j) u hj
    rcases ha with rfl | rfl
    · rw [World.cell?_setCell_other _ _ _ _ (fun e => h.ne (by have := congrArg Addr.block e; first | exact this | exact this.symm)), Nat.add_assoc]
      exact h4
    · rw [List.getElem?_eq_none (by omega)] at hj; cases hj
  · rw [World.cell?_setCell_other _ _ _ _ (fun e => by cases e)]; exact h.e
  · rw [World.frozen?_setCell]; exact h.f0

/-- Decbuf.Err. -/
theorem dbErr_any (db b : Nat) (l : List UInt8) (w : World) (h : DB w db b l) : Calls Tryz.prog 121 #[.pointer (some ⟨db, 0, none⟩)] w fun e w' => e = .returned .nilIface ∧ w = w' := by
  have h1 := h.e
  clear h
  go_enter Tryz.func121, Tryz.ntmps121
  go_wp2
  go_ret
  exact ⟨rfl, rfl⟩

/-- Decbuf.Len. -/
theorem dbLen_any (db b n : Nat) (l : List UInt8) (w : World) (h : DB w db b l) (hn : n = l.length) : Calls Tryz.prog 135 #[.pointer (some ⟨db, 0, none⟩)] w fun e w' => e = .returned (.int .i64 n) ∧ w = w' := by
  obtain ⟨off, c, h1, _, _⟩ := h.s
  rw [← hn] at h1
  clear h hn
  go_enter Tryz.func135, Tryz.ntmps135
  go_wp2
  go_ret
  exact ⟨rfl, rfl⟩

set_option maxRecDepth 100000 in
/-- Decbuf.Skip. -/
theorem dbSkip_any (db b k : Nat) (l : List UInt8) (w : World) (h : DB w db b l) (hk : k ≤ l.length) : Calls Tryz.prog 134 #[.pointer (some ⟨db, 0, none⟩), .int .i64 k] w fun e w' => e = .returned (.tuple #[]) ∧ DB w' db b (l.drop k) ∧ Kept (dbP db) w w' := by
  obtain ⟨off, c, h1, h2, h4⟩ := h.s
  have f0 := h.f0
  obtain ⟨n, hn⟩ : ∃ n, n = l.length := ⟨_, rfl⟩
  have H := Lib.hid h
  have H4 := Lib.hid h4
  rw [← hn] at h1 h2 hk
  have HN := Lib.hid hn
  clear h h4 hn
  have i1 : ¬ (n : Int) < k := by omega
  have i2 : (k : Int) ≤ n := by omega
  have i3 : (n : Int) ≤ c := by omega
  go_enter Tryz.func134, Tryz.ntmps134
  go_wp2
  · have hck : c = k := by assumption
    go_end0
    have := H.out.drop H4.out (by rw [← HN.out]; exact h2) k (n - k) 0 off (by rw [HN.out]) (by omega) (.inr hck)
    exact ⟨rfl, this⟩
  · go_end0
    have := H.out.drop H4.out (by rw [← HN.out]; exact h2) k (n - k) (c - k) (off + k) (by rw [HN.out]) rfl (.inl rfl)
    exact ⟨rfl, this⟩

end Go.Proofs.YtfipfoplmopkaaaGreatDoor
