/- The sums: zzcrc.Update and what stands on it: a sum is a function of the polynomial, the sum before and the bytes. No condition but bounds on lengths. The digest behind the interface hash.Hash, and Encbuf's methods that use it. A sum's bytes are four bytes of which nothing more is said. No condition but bounds on lengths. Encbuf's methods that hash. No condition but bounds on lengths, and that the digest lies apart. FileWriter: Write, AddPadding, WriteAt, by contract. Conditions: bounds on lengths; what is written lies apart from the file. -/
import Derived.Test.YtfipfoplmopkaaaGreatDoorZ12
import Derived.Laws.Closers25b
import Derived.Deep.RegionWith

namespace Go.Proofs.YtfipfoplmopkaaaGreatDoor
open Go.RowKit

def cBit (p y : Int) : Int := if bits .and .u32 y 1 = 1 then bits .xor .u32 (y / 2) p else y / 2
def cN (p y : Int) : Nat → Int
  | 0 => y
  | k + 1 => cBit p (cN p y k)
def crcN (p c : Int) (l : List UInt8) : Int := l.foldl (fun y b => cN p (bits .xor .u32 y b.toNat) 8) c
/-- The sum behind some bytes. -/
def crcF (p c : Int) (l : List UInt8) : Int := bits .xor .u32 IntKind.u32.max (crcN p (bits .xor .u32 IntKind.u32.max c) l)

theorem xor_in (a b : Int) : 0 ≤ bits .xor .u32 a b ∧ bits .xor .u32 a b ≤ 4294967295 := by
  have h := bits_within .xor .u32 a b
  exact ⟨h.1, h.2⟩
theorem cBit_in (p : Int) {y : Int} (h0 : 0 ≤ y) (h1 : y ≤ 4294967295) : 0 ≤ cBit p y ∧ cBit p y ≤ 4294967295 := by
  unfold cBit
  split
  · exact xor_in _ _
  · omega
theorem cN_in (p : Int) {y : Int} (h0 : 0 ≤ y) (h1 : y ≤ 4294967295) : ∀ k, 0 ≤ cN p y k ∧ cN p y k ≤ 4294967295
  | 0 => ⟨h0, h1⟩
  | k + 1 => cBit_in p (cN_in p h0 h1 k).1 (cN_in p h0 h1 k).2
theorem crcN_snoc (p c : Int) (l : List UInt8) (b : UInt8) : crcN p c (l ++ [b]) = cN p (bits .xor .u32 (crcN p c l) b.toNat) 8 := by simp [crcN]
theorem crcF_in (p c : Int) (l : List UInt8) : 0 ≤ crcF p c l ∧ crcF p c l ≤ 4294967295 := xor_in _ _

set_option maxHeartbeats 800000 in
theorem update_any (tb : Nat) (poly c : Int) (ao : Option Addr) (n cap : Nat) (l : List UInt8) (w : World) (hl : l.length = n) (hn : n < 1000000000000) (hp : w.cell? ⟨tb, 0, none⟩ = some (.int .u32 poly))
    (hc : ∀ j u, l[j]? = some u → ∃ ad, ao = some ad ∧ w.cell? (ad.add j) = some (bV u)) :
    Calls Tryz.prog 159 #[.int .u32 c, .pointer (some ⟨tb, 0, none⟩), .slice ao n cap] w fun e w' => e = .returned (.int .u32 (crcF poly c l)) ∧ w = w' := by
  have HC := Lib.hid hc
  have HL := Lib.hid hl
  clear hc hl
  unfold crcF
  obtain ⟨c1, hc1'⟩ : ∃ c1, c1 = bits .xor .u32 IntKind.u32.max c := ⟨_, rfl⟩
  have hx := xor_in IntKind.u32.max c
  have h1 := Lib.hid hc1'
  go_enter Tryz.func159, Tryz.ntmps159
  go_wp2
  rw [← h1.out] at hx ⊢
  clear hc1'
  go_loop [0, 13, 8, 21] (fun x i _ _ => ∃ (k : Nat) (y : Int), k ≤ n ∧ i = .int .i64 k ∧ x = .int .u32 y ∧ 0 ≤ y ∧ y ≤ 4294967295 ∧ y = crcN poly c1 (l.take k)) (fun _ i _ _ => n - (intOf i).toNat)
  case atStart => exact ⟨0, c1, Nat.zero_le _, rfl, rfl, hx.1, hx.2, rfl⟩
  case round =>
    obtain ⟨k, y, hk, rfl, rfl, hy0, hy1, hyk0⟩ := hrel
    have hyk := Lib.hid hyk0
    clear hyk0
    by_cases hlt : k < n
    · have hkl : k < l.length := by rw [HL.out]; exact hlt
      obtain ⟨u, hu0⟩ : ∃ u, u = l[k] := ⟨_, rfl⟩
      obtain ⟨ad, rfl, hb⟩ := HC.out k u (by rw [hu0]; simp [hkl])
      unfold bV at hb
      have hub : u.toNat < 256 := UInt8.toNat_lt _
      have hu := Lib.hid hu0
      have hts : crcN poly c1 (l.take (k + 1)) = cN poly (bits .xor .u32 y u.toNat) 8 := by
        rw [List.take_succ_eq_append_getElem hkl, crcN_snoc, ← hyk.out, ← hu.out]
      have HS := Lib.hid hts
      clear hts hu0
      have hz := xor_in y u.toNat
      obtain ⟨z, hz0⟩ : ∃ z, z = bits .xor .u32 y u.toNat := ⟨_, rfl⟩
      have HZ := Lib.hid hz0
      rw [← hz0] at hz
      clear hz0
      go_wp2
      rw [← HZ.out]
      go_loop [0, 21] (fun x i => ∃ (k : Nat), k ≤ 8 ∧ i = .int .i64 k ∧ x = .int .u32 (cN poly z k)) (fun _ i => 8 - (intOf i).toNat)
      case atStart => exact ⟨0, by omega, rfl, rfl⟩
      case round =>
        obtain ⟨j, hj, rfl, rfl⟩ := hrel
        have hq := cN_in poly hz.1 hz.2 j
        obtain ⟨q, hq0⟩ : ∃ q, q = cN poly z j := ⟨_, rfl⟩
        rw [← hq0] at hq ⊢
        have HQ := Lib.hid hq0
        clear hq0
        have e8 : cN poly z (j + 1) = cBit poly q := by rw [HQ.out]; rfl
        have H8 := Lib.hid e8
        clear e8
        by_cases hj8 : j < 8
        · by_cases hbit : bits .and .u32 q 1 = 1
          · have hbb : (bits .and .u32 q 1 == 1) = true := by simp [hbit]
            go_wp2
            go_round
            case rel => exact ⟨j + 1, by omega, by go_num, by rw [H8.out]; simp [cBit, hbit]⟩
            case measure => simp [intOf]; omega
          · have hbb : (bits .and .u32 q 1 == 1) = false := by simp [hbit]
            go_wp2
            go_round
            case rel => exact ⟨j + 1, by omega, by go_num, by rw [H8.out]; simp [cBit, hbit]⟩
            case measure => simp [intOf]; omega
        · obtain rfl : j = 8 := by omega
          go_wp2
          go_round
          case rel => exact ⟨k + 1, q, by omega, by go_num, rfl, hq.1, hq.2, by rw [HS.out, HQ.out, HZ.out]⟩
          case measure => simp [intOf]; omega
    · go_wp2
      go_ret
      obtain rfl : k = n := by omega
      exact ⟨by rw [hyk.out, List.take_of_length_le (by rw [HL.out]; exact Nat.le_refl _), h1.out]; rfl, rfl⟩

end Go.Proofs.YtfipfoplmopkaaaGreatDoor

namespace Go.Proofs.YtfipfoplmopkaaaGreatDoor
open Go.RowKit
theorem ahead_write (a : Addr) (w : World) : (nilAhead 482 284 (.pointer (some a)) "Write").run Tryz.prog w = .ok (some false) w := by kernel_rfl
theorem method_write (a : Addr) (w : World) : (method 482 284 (.pointer (some a)) "Write").run Tryz.prog w = .ok (291, .pointer (some a)) w := by kernel_rfl
theorem ahead_sum (a : Addr) (w : World) : (nilAhead 482 284 (.pointer (some a)) "Sum").run Tryz.prog w = .ok (some false) w := by kernel_rfl
theorem method_sum (a : Addr) (w : World) : (method 482 284 (.pointer (some a)) "Sum").run Tryz.prog w = .ok (289, .pointer (some a)) w := by kernel_rfl
theorem ahead_reset (a : Addr) (w : World) : (nilAhead 482 284 (.pointer (some a)) "Reset").run Tryz.prog w = .ok (some false) w := by kernel_rfl
theorem method_reset (a : Addr) (w : World) : (method 482 284 (.pointer (some a)) "Reset").run Tryz.prog w = .ok (287, .pointer (some a)) w := by kernel_rfl

/-- The digest at dg, its table at tb. -/
structure DG (w : World) (dg tb : Nat) : Prop where
  c : ∃ c : Int, w.cell? ⟨dg, 0, none⟩ = some (.int .u32 c) ∧ 0 ≤ c ∧ c ≤ 4294967295
  t : w.cell? ⟨dg, 1, none⟩ = some (.pointer (some ⟨tb, 0, none⟩))
  f : w.frozen? ⟨dg, 0, none⟩ = false
  p : ∃ p : Int, w.cell? ⟨tb, 0, none⟩ = some (.int .u32 p)
  ne : tb ≠ dg

def dgP (dg : Nat) (k off : Nat) : Prop := k = dg ∧ off = 0

theorem DG.lt {w : World} {dg tb : Nat} (h : DG w dg tb) : dg < w.heap.size := World.block_lt_of_cell? _ _ h.t
theorem DG.ltb {w : World} {dg tb : Nat} (h : DG w dg tb) : tb < w.heap.size := by obtain ⟨p, hp⟩ := h.p; exact World.block_lt_of_cell? _ _ hp
theorem DG.kept {w w' : World} {dg tb : Nat} {P : Nat → Nat → Prop} (h : DG w dg tb) (hk : Kept P w w') (h1 : ∀ o, ¬ P dg o) (h2 : ∀ o, ¬ P tb o) : DG w' dg tb := by
  obtain ⟨c, hc, h0, h3⟩ := h.c
  obtain ⟨p, hp⟩ := h.p
  exact ⟨⟨c, (hk.cell _ _ h.lt (h1 0)).trans hc, h0, h3⟩, (hk.cell _ _ h.lt (h1 1)).trans h.t, (hk.fr _ _ h.lt).trans h.f, ⟨p, (hk.cell _ _ h.ltb (h2 0)).trans hp⟩, h.ne⟩
theorem DG.drew {w : World} {dg tb : Nat} (h : DG w dg tb) : DG w.drew dg tb := ⟨h.c, h.t, h.f, h.p, h.ne⟩
theorem DG.set {w : World} {dg tb : Nat} (h : DG w dg tb) (c : Int) (h0 : 0 ≤ c) (h1 : c ≤ 4294967295) : DG (w.setCell ⟨dg, 0, none⟩ (.int .u32 c)) dg tb ∧ Kept (dgP dg) w (w.setCell ⟨dg, 0, none⟩ (.int .u32 c)) := by
  obtain ⟨c0, hc, _⟩ := h.c
  obtain ⟨p, hp⟩ := h.p
  refine ⟨⟨⟨c, World.cell?_setCell_same _ _ _ hc, h0, h1⟩, ?_, by rw [World.frozen?_setCell]; exact h.f, ⟨p, ?_⟩, h.ne⟩, Kept.setCell _ _ _ _ ⟨rfl, rfl⟩⟩
  · rw [World.cell?_setCell_other _ _ _ _ (by simp)]; exact h.t
  · rw [World.cell?_setCell_other _ _ _ _ (by simp; exact fun e => h.ne e.symm)]; exact hp

theorem dReset_any (dg tb : Nat) (w : World) (h : DG w dg tb) :
    Calls Tryz.prog 287 #[.pointer (some ⟨dg, 0, none⟩)] w fun e w' => e = .returned (.tuple #[]) ∧ DG w' dg tb ∧ Kept (dgP dg) w w' := by
  obtain ⟨c, h0, _⟩ := h.c
  have f0 := h.f
  have H := Lib.hid h
  clear h
  go_enter Tryz.func287, Tryz.ntmps287
  go_wp2
  go_end0
  exact ⟨rfl, H.out.set 0 (by omega) (by omega)⟩

theorem dWrite_any (dg tb : Nat) (ao : Option Addr) (n cap : Nat) (l : List UInt8) (w : World) (h : DG w dg tb) (hl : l.length = n) (hn : n < 1000000000)
    (hc : ∀ j u, l[j]? = some u → ∃ ad, ao = some ad ∧ w.cell? (ad.add j) = some (bV u)) :
    Calls Tryz.prog 291 #[.pointer (some ⟨dg, 0, none⟩), .slice ao n cap] w fun e w' => e = .returned (.tuple #[.int .i64 n, .nilIface]) ∧ DG w' dg tb ∧ Kept (dgP dg) w w' := by
  obtain ⟨c, h0, hc0, hc1⟩ := h.c
  obtain ⟨p, hp⟩ := h.p
  have f0 := h.f
  have h1 := h.t
  have H := Lib.hid h
  have HC := Lib.hid hc
  have HL := Lib.hid hl
  clear h hc hl
  go_enter Tryz.func291, Tryz.ntmps291
  go_wp2
  go_region_with (go_at_call 159; refine (update_any tb p c ao n cap l w.drew HL.out (by omega) hp (fun j u hj => HC.out j u hj)).mono ?_; rintro e w' ⟨rfl, rfl⟩)
  all_goals
    go_wp2
    go_ret2
    have hin := crcF_in p c l
    exact ⟨rfl, (H.out.drew.set _ hin.1 hin.2).1, (Kept.drew _ w).trans (H.out.drew.set _ hin.1 hin.2).2 (fun _ _ _ => id)⟩

set_option maxRecDepth 100000 in
/-- Four bytes behind a slice of bytes of the caller's own. -/
theorem dSum_any (dg tb : Nat) (v : Value) (g : Option Nat) (l : List UInt8) (w : World) (h : DG w dg tb) (hb : Bf w v g l) (hl : l.length < 1000000000) :
    Calls Tryz.prog 289 #[.pointer (some ⟨dg, 0, none⟩), v] w fun e w' => ∃ (k : List UInt8) (v' : Value), k.length = 4 ∧ e = .returned v' ∧ App (w.alloc (.cells (bVs k).toArray 5)) w' 5 1 v v' (l.length + k.length) (bVs l ++ bVs k) := by
  obtain ⟨c, h0, hc0, hc1⟩ := h.c
  obtain ⟨x, rfl⟩ : ∃ x : Nat, c = x := ⟨c.toNat, by omega⟩
  have HK := Lib.hid (be32_vs x (by omega))
  obtain ⟨ao, cap, rfl⟩ := own_slice hb.1
  have HB := Lib.hid hb
  clear h hb
  go_enter Tryz.func289, Tryz.ntmps289
  go_wp2_with (at_builtin; refine wpList_appB _ rfl _ _ rfl _ g l (be32 x) rfl ⟨HB.out.1.alloc _, HB.out.2⟩ (some ⟨w.heap.size, 0, none⟩) 4 4 rfl rfl ?c0 ?c1 ?c2 ?_)
  case c0 => intro e; cases e
  case c1 =>
    intro ad e j u hj
    cases e
    rw [Addr.add_lit, Nat.zero_add, World.cell?_alloc_new]
    have : (bVs (be32 x))[j]? = some (bV u) := by simp [bVs, hj]
    rw [HK.out] at this
    simpa using this
  case c2 => omega
  intro v' w' ha
  obtain ⟨ao', c', rfl⟩ := own_slice ha.own
  have HA := Lib.hid ha
  clear ha
  go_wp2
  go_ret
  exact ⟨be32 x, _, rfl, rfl, by rw [HK.out] at *; exact HA.out⟩

end Go.Proofs.YtfipfoplmopkaaaGreatDoor

namespace Go.Proofs.YtfipfoplmopkaaaGreatDoor
open Go.RowKit

theorem Bf.src {w : World} {ao : Option Addr} {n c : Nat} {g : Option Nat} {l : List UInt8} (h : Bf w (.slice ao n c) g l) : n = l.length ∧ ∀ j u, l[j]? = some u → ∃ ad, ao = some ad ∧ w.cell? (ad.add j) = some (bV u) := by
  rcases h.form with ⟨e, rfl, rfl⟩ | ⟨b, cap, e, rfl, _⟩
  · cases e; exact ⟨rfl, fun j u hj => by simp at hj⟩
  · cases e
    exact ⟨rfl, fun j u hj => ⟨_, rfl, by rw [Addr.add_lit, Nat.zero_add]; exact h.cells j u hj⟩⟩

/-- Encbuf.WriteToHash. -/
theorem writeToHash_any (eb o : Nat) (g : Option Nat) (l : List UInt8) (dg tb : Nat) (w : World) (h : EB w eb o g l) (hd : DG w dg tb) (hn : l.length < 100000000) :
    Calls Tryz.prog 105 #[.pointer (some ⟨eb, o, none⟩), .iface 284 (.pointer (some ⟨dg, 0, none⟩))] w fun e w' => e = .returned (.tuple #[]) ∧ DG w' dg tb ∧ Kept (dgP dg) w w' := by
  obtain ⟨v, hv, hb⟩ := h.b
  obtain ⟨ao, c, rfl⟩ := own_slice hb.1
  have HB := Lib.hid hb
  have HD := Lib.hid hd
  have m1 := method_write
  have m2 := ahead_write
  clear h hb hd
  go_enter Tryz.func105, Tryz.ntmps105
  go_wp2
  go_region_with (go_at_call 291; refine (dWrite_any dg tb ao l.length c l w.drew HD.out.drew rfl (by omega) (fun j u hj => HB.out.src.2 j u hj)).mono ?_; rintro e w1 ⟨rfl, hd1, hk1⟩)
  all_goals
    go_wp2
    go_end0
    exact ⟨rfl, hd1, (Kept.drew _ w).trans hk1 (fun _ _ _ => id)⟩

/-- Encbuf.PutHashSum. -/
theorem putHashSum_any (eb o : Nat) (g : Option Nat) (l : List UInt8) (dg tb : Nat) (w : World) (h : EB w eb o g l) (hd : DG w dg tb) (hn : l.length < 100000000) :
    Calls Tryz.prog 106 #[.pointer (some ⟨eb, o, none⟩), .iface 284 (.pointer (some ⟨dg, 0, none⟩))] w fun e w' => e = .returned (.tuple #[]) ∧ ∃ k : List UInt8, k.length = 4 ∧ Put w eb o g (l ++ k) w' := by
  obtain ⟨v, hv, hb⟩ := h.b
  have H := Lib.hid h
  have HB := Lib.hid hb
  have HD := Lib.hid hd
  have m1 := method_sum
  have m2 := ahead_sum
  clear h hb hd
  go_enter Tryz.func106, Tryz.ntmps106
  go_wp2
  go_region_with (go_at_call 289; refine (dSum_any dg tb v g l w.drew HD.out.drew HB.out (by omega)).mono ?_; rintro e w1 ⟨k, v', hk, rfl, ha⟩; have HKL := Lib.hid hk; clear hk; obtain ⟨ao', c', rfl⟩ := own_slice ha.own; have HE := Lib.hid (H.out.drew.kept (Kept.alloc (fun _ _ => False) _ (.cells (bVs k).toArray 5)) (fun _ _ => id) (fun _ _ _ => id)); obtain ⟨hcell, hfr⟩ := HE.out.cellApp (v := v) (by rw [World.cell?_alloc_lt _ _ _ H.out.lt]; exact hv) ⟨HB.out.1.alloc _, HB.out.2⟩ ha; have HA := Lib.hid ha; clear ha)
  all_goals
    go_wp2
    go_end0
    exact ⟨rfl, k, HKL.out, Put.trans (.inl rfl) ((Kept.drew _ w).trans (Kept.alloc _ _ _) (fun _ _ _ => id)) (HE.out.put (by rw [World.cell?_alloc_lt _ _ _ H.out.lt]; exact hv) HA.out)⟩

/-- What a method of Encbuf leaves that hashes and puts. -/
def PutH (w : World) (eb o : Nat) (g : Option Nat) (dg tb : Nat) (l : List UInt8) (w' : World) : Prop := ∃ g', Mv g g' w ∧ EB w' eb o g' l ∧ DG w' dg tb ∧ Kept (fun k off => ebP eb o g k off ∨ dgP dg k off) w w'

/-- The digest lies apart from the buffer. -/
structure Apart (eb : Nat) (g : Option Nat) (dg tb : Nat) : Prop where
  e : eb ≠ dg
  t : eb ≠ tb
  gd : g ≠ some dg
  gt : g ≠ some tb

theorem EB.keptD {w w' : World} {eb o : Nat} {g : Option Nat} {l : List UInt8} {dg tb : Nat} (h : EB w eb o g l) (ha : Apart eb g dg tb) (hk : Kept (dgP dg) w w') : EB w' eb o g l :=
  h.kept hk (fun _ _ hP => ha.e hP.1) (fun k _ e hP => ha.gd (by rw [e, hP.1]))

set_option maxRecDepth 100000 in
/-- Encbuf.PutHash. -/
theorem putHash_any (eb o : Nat) (g : Option Nat) (l : List UInt8) (dg tb : Nat) (w : World) (h : EB w eb o g l) (hd : DG w dg tb) (ha : Apart eb g dg tb) (hn : l.length < 100000000) :
    Calls Tryz.prog 64 #[.pointer (some ⟨eb, o, none⟩), .iface 284 (.pointer (some ⟨dg, 0, none⟩))] w fun e w' => e = .returned (.tuple #[]) ∧ ∃ k : List UInt8, k.length = 4 ∧ PutH w eb o g dg tb (l ++ k) w' := by
  have m1 := method_reset
  have m2 := ahead_reset
  have H := Lib.hid h
  have HD := Lib.hid hd
  have HA := Lib.hid ha
  clear h hd ha
  go_enter Tryz.func64, Tryz.ntmps64
  go_wp2_with fail
  refine (dReset_any dg tb w HD.out).mono ?_
  rintro e w1 ⟨rfl, d1, k1⟩
  have E1 := Lib.hid (H.out.keptD HA.out k1)
  have D1 := Lib.hid d1
  clear d1
  go_wp2_with fail
  refine (writeToHash_any eb o g l dg tb w1 E1.out D1.out hn).mono ?_
  rintro e w2 ⟨rfl, d2, k2⟩
  have E2 := Lib.hid (E1.out.keptD HA.out k2)
  have D2 := Lib.hid d2
  clear d2
  go_wp2_with fail
  refine (putHashSum_any eb o g l dg tb w2 E2.out D2.out hn).mono ?_
  rintro e w3 ⟨rfl, k, hk, g', m3, e3, k3⟩
  have E3 := Lib.hid e3
  clear e3
  go_wp2
  go_end0
  have k12 := (k1.trans k2 (fun _ _ _ => id))
  refine ⟨rfl, k, hk, g', ?_, E3.out, D2.out.kept k3 ?_ ?_, (k12.mono (fun _ _ _ => .inr)).trans k3 (fun _ _ _ => .inl)⟩
  · exact Mv.trans (.inl rfl) m3 k12.size
  · rintro o' (hP | hP)
    · exact HA.out.e hP.1.symm
    · exact HA.out.gd hP
  · rintro o' (hP | hP)
    · exact HA.out.t hP.1.symm
    · exact HA.out.gt hP

end Go.Proofs.YtfipfoplmopkaaaGreatDoor

namespace Go.Proofs.YtfipfoplmopkaaaGreatDoor
open Go.RowKit

/-- A slice of bytes that can be read, its cells outside P. -/
def Rd (P : Nat → Nat → Prop) (w : World) (v : Value) (l : List UInt8) : Prop :=
  ∃ ao c, v = .slice ao l.length c ∧ (ao = none → l.length = 0 ∧ c = 0) ∧ ∀ j u, l[j]? = some u → ∃ b off, ao = some ⟨b, off, none⟩ ∧ w.cell? ⟨b, off + j, none⟩ = some (bV u) ∧ ¬ P b (off + j)

theorem Rd.kept {P Q : Nat → Nat → Prop} {w w' : World} {v : Value} {l : List UInt8} (h : Rd P w v l) (hk : Kept Q w w') (hQ : ∀ i o, i < w.heap.size → Q i o → P i o) : Rd P w' v l := by
  obtain ⟨ao, c, h1, h2, h3⟩ := h
  refine ⟨ao, c, h1, h2, fun j u hj => ?_⟩
  obtain ⟨b, off, e, hc, hn⟩ := h3 j u hj
  have hb := World.block_lt_of_cell? _ _ hc
  exact ⟨b, off, e, by rw [hk.cell _ _ hb (fun hq => hn (hQ _ _ hb hq))]; exact hc, hn⟩
theorem Rd.mono {P Q : Nat → Nat → Prop} {w : World} {v : Value} {l : List UInt8} (h : Rd P w v l) (hQ : ∀ i o, i < w.heap.size → Q i o → P i o) : Rd Q w v l := by
  obtain ⟨ao, c, h1, h2, h3⟩ := h
  refine ⟨ao, c, h1, h2, fun j u hj => ?_⟩
  obtain ⟨b, off, e, hc, hn⟩ := h3 j u hj
  exact ⟨b, off, e, hc, fun hq => hn (hQ _ _ (World.block_lt_of_cell? _ _ hc) hq)⟩
theorem Bf.rd {w : World} {v : Value} {g : Option Nat} {l : List UInt8} {P : Nat → Nat → Prop} (h : Bf w v g l) (hP : ∀ k o, g = some k → ¬ P k o) : Rd P w v l := by
  rcases h.form with ⟨rfl, rfl, rfl⟩ | ⟨b, cap, rfl, rfl, _⟩
  · exact ⟨none, 0, rfl, fun _ => ⟨rfl, rfl⟩, fun j u hj => by simp at hj⟩
  · exact ⟨_, cap, rfl, (fun e => by cases e), fun j u hj => ⟨b, 0, rfl, by rw [Nat.zero_add]; exact h.cells j u hj, hP _ _ rfl⟩⟩

/-- The struct FileWriter at fb: its bytes l in the block g, its position their number. -/
structure FW (w : World) (fb : Nat) (g : Option Nat) (l : List UInt8) : Prop where
  b : ∃ v, w.cell? ⟨fb, 0, none⟩ = some v ∧ Bf w v g l
  p : w.cell? ⟨fb, 1, none⟩ = some (.int .u64 l.length)
  f0 : w.frozen? ⟨fb, 0, none⟩ = false
  f1 : w.frozen? ⟨fb, 1, none⟩ = false
  ne : g ≠ some fb

/-- What a method of FileWriter touches. -/
def fwP (fb : Nat) (g : Option Nat) (k off : Nat) : Prop := (k = fb ∧ off ≤ 1) ∨ g = some k
/-- The old row's head is as it was. -/
def Hd (g : Option Nat) (n : Nat) (w w' : World) : Prop := ∀ b, g = some b → ∀ j, j < n → w'.cell? ⟨b, j, none⟩ = w.cell? ⟨b, j, none⟩

theorem FW.lt {w : World} {fb : Nat} {g : Option Nat} {l : List UInt8} (h : FW w fb g l) : fb < w.heap.size := World.block_lt_of_cell? _ _ h.p
theorem FW.kept {w w' : World} {fb : Nat} {g : Option Nat} {l : List UInt8} {P : Nat → Nat → Prop} (h : FW w fb g l) (hk : Kept P w w') (h1 : ∀ o, ¬ P fb o) (h2 : ∀ k o, g = some k → ¬ P k o) : FW w' fb g l := by
  obtain ⟨v, hv, hb⟩ := h.b
  exact ⟨⟨v, (hk.cell _ _ h.lt (h1 0)).trans hv, hb.kept hk h2⟩, (hk.cell _ _ h.lt (h1 1)).trans h.p, (hk.fr _ _ h.lt).trans h.f0, (hk.fr _ _ h.lt).trans h.f1, h.ne⟩

/-- Behind an append to the file and the stores of the new slice and position. -/
theorem FW.put {w w1 : World} {fb : Nat} {g : Option Nat} {l k : List UInt8} {v v' : Value} (h : FW w fb g l) (hv : w.cell? ⟨fb, 0, none⟩ = some v) (ha : App w w1 5 1 v v' (l.length + k.length) (bVs l ++ bVs k)) :
    FW ((w1.setCell ⟨fb, 0, none⟩ v').setCell ⟨fb, 1, none⟩ (.int .u64 ((l ++ k).length : Nat))) fb v'.ownBlock (l ++ k) ∧ Mv g v'.ownBlock w ∧
      Kept (fwP fb g) w ((w1.setCell ⟨fb, 0, none⟩ v').setCell ⟨fb, 1, none⟩ (.int .u64 ((l ++ k).length : Nat))) ∧ Hd g l.length w ((w1.setCell ⟨fb, 0, none⟩ v').setCell ⟨fb, 1, none⟩ (.int .u64 ((l ++ k).length : Nat))) := by
  obtain ⟨v0, hv0, hb⟩ := h.b
  obtain rfl : v0 = v := by rw [hv] at hv0; exact (Option.some.inj hv0).symm
  have hk := ha.kept hb.1
  rw [hb.2] at hk
  have hm := ha.mv
  rw [hb.2] at hm
  have hne : v'.ownBlock ≠ some fb := hm.ne h.lt h.ne
  have hbf := ha.bf
  have hcell : w1.cell? ⟨fb, 0, none⟩ = some v0 := by rw [hk.cell fb 0 h.lt h.ne]; exact hv
  have hcell1 : (w1.setCell ⟨fb, 0, none⟩ v').cell? ⟨fb, 1, none⟩ = some (.int .u64 l.length) := by rw [World.cell?_setCell_other _ _ _ _ (by simp), hk.cell fb 1 h.lt h.ne]; exact h.p
  have K1 : Kept (fwP fb g) w1 ((w1.setCell ⟨fb, 0, none⟩ v').setCell ⟨fb, 1, none⟩ (.int .u64 ((l ++ k).length : Nat))) :=
    (Kept.setCell w1 fb 0 v' (.inl ⟨rfl, by omega⟩)).trans (Kept.setCell _ fb 1 _ (.inl ⟨rfl, by omega⟩)) (fun _ _ _ => id)
  have K0 : Kept (fwP fb g) w w1 := hk.mono (fun i o' _ e => .inr e)
  refine ⟨⟨⟨v', ?_, ?_⟩, ?_, ?_, ?_, hne⟩, hm, K0.trans K1 (fun _ _ _ => id), fun b hb' j hj => ?_⟩
  · rw [World.cell?_setCell_other _ _ _ _ (by simp)]; exact World.cell?_setCell_same _ _ _ hcell
  · exact ⟨ownsRow_setCell_other (ownsRow_setCell_other hbf.1 hne _) hne _, rfl⟩
  · exact World.cell?_setCell_same _ _ _ hcell1
  · rw [World.frozen?_setCell, World.frozen?_setCell, hk.fr _ _ h.lt]; exact h.f0
  · rw [World.frozen?_setCell, World.frozen?_setCell, hk.fr _ _ h.lt]; exact h.f1
  · have hbe : b ≠ fb := fun e => h.ne (by rw [hb', e])
    rw [World.cell?_setCell_other _ _ _ _ (fun e => hbe (by cases e; rfl)), World.cell?_setCell_other _ _ _ _ (fun e => hbe (by cases e; rfl))]
    exact ha.head hb.1 (news := bVs k) rfl (hb.2.trans hb') j (by simpa using hj)

/-- What a method of FileWriter leaves. -/
def Wr (w : World) (fb : Nat) (g : Option Nat) (n : Nat) (l : List UInt8) (w' : World) : Prop := ∃ g', Mv g g' w ∧ FW w' fb g' l ∧ Kept (fwP fb g) w w' ∧ Hd g n w w' ∧ (∀ b, g' = some b → g = some b ∨ w.heap.size ≤ b)

theorem fwP_step {w : World} {fb : Nat} {g g1 : Option Nat} (hm : Mv g g1 w) : ∀ i o, i < w.heap.size → fwP fb g1 i o → fwP fb g i o := by
  rintro i o hi (h | h)
  · exact .inl h
  · rcases hm with rfl | ⟨b, rfl, hb⟩
    · exact .inr h
    · cases h; omega

/-- A row of slices of bytes. -/
def Rows2 (P : Nat → Nat → Prop) (w : World) (bb bo : Nat) (ls : List (List UInt8)) : Prop := ∀ j l, ls[j]? = some l → ∃ v, w.cell? ⟨bb, bo + j, none⟩ = some v ∧ Rd P w v l ∧ ¬ P bb (bo + j)

theorem Rows2.kept {P Q : Nat → Nat → Prop} {w w' : World} {bb bo : Nat} {ls : List (List UInt8)} (h : Rows2 P w bb bo ls) (hk : Kept Q w w') (hQ : ∀ i o, i < w.heap.size → Q i o → P i o) : Rows2 P w' bb bo ls := by
  intro j l hj
  obtain ⟨v, hv, hr, hn⟩ := h j l hj
  have hb := World.block_lt_of_cell? _ _ hv
  exact ⟨v, by rw [hk.cell _ _ hb (fun hq => hn (hQ _ _ hb hq))]; exact hv, hr.kept hk hQ, hn⟩

theorem flat_take (ls : List (List UInt8)) (k : Nat) (hk : k < ls.length) : (ls.take (k + 1)).flatten = (ls.take k).flatten ++ ls[k] ∧ ((ls.take k).flatten ++ ls[k]).length ≤ ls.flatten.length := by
  have e : (ls.take (k + 1)).flatten = (ls.take k).flatten ++ ls[k] := by rw [List.take_succ_eq_append_getElem hk, List.flatten_append, List.flatten_cons, List.flatten_nil, List.append_nil]
  refine ⟨e, ?_⟩
  have := congrArg (fun x => (List.flatten x).length) (List.take_append_drop (k + 1) ls)
  simp only [List.flatten_append, List.length_append] at this
  rw [← e]; omega

set_option maxHeartbeats 800000 in
/-- FileWriter.Write. -/
theorem fwWrite_any (fb bb bo n c : Nat) (g : Option Nat) (l : List UInt8) (ls : List (List UInt8)) (w : World) (h : FW w fb g l) (hr : Rows2 (fwP fb g) w bb bo ls) (hn : ls.length = n) (hn0 : n < 1000000) (hl : l.length + ls.flatten.length < 1000000000) :
    Calls Tryz.prog 101 #[.pointer (some ⟨fb, 0, none⟩), .slice (some ⟨bb, bo, none⟩) n c] w fun e w' => e = .returned .nilIface ∧ Wr w fb g l.length (l ++ ls.flatten) w' := by
  have H := Lib.hid h
  have HR := Lib.hid hr
  have HN := Lib.hid hn
  have HL := Lib.hid hl
  clear h hr hn hl
  go_enter Tryz.func101, Tryz.ntmps101
  go_wp2
  go_loopw [9, 6] (fun i x wr => ∃ (k : Nat) (gr : Option Nat), k ≤ n ∧ i = .int .i64 k ∧ Mv g gr w ∧ FW wr fb gr (l ++ (ls.take k).flatten) ∧ Kept (fwP fb g) w wr ∧ Hd g l.length w wr ∧ (∀ b, gr = some b → g = some b ∨ w.heap.size ≤ b)) (fun i _ _ => n - (intOf i).toNat)
  case atStart => exact ⟨0, g, Nat.zero_le _, rfl, .inl rfl, by simpa using H.out, Kept.refl _ _, fun _ _ _ _ => rfl, fun b hb => .inl hb⟩
  case round =>
    obtain ⟨k, gr, hk, rfl, hm, hf, hkp, hhd, hgr⟩ := hrel
    by_cases hlt : k < n
    · have hkl : k < ls.length := by rw [HN.out]; exact hlt
      obtain ⟨lk, hlk0⟩ : ∃ lk, lk = ls[k] := ⟨_, rfl⟩
      obtain ⟨v0, hsrc, ⟨ao, c1, rfl, hno, hrd⟩, _⟩ := (HR.out.kept hkp (fun _ _ _ => id)) k lk (by rw [hlk0]; simp [hkl])
      obtain ⟨eflat, hflat⟩ := flat_take ls k hkl
      rw [← hlk0] at eflat hflat
      obtain ⟨lt, hlt0⟩ : ∃ lt, lt = l ++ (ls.take k).flatten := ⟨_, rfl⟩
      have e2 : l ++ (ls.take (k + 1)).flatten = lt ++ lk := by rw [eflat, hlt0, List.append_assoc]
      rw [← hlt0] at hf
      have hLm : lt.length + lk.length < 1000000000 := by have := HL.out; rw [hlt0]; simp only [List.length_append] at hflat ⊢; omega
      have hls : l.length ≤ lt.length := by rw [hlt0]; simp
      obtain ⟨v, hv, hb⟩ := hf.b
      have hp := hf.p
      have f0 := hf.f0
      have f1 := hf.f1
      have HF := Lib.hid hf
      have HB := Lib.hid hb
      have E2 := Lib.hid e2
      have HRD := Lib.hid hrd
      have HNO := Lib.hid hno
      have HM := Lib.hid hm
      have HH := Lib.hid hhd
      have HG := Lib.hid hgr
      have hfl := hf.lt
      clear hf hb e2 hrd hno hm hhd hlk0 hlt0 eflat hflat hgr
      go_wp2_with (at_builtin; refine wpList_appB _ rfl _ _ rfl v gr lt lk rfl HB.out ao lk.length c1 rfl rfl HNO.out ?c1 ?c2 ?_)
      case c1 =>
        intro ad e j u hj
        obtain ⟨b, off, e', hc', _⟩ := HRD.out j u hj
        rw [e'] at e
        cases e
        rw [Addr.add_lit]; exact hc'
      case c2 => omega
      intro v' w1 ha
      obtain ⟨ao', c', rfl⟩ := own_slice ha.own
      have hk1 := ha.kept HB.out.1
      rw [HB.out.2] at hk1
      have hcell0 : w1.cell? ⟨fb, 0, none⟩ = some v := by rw [hk1.cell fb 0 hfl HF.out.ne]; exact hv
      have hcell1 : w1.cell? ⟨fb, 1, none⟩ = some (.int .u64 lt.length) := by rw [hk1.cell fb 1 hfl HF.out.ne]; exact hp
      have hfr0 : w1.frozen? ⟨fb, 0, none⟩ = false := by rw [hk1.fr fb 0 hfl]; exact f0
      have hfr1 : w1.frozen? ⟨fb, 1, none⟩ = false := by rw [hk1.fr fb 1 hfl]; exact f1
      obtain ⟨P1, P2, P3, P4⟩ := HF.out.put hv ha
      have e3 : ((lt ++ lk).length : Int) = (lt.length : Int) + lk.length := by simp
      rw [e3] at P1 P3 P4
      have Q1 := Lib.hid P1
      have Q2 := Lib.hid P2
      have Q3 := Lib.hid P3
      have Q4 := Lib.hid P4
      clear P1 P2 P3 P4 ha hk1 e3
      go_wp2
      go_roundw
      case rel =>
        refine ⟨k + 1, _, by omega, by go_num, HM.out.trans Q2.out hkp.size, by rw [E2.out]; exact Q1.out, hkp.trans Q3.out (fwP_step HM.out), fun b hb j hj => ?_, fun b hb => ?_⟩
        · rcases HM.out with rfl | ⟨b', rfl, hb'⟩
          · rw [Q4.out b hb j (by omega)]; exact HH.out b hb j hj
          · have hlt' := H.out.b
            obtain ⟨v9, hv9, hb9⟩ := hlt'
            have hbl := hb9.lt b hb
            rw [Q3.out.cell b j (Nat.lt_of_lt_of_le hbl hkp.size) ?_]
            · exact HH.out b hb j hj
            · rintro (hP | hP)
              · exact H.out.ne (by rw [hb, hP.1])
              · cases hP; omega
        · rcases HM.out.trans Q2.out hkp.size with e | ⟨b', e, hb'⟩
          · exact .inl (by rw [← e, hb])
          · rw [hb] at e; cases e; exact .inr hb'
      case measure => simp [intOf]; omega
    · obtain rfl : k = n := by omega
      rw [List.take_of_length_le (by rw [HN.out]; exact Nat.le_refl _)] at hf
      have HF := Lib.hid hf
      have HH := Lib.hid hhd
      have HG := Lib.hid hgr
      clear hf hhd hgr
      go_wp2
      go_ret
      exact ⟨rfl, gr, hm, HF.out, hkp, HH.out, HG.out⟩

end Go.Proofs.YtfipfoplmopkaaaGreatDoor
