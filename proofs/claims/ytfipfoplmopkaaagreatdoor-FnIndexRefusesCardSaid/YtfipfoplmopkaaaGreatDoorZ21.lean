/- Decbuf: Uvarint64, Uvarint, ConsumePadding, UvarintBytes, Be32. Conditions: what is read is there. Decbuf: UvarintBytes, Be32, Be32int, Crc32; Checksum. Conditions: what is read is there. Sums and slices of bytes behind the interface ByteSlice; Decbuf's makers. Conditions: what is read is there. encoding.NewDecbufAt: a part with its length ahead and its sum behind. Conditions: what is read is there, the sum is right. Decbuf.Be32, Be32int, UvarintStr. Conditions: what is read is there. The table of symbols, read: NewSymbols. Conditions: what is read is there. -/
import Derived.Test.YtfipfoplmopkaaaGreatDoorZ18
import Derived.Test.YtfipfoplmopkaaaGreatDoorZ16
import Derived.Test.YtfipfoplmopkaaaGreatDoorZ15
import Derived.Laws.MakeOwn

namespace Go.Proofs.YtfipfoplmopkaaaGreatDoor
open Go.RowKit

set_option maxRecDepth 100000 in
/-- Decbuf.Uvarint64. -/
theorem dbU64_any (db b x : Nat) (l : List UInt8) (w : World) (h : DB w db b l) (hx : x < 268435456) (hl : Lib.uvarint x <+: l) :
    Calls Tryz.prog 142 #[.pointer (some ⟨db, 0, none⟩)] w fun e w' => e = .returned (.int .u64 x) ∧ DB w' db b (l.drop (Lib.uvarint x).length) ∧ Kept (dbP db) w w' := by
  have hu := uvarint_len4 hx
  have hle := hl.length_le
  obtain ⟨off, c, h1, h2, h4⟩ := h.s
  have f0 := h.f0
  have he := h.e
  obtain ⟨n, hn⟩ : ∃ n, n = l.length := ⟨_, rfl⟩
  obtain ⟨k, hk⟩ : ∃ k, k = (Lib.uvarint x).length := ⟨_, rfl⟩
  rw [← hn] at h1 h2 hle
  rw [← hk] at hu hle
  have H := Lib.hid h
  have H4 := Lib.hid h4
  have HN := Lib.hid hn
  have HK := Lib.hid hk
  have HP := Lib.hid hl
  rw [← hk]
  clear h h4 hn hk hl
  obtain ⟨hu1, _⟩ := hu
  have i1 : ¬ (k : Int) < 1 := by omega
  have i2 : (k : Int) ≤ n := by omega
  have i3 : (n : Int) ≤ c := by omega
  have i0 : (0 : Int) ≤ k := by omega
  go_enter Tryz.func142, Tryz.ntmps142
  go_wp2_with fail
  refine (uvr_any b off n c x l w hx HP.out HN.out H4.out).mono ?_
  rintro e w' ⟨rfl, rfl⟩
  rw [← HK.out]
  go_wp2
  · have hck : c = k := by assumption
    go_ret
    have := H.out.drop H4.out (by rw [← HN.out]; exact h2) k (n - k) 0 off (by rw [HN.out]) (by omega) (.inr hck)
    exact ⟨rfl, this⟩
  · go_ret
    have := H.out.drop H4.out (by rw [← HN.out]; exact h2) k (n - k) (c - k) (off + k) (by rw [HN.out]) rfl (.inl rfl)
    exact ⟨rfl, this⟩

/-- Decbuf.Uvarint. -/
theorem dbU_any (db b x : Nat) (l : List UInt8) (w : World) (h : DB w db b l) (hx : x < 268435456) (hl : Lib.uvarint x <+: l) :
    Calls Tryz.prog 137 #[.pointer (some ⟨db, 0, none⟩)] w fun e w' => e = .returned (.int .i64 x) ∧ DB w' db b (l.drop (Lib.uvarint x).length) ∧ Kept (dbP db) w w' := by
  have H := Lib.hid h
  have HP := Lib.hid hl
  clear h hl
  go_enter Tryz.func137, Tryz.ntmps137
  go_wp2_with fail
  refine (dbU64_any db b x l w H.out hx HP.out).mono ?_
  rintro e w1 ⟨rfl, h1, k1⟩
  have H1 := Lib.hid h1
  have K1 := Lib.hid k1
  clear h1 k1
  go_wp2
  go_ret
  exact ⟨rfl, H1.out, K1.out⟩

def dbN (db : Nat) (w : World) : Nat := match w.cell? ⟨db, 0, none⟩ with | some (.slice _ n _) => n | _ => 0
theorem DB.n {w : World} {db b : Nat} {l : List UInt8} (h : DB w db b l) : dbN db w = l.length := by
  obtain ⟨off, c, h1, _⟩ := h.s
  simp [dbN, h1]

set_option maxRecDepth 100000 in
/-- Decbuf.ConsumePadding. -/
theorem dbPad_any (db b p : Nat) (x : UInt8) (r : List UInt8) (w : World) (h : DB w db b (zeros p ++ x :: r)) (hx : x ≠ 0) :
    Calls Tryz.prog 136 #[.pointer (some ⟨db, 0, none⟩)] w fun e w' => e = .returned (.tuple #[]) ∧ DB w' db b (x :: r) ∧ Kept (dbP db) w w' := by
  have H := Lib.hid h
  have he := h.e
  clear h
  go_enter Tryz.func136, Tryz.ntmps136
  go_wp2
  go_loopw [] (fun wr => ∃ k, k ≤ p ∧ DB wr db b (zeros (p - k) ++ x :: r) ∧ Kept (dbP db) w wr) (fun wr => dbN db wr)
  case atStart => exact ⟨0, Nat.zero_le _, H.out, Kept.refl _ _⟩
  case round =>
    obtain ⟨k, hk, hd, hkp⟩ := hrel
    have f0 := hd.f0
    have he := hd.e
    have HD := Lib.hid hd
    have HKP := Lib.hid hkp
    obtain ⟨l, hl⟩ : ∃ l, l = zeros (p - k) ++ x :: r := ⟨_, rfl⟩
    obtain ⟨n, hn⟩ : ∃ n, n = l.length := ⟨_, rfl⟩
    rw [← hl] at hd HD
    have hlen : l.length = (p - k) + (r.length + 1) := by rw [hl]; simp
    obtain ⟨off, c, h1, h2, h4⟩ := hd.s
    rw [← hn] at h1 h2
    have i3 : (n : Int) ≤ c := by omega
    have i0 : (0 : Int) < n := by omega
    have i9 : ¬ (n : Int) < 1 := by omega
    by_cases hkp' : k < p
    · have c0 := h4 0 0 (by rw [hl, show p - k = (p - k - 1) + 1 by omega]; simp [zeros, List.replicate_succ])
      rw [Nat.add_zero] at c0
      have c0' : wr.cell? ⟨b, off, none⟩ = some (.int .u8 0) := c0
      have i1 : (1 : Int) < n := by omega
      have hne : ¬ c = 1 := by omega
      have HN := Lib.hid hn
      have HL := Lib.hid hl
      have H4 := Lib.hid h4
      clear hn hl h4 c0 hd hkp hlen
      go_wp2
      all_goals try (exfalso; omega)
      obtain ⟨d1, d2⟩ := HD.out.drop H4.out (by rw [← HN.out]; exact h2) 1 (n - 1) (c - 1) (off + 1) (by rw [HN.out]) rfl (.inl rfl)
      go_round
      case rel =>
        refine ⟨k + 1, by omega, ?_, HKP.out.trans d2 (fun _ _ _ => id)⟩
        have e : l.drop 1 = zeros (p - (k + 1)) ++ x :: r := by
          rw [HL.out, show p - k = (p - (k + 1)) + 1 by omega]
          simp [zeros, List.replicate_succ]
        rw [← e]; exact d1
      case measure =>
        rw [d1.n, HD.out.n, List.length_drop, ← HN.out]; omega
    · obtain rfl : k = p := by omega
      have e : l = x :: r := by rw [hl]; simp [zeros]
      have c0 := h4 0 x (by rw [e]; rfl)
      rw [Nat.add_zero] at c0
      have hx0 : x.toNat ≠ 0 := fun e => hx (UInt8.toNat_inj.mp e)
      have c0' : wr.cell? ⟨b, off, none⟩ = some (.int .u8 (x.toNat : Int)) := c0
      have hx1 : ((x.toNat : Int) == 0) = false := by simp; omega
      have E := Lib.hid e
      have HN := Lib.hid hn
      clear hn hl h4 c0 hd hkp e hlen
      by_cases i1 : (1 : Int) < n
      · go_wp2
        go_end0
        refine ⟨rfl, ?_, HKP.out⟩
        rw [← E.out]; exact HD.out
      · go_wp2
        go_end0
        refine ⟨rfl, ?_, HKP.out⟩
        rw [← E.out]; exact HD.out

end Go.Proofs.YtfipfoplmopkaaaGreatDoor

namespace Go.Proofs.YtfipfoplmopkaaaGreatDoor
open Go.RowKit

set_option maxRecDepth 100000 in
/-- Decbuf.UvarintBytes. -/
theorem dbUB_any (db b : Nat) (s r : List UInt8) (w : World) (h : DB w db b (Lib.uvarint s.length ++ (s ++ r))) (hx : s.length < 2097152) :
    Calls Tryz.prog 141 #[.pointer (some ⟨db, 0, none⟩)] w fun e w' => ∃ o c, e = .returned (.slice (some ⟨b, o, none⟩) s.length c) ∧ s.length ≤ c ∧ (∀ j u, s[j]? = some u → w'.cell? ⟨b, o + j, none⟩ = some (bV u)) ∧ DB w' db b r ∧ Kept (dbP db) w w' := by
  have H := Lib.hid h
  obtain ⟨m, hm⟩ : ∃ m, m = s.length := ⟨_, rfl⟩
  have HM := Lib.hid hm
  rw [← hm] at h hx ⊢
  have HP := Lib.hid (List.prefix_append (Lib.uvarint m) (s ++ r))
  clear hm h
  go_enter Tryz.func141, Tryz.ntmps141
  go_wp2_with fail
  refine (dbU64_any db b m _ w H.out (by omega) (by rw [← HM.out]; exact HP.out)).mono ?_
  rintro e w1 ⟨rfl, h1, k1⟩
  rw [← HM.out, List.drop_left] at h1
  have H1 := Lib.hid h1
  have K1 := Lib.hid k1
  have he := h1.e
  have f0 := h1.f0
  obtain ⟨off, c, h2, h3, h4⟩ := h1.s
  obtain ⟨n, hn⟩ : ∃ n, n = (s ++ r).length := ⟨_, rfl⟩
  rw [← hn] at h2 h3
  have i1 : ¬ (n : Int) < m := by rw [hn]; simp; have := HM.out; omega
  have i2 : (m : Int) ≤ n := by omega
  have i3 : (n : Int) ≤ c := by omega
  have i4 : (m : Int) ≤ c := by omega
  have HN := Lib.hid hn
  have H4 := Lib.hid h4
  clear h1 k1 hn h4
  go_wp2
  · have hck : c = m := by assumption
    go_ret
    obtain ⟨d1, d2⟩ := H1.out.drop H4.out (by rw [← HN.out]; exact h3) m (n - m) 0 off (by rw [HN.out]) (by omega) (.inr hck)
    rw [show (s ++ r).drop m = r by rw [HM.out, List.drop_left]] at d1
    refine ⟨_, _, rfl, by omega, fun j u hj => ?_, d1, K1.out.trans d2 (fun _ _ _ => id)⟩
    rw [d2.cell _ _ (World.block_lt_of_cell? _ _ (H4.out j u ?_)) (fun e => H1.out.ne e)]
    all_goals try (refine H4.out j u ?_)
    all_goals (rw [List.getElem?_append_left (by rcases Nat.lt_or_ge j s.length with h | h; exact h; rw [List.getElem?_eq_none h] at hj; cases hj)]; exact hj)
  · go_ret
    obtain ⟨d1, d2⟩ := H1.out.drop H4.out (by rw [← HN.out]; exact h3) m (n - m) (c - m) (off + m) (by rw [HN.out]) rfl (.inl rfl)
    rw [show (s ++ r).drop m = r by rw [HM.out, List.drop_left]] at d1
    refine ⟨_, _, rfl, by omega, fun j u hj => ?_, d1, K1.out.trans d2 (fun _ _ _ => id)⟩
    rw [d2.cell _ _ (World.block_lt_of_cell? _ _ (H4.out j u ?_)) (fun e => H1.out.ne e)]
    all_goals try (refine H4.out j u ?_)
    all_goals (rw [List.getElem?_append_left (by rcases Nat.lt_or_ge j s.length with h | h; exact h; rw [List.getElem?_eq_none h] at hj; cases hj)]; exact hj)

end Go.Proofs.YtfipfoplmopkaaaGreatDoor

namespace Go.Proofs.YtfipfoplmopkaaaGreatDoor
open Go.RowKit

theorem ahead_len (v : Value) (w : World) : (nilAhead 482 208 v "Len").run Tryz.prog w = .ok (some false) w := by kernel_rfl
theorem method_len (v : Value) (w : World) : (method 482 208 v "Len").run Tryz.prog w = .ok (283, v) w := by kernel_rfl
theorem ahead_range (v : Value) (w : World) : (nilAhead 482 208 v "Range").run Tryz.prog w = .ok (some false) w := by kernel_rfl
theorem method_range (v : Value) (w : World) : (method 482 208 v "Range").run Tryz.prog w = .ok (284, v) w := by kernel_rfl

theorem rbLen_any (ao : Option Addr) (n c : Nat) (w : World) : Calls Tryz.prog 283 #[.slice ao n c] w fun e w' => e = .returned (.int .i64 n) ∧ w = w' := by
  go_enter Tryz.func283, Tryz.ntmps283
  go_wp2
  go_ret
  exact ⟨rfl, rfl⟩

/-- The polynomial of the sums. -/
def cast : Int := 2197175160

theorem castTab_any (w : World) : Calls Tryz.prog 130 #[] w fun e w' => e = .returned (.pointer (some ⟨w.heap.size, 0, none⟩)) ∧ w' = w.alloc (.cells #[.int .u32 cast] 288) := by
  go_enter Tryz.func130, Tryz.ntmps130
  go_wp2_with go_in
  go_ret
  exact ⟨rfl, rfl⟩

/-- zzcrc.Checksum. -/
theorem checksum_any (tb : Nat) (poly : Int) (ao : Option Addr) (n cap : Nat) (l : List UInt8) (w : World) (hl : l.length = n) (hn : n < 1000000000000) (hp : w.cell? ⟨tb, 0, none⟩ = some (.int .u32 poly))
    (hc : ∀ j u, l[j]? = some u → ∃ ad, ao = some ad ∧ w.cell? (ad.add j) = some (bV u)) :
    Calls Tryz.prog 128 #[.slice ao n cap, .pointer (some ⟨tb, 0, none⟩)] w fun e w' => e = .returned (.int .u32 (crcF poly 0 l)) ∧ w = w' := by
  have HC := Lib.hid hc
  have HL := Lib.hid hl
  clear hc hl
  go_enter Tryz.func128, Tryz.ntmps128
  go_wp2_with fail
  refine (update_any tb poly 0 ao n cap l w HL.out hn hp HC.out).mono ?_
  rintro e w1 ⟨rfl, rfl⟩
  go_wp2
  go_ret
  exact ⟨rfl, rfl⟩

/-- Decbuf.Crc32. -/
theorem dbCrc_any (db b tb : Nat) (poly : Int) (l : List UInt8) (w : World) (h : DB w db b l) (hn : l.length < 1000000000000) (hp : w.cell? ⟨tb, 0, none⟩ = some (.int .u32 poly)) :
    Calls Tryz.prog 181 #[.pointer (some ⟨db, 0, none⟩), .pointer (some ⟨tb, 0, none⟩)] w fun e w' => e = .returned (.int .u32 (crcF poly 0 l)) ∧ w = w' := by
  obtain ⟨off, c, h1, h2, h3⟩ := h.s
  obtain ⟨n, hn'⟩ : ∃ n, n = l.length := ⟨_, rfl⟩
  rw [← hn'] at h1 h2 hn
  have HN := Lib.hid hn'
  have H3 := Lib.hid h3
  clear h h3 hn'
  go_enter Tryz.func181, Tryz.ntmps181
  go_wp2_with fail
  refine (checksum_any tb poly (some ⟨b, off, none⟩) n c l w HN.out.symm hn hp (fun j u hj => ⟨_, rfl, by rw [Addr.add_lit]; exact H3.out j u hj⟩)).mono ?_
  rintro e w1 ⟨rfl, rfl⟩
  go_wp2
  go_ret
  exact ⟨rfl, rfl⟩

set_option maxRecDepth 100000 in
/-- encoding.NewDecbufRaw, of bytes that have a beginning of that length. -/
theorem newRaw_any (b off n c k : Nat) (w : World) (hkn : k ≤ n) (hnc : n ≤ c) :
    Calls Tryz.prog 133 #[.iface 208 (.slice (some ⟨b, off, none⟩) n c), .int .i64 k] w fun e w' => (∃ c', e = .returned (.agg #[.slice (some ⟨b, off, none⟩) k c', .nilIface]) ∧ k ≤ c') ∧ Kept (fun _ _ => False) w w' := by
  have m1 := ahead_len
  have m2 := method_len
  have m3 := ahead_range
  have m4 := method_range
  have i1 : ¬ (n : Int) < k := by omega
  have i2 : (k : Int) ≤ n := by omega
  have i3 : (k : Int) ≤ c := by omega
  go_enter Tryz.func133, Tryz.ntmps133
  go_wp2
  refine bodyPost_ret (v := .agg #[.slice (some ⟨b, off, none⟩) k c, .nilIface]) ?_ rfl ⟨⟨_, rfl, by omega⟩, Kept.alloc _ _ _⟩
  have hres : Tryz.f133.results = #[.cell 4 154] := by kernel_rfl
  simp only [results, hres]
  go_simp

theorem Kept.below {w w' : World} (h : Below w.heap.size w w') : Kept (fun _ _ => False) w w' :=
  ⟨h.os, h.tape, h.output, h.size, fun k o hk _ => World.cell?_of_block (a := ⟨k, o, none⟩) (h.block k hk), fun k o hk => World.frozen?_of_block (a := ⟨k, o, none⟩) (h.block k hk), fun k hk _ => h.block k hk⟩

theorem be32_nat (x : Nat) (hx : x < 4294967296) : Lib.beNat (be32 x) = x := by
  simp [Lib.beNat, Lib.beFrom, be32]
  omega

/-- binary.BigEndian.Uint32. -/
theorem getU32_any (b off n c x : Nat) (w : World) (hx : x < 4294967296) (hn : 4 ≤ n) (hc : ∀ j u, (be32 x)[j]? = some u → w.cell? ⟨b, off + j, none⟩ = some (bV u)) :
    Calls Tryz.prog 180 #[.agg #[], .slice (some ⟨b, off, none⟩) n c] w fun e w' => e = .returned (.int .u32 x) ∧ Kept (fun _ _ => False) w w' := by
  have c0 := hc 0 _ rfl
  have c1 := hc 1 _ rfl
  have c2 := hc 2 _ rfl
  have c3 := hc 3 _ rfl
  refine (Tryz.binary_BE_Uint32 b off n c _ _ _ _ w hn c0 c1 c2 c3).mono ?_
  rintro e w' ⟨rfl, h⟩
  refine ⟨?_, Kept.below h⟩
  have := be32_nat x hx
  unfold be32 at this
  rw [this]

end Go.Proofs.YtfipfoplmopkaaaGreatDoor

namespace Go.Proofs.YtfipfoplmopkaaaGreatDoor
open Go.RowKit

theorem rd_kept {P : Nat → Nat → Prop} {w w' : World} {b o : Nat} {l : List UInt8} (hk : Kept P w w') (hP : b < w.heap.size → ∀ o, ¬ P b o) (h : ∀ j u, l[j]? = some u → w.cell? ⟨b, o + j, none⟩ = some (bV u)) : ∀ j u, l[j]? = some u → w'.cell? ⟨b, o + j, none⟩ = some (bV u) := fun j u hj => by
  have h' := h j u hj
  have hb := World.block_lt_of_cell? _ _ h'
  exact (hk.cell _ _ hb (hP hb _)).trans h'

set_option maxRecDepth 100000 in
set_option maxHeartbeats 1000000 in
theorem newAt_any (b n c p m tb : Nat) (body : List UInt8) (w : World) (hm : m = body.length) (hn : p + 4 + m + 4 = n) (hnc : n ≤ c) (hn' : n < 100000000)
    (h1 : ∀ j u, (be32 m)[j]? = some u → w.cell? ⟨b, p + j, none⟩ = some (bV u)) (h2 : ∀ j u, body[j]? = some u → w.cell? ⟨b, p + 4 + j, none⟩ = some (bV u))
    (h3 : ∀ j u, (be32 (crcF cast 0 body).toNat)[j]? = some u → w.cell? ⟨b, p + 4 + m + j, none⟩ = some (bV u)) (htb : w.cell? ⟨tb, 0, none⟩ = some (.int .u32 cast)) :
    Calls Tryz.prog 161 #[.iface 208 (.slice (some ⟨b, 0, none⟩) n c), .int .i64 p, .pointer (some ⟨tb, 0, none⟩)] w fun e w' => (∃ c', e = .returned (.agg #[.slice (some ⟨b, p + 4, none⟩) m c', .nilIface]) ∧ m ≤ c') ∧ Kept (fun _ _ => False) w w' := by
  have m1 := ahead_len
  have m2 := method_len
  have m3 := ahead_range
  have m4 := method_range
  have H1 := Lib.hid h1
  have H2 := Lib.hid h2
  have H3 := Lib.hid h3
  have HM := Lib.hid hm
  have HT := Lib.hid htb
  clear h1 h2 h3 hm htb
  have i1 : ¬ (n : Int) < (p : Int) + 4 := by omega
  have i2 : (p : Int) + 4 ≤ n := by omega
  have i3 : (p : Int) + 4 ≤ c := by omega
  have i4 : (p : Int) ≤ (p : Int) + 4 := by omega
  go_enter Tryz.func161, Tryz.ntmps161
  go_wp2_with (first | (go_at_call 283; go_in) | (go_at_call 284; go_in))
  have K1 : Kept (fun _ _ => False) w (w.alloc (.cells #[.slice none 0 0, .nilIface] 154)) := Kept.alloc _ _ _
  refine (getU32_any b p 4 (c - p) m _ (by omega) (by omega) (rd_kept K1 (fun _ _ => id) H1.out)).mono ?_
  rintro e w2 ⟨rfl, k2⟩
  have hlt : w.heap.size < w2.heap.size := by have := k2.size; simp at this; omega
  have r0 : w2.cell? ⟨w.heap.size, 0, none⟩ = some (.slice none 0 0) := (k2.cell _ _ (by simp) id).trans (World.cell?_alloc_new _ _ _ _)
  have r1 : w2.cell? ⟨w.heap.size, 1, none⟩ = some .nilIface := (k2.cell _ _ (by simp) id).trans (World.cell?_alloc_new _ _ _ _)
  have f0 : w2.frozen? ⟨w.heap.size, 0, none⟩ = false := (k2.fr _ _ (by simp)).trans (by simp)
  have f1 : w2.frozen? ⟨w.heap.size, 1, none⟩ = false := (k2.fr _ _ (by simp)).trans (by simp)
  have K2 := Lib.hid (K1.trans k2 (fun _ _ _ => id))
  clear k2 K1
  obtain ⟨rb, hrb⟩ : ∃ rb, rb = w.heap.size := ⟨_, rfl⟩
  rw [← hrb] at hlt r0 r1 f0 f1 ⊢
  have HRB := Lib.hid hrb
  clear hrb
  have i5 : ¬ (n : Int) < (p : Int) + 4 + m + 4 := by omega
  have i6 : (p : Int) + 4 + m + 4 ≤ n := by omega
  have i7 : (p : Int) + 4 + m + 4 ≤ c := by omega
  have i8 : (p : Int) + 4 ≤ (p : Int) + 4 + m + 4 := by omega
  go_wp2_with (first | (go_at_call 283; go_in) | (go_at_call 284; go_in))
  rw [show n - (p + 4) - 4 = m by omega]
  simp only [show p + 4 + m + 4 - (p + 4) = m + 4 by omega]
  have hdb : ∃ db, db = w2.heap.size := ⟨_, rfl⟩
  obtain ⟨db, hdb⟩ := hdb
  obtain ⟨c2, hc2⟩ : ∃ c2, c2 = c - (p + 4) := ⟨_, rfl⟩
  obtain ⟨w3, hw3⟩ : ∃ w3, w3 = w2.alloc (Obj.cells #[Value.slice (some ⟨b, p + 4, none⟩) m c2, Value.nilIface] 154) := ⟨_, rfl⟩
  rw [← hc2, ← hdb, ← hw3]
  have k3 : Kept (fun _ _ => False) w2 w3 := by rw [hw3]; exact Kept.alloc _ _ _
  have d0 : w3.cell? ⟨db, 0, none⟩ = some (.slice (some ⟨b, p + 4, none⟩) m c2) := by rw [hw3, hdb, World.cell?_alloc_new]; rfl
  have d1 : w3.cell? ⟨db, 1, none⟩ = some .nilIface := by rw [hw3, hdb, World.cell?_alloc_new]; rfl
  have d2 : w3.frozen? ⟨db, 0, none⟩ = false := by rw [hw3, hdb]; simp
  have hbb : b < w.heap.size := World.block_lt_of_cell? _ _ (H1.out 0 _ rfl)
  have hne : b ≠ db := by have := K2.out.size; omega
  have D := Lib.hid (⟨⟨p + 4, c2, by rw [← HM.out]; exact d0, by rw [← HM.out]; omega, rd_kept (K2.out.trans k3 (fun _ _ _ => id)) (fun _ _ => id) H2.out⟩, d1, d2, hne⟩ : DB w3 db b body)
  have hr3 : rb < w3.heap.size := Nat.lt_of_lt_of_le hlt k3.size
  have r0' := (k3.cell rb 0 hlt id).trans r0
  have r1' := (k3.cell rb 1 hlt id).trans r1
  have f0' := (k3.fr rb 0 hlt).trans f0
  have f1' := (k3.fr rb 1 hlt).trans f1
  have K3 := Lib.hid (K2.out.trans k3 (fun _ _ _ => id))
  have i9 : (4 : Int) ≤ (m : Int) + 4 := by omega
  have i10 : (m : Int) + 4 ≤ c2 := by omega
  have i11 : (m : Int) ≤ c2 := by omega
  have i12 : ¬ c2 = m := by omega
  have i13 : IntKind.i64.wrap (m : Int) = m := IntWalk.i64_in _ (by omega)
  have i14 : (0 : Int) ≤ m := by omega
  have i15 : (m : Int) ≤ (m : Int) + 4 := by omega
  have HC2 := Lib.hid hc2
  clear r0 r1 f0 f1 hw3 k3 hdb hc2
  obtain ⟨q, hq⟩ : ∃ q, q = (crcF cast 0 body).toNat := ⟨_, rfl⟩
  have hcr := crcF_in cast 0 body
  have C3 := Lib.hid (rd_kept ((K3.out.trans (Kept.drew (fun _ _ => False) w3) (fun _ _ _ => id))) (fun _ _ => id) H3.out)
  rw [← hq] at C3
  have hq32 : q < 4294967296 := by omega
  have HQ := Lib.hid (show crcF cast 0 body = (q : Int) by omega)
  clear hq hcr
  go_region_with (go_at_call 180; refine (getU32_any b (p + 4 + m) _ _ q w3.drew hq32 (by omega) C3.out).mono ?_; rintro e w4 ⟨rfl, k4⟩)
  have k4' : Kept (fun _ _ => False) w3 w4 := (Kept.drew (fun _ _ => False) w3).trans k4 (fun _ _ _ => id)
  have hlt3 : db < w3.heap.size := World.block_lt_of_cell? _ _ d0
  have D4 := Lib.hid (D.out.kept k4' (fun _ => id) (fun _ _ => id))
  have d0' := (k4'.cell db 0 hlt3 id).trans d0
  have d1' := (k4'.cell db 1 hlt3 id).trans d1
  have r0 := (k4'.cell rb 0 hr3 id).trans r0'
  have r1 := (k4'.cell rb 1 hr3 id).trans r1'
  have f0 := (k4'.fr rb 0 hr3).trans f0'
  have f1 := (k4'.fr rb 1 hr3).trans f1'
  have K4 := Lib.hid (K3.out.trans k4' (fun _ _ _ => id))
  have HT4 := Lib.hid ((K4.out.cell tb 0 (World.block_lt_of_cell? _ _ HT.out) id).trans HT.out)
  have hrs : w.heap.size ≤ rb := by have := HRB.out; omega
  clear k4 k4' d0 d1 d2 r0' r1' f0' f1' C3
  have hml : body.length < 1000000000000 := by have := HM.out; omega
  have HML := Lib.hid hml
  clear hml
  go_wp2_with fail
  refine (dbCrc_any db b tb cast body w4 D4.out HML.out HT4.out).mono ?_
  rintro e w5 ⟨rfl, rfl⟩
  rw [HQ.out]
  go_wp2
  refine bodyPost_ret (v := .agg #[.slice (some ⟨b, p + 4, none⟩) m c2, .nilIface]) ?_ rfl ⟨⟨_, rfl, by omega⟩, ?_⟩
  · have hres : Tryz.f161.results = #[.cell 6 154] := by kernel_rfl
    simp only [results, hres]
    go_simp
  · refine K4.out.trans (Q := fun k _ => k = rb) ?_ (fun i o hi hp => by omega)
    exact (Kept.setCell (P := fun k _ => k = rb) w4 rb 0 _ rfl).trans (Kept.setCell (P := fun k _ => k = rb) _ rb 1 _ rfl) (fun _ _ _ => id)

end Go.Proofs.YtfipfoplmopkaaaGreatDoor

namespace Go.Proofs.YtfipfoplmopkaaaGreatDoor
open Go.RowKit

set_option maxRecDepth 100000 in
/-- Decbuf.Be32. -/
theorem dbBe32_any (db b x : Nat) (r : List UInt8) (w : World) (h : DB w db b (be32 x ++ r)) (hx : x < 4294967296) :
    Calls Tryz.prog 156 #[.pointer (some ⟨db, 0, none⟩)] w fun e w' => e = .returned (.int .u32 x) ∧ DB w' db b r ∧ Kept (dbP db) w w' := by
  obtain ⟨off, c, h1, h2, h3⟩ := h.s
  have hl : (be32 x ++ r).length = 4 + r.length := by simp [be32]; omega
  rw [hl] at h1 h2
  have f0 := h.f0
  have he := h.e
  have H := Lib.hid h
  have H3 := Lib.hid h3
  have HLT := Lib.hid h.lt
  obtain ⟨n, hn⟩ : ∃ n, n = 4 + r.length := ⟨_, rfl⟩
  rw [← hn] at h1 h2
  have i1 : ¬ (n : Int) < 4 := by omega
  have HN := Lib.hid hn
  have HL := Lib.hid hl
  have i2 : (4 : Int) ≤ n := by omega
  have i3 : (n : Int) ≤ c := by omega
  have hn4 : 4 ≤ n := by omega
  clear h h3 hl hn
  go_enter Tryz.func156, Tryz.ntmps156
  go_wp2
  have C1 := Lib.hid (rd_kept (l := be32 x) (Kept.drew (fun _ _ => False) w) (fun _ _ => id) (fun j u hj => H3.out j u (by
    have : j < (be32 x).length := by
      rcases Nat.lt_or_ge j (be32 x).length with h | h
      · exact h
      · rw [List.getElem?_eq_none h] at hj; cases hj
    rw [List.getElem?_append_left this]; exact hj)))
  have HE := Lib.hid (show (be32 x ++ r).drop 4 = r by simp [be32])
  go_region_with (go_at_call 180; refine (getU32_any b off n c x w.drew hx hn4 C1.out).mono ?_; rintro e w1 ⟨rfl, k1⟩; have k1' : Kept (fun _ _ => False) w w1 := (Kept.drew (fun _ _ => False) w).trans k1 (fun _ _ _ => id); have D1 := Lib.hid (H.out.kept k1' (fun _ => id) (fun _ _ => id)); have h1' := (k1'.cell db 0 HLT.out id).trans h1; have f0' := (k1'.fr db 0 HLT.out).trans f0; have C3 := Lib.hid (rd_kept k1' (fun _ _ => id) H3.out); have K1 := Lib.hid k1'; clear k1 k1' h1 f0 he)
  all_goals
    go_wp2
    · have hck : c = 4 := by assumption
      go_ret
      obtain ⟨d1, d2⟩ := D1.out.drop C3.out (by rw [HL.out, ← HN.out]; exact h2) 4 (n - 4) 0 off (by rw [HL.out, ← HN.out]) (by omega) (.inr hck)
      rw [HE.out] at d1
      exact ⟨rfl, d1, (K1.out.mono (fun _ _ _ => False.elim)).trans d2 (fun _ _ _ => id)⟩
    · go_ret
      obtain ⟨d1, d2⟩ := D1.out.drop C3.out (by rw [HL.out, ← HN.out]; exact h2) 4 (n - 4) (c - 4) (off + 4) (by rw [HL.out, ← HN.out]) rfl (.inl rfl)
      rw [HE.out] at d1
      exact ⟨rfl, d1, (K1.out.mono (fun _ _ _ => False.elim)).trans d2 (fun _ _ _ => id)⟩

/-- Decbuf.Be32int. -/
theorem dbBe32i_any (db b x : Nat) (r : List UInt8) (w : World) (h : DB w db b (be32 x ++ r)) (hx : x < 4294967296) :
    Calls Tryz.prog 119 #[.pointer (some ⟨db, 0, none⟩)] w fun e w' => e = .returned (.int .i64 x) ∧ DB w' db b r ∧ Kept (dbP db) w w' := by
  have H := Lib.hid h
  clear h
  go_enter Tryz.func119, Tryz.ntmps119
  go_wp2_with fail
  refine (dbBe32_any db b x r w H.out hx).mono ?_
  rintro e w1 ⟨rfl, h1, k1⟩
  have H1 := Lib.hid h1
  have K1 := Lib.hid k1
  clear h1 k1
  go_wp2
  go_ret
  exact ⟨rfl, H1.out, K1.out⟩

end Go.Proofs.YtfipfoplmopkaaaGreatDoor

namespace Go.Proofs.YtfipfoplmopkaaaGreatDoor
open Go.RowKit

/-- A symbol, as it is written. -/
def symE (s : ByteArray) : List UInt8 := Lib.uvarint s.size ++ sB s
def symB (ss : List ByteArray) : List UInt8 := (ss.map symE).flatten
theorem symB_drop {ss : List ByteArray} {j : Nat} (h : j < ss.length) : symB (ss.drop j) = symE ss[j] ++ symB (ss.drop (j + 1)) := by
  unfold symB; rw [List.drop_eq_getElem_cons h, List.map_cons, List.flatten_cons]
theorem symB_split (ss : List ByteArray) (j : Nat) : symB ss = symB (ss.take j) ++ symB (ss.drop j) := by
  unfold symB
  rw [← List.flatten_append, ← List.map_append, List.take_append_drop]

/-- The offsets that are kept: of each 32nd symbol. -/
def offV (p : Nat) (ss : List ByteArray) (k : Nat) : List Value := (List.range k).map fun i => .int .i64 ((p + 8 + (symB (ss.take (32 * i))).length : Nat) : Int)
theorem offV_succ (p : Nat) (ss : List ByteArray) (k : Nat) : offV p ss (k + 1) = offV p ss k ++ [.int .i64 ((p + 8 + (symB (ss.take (32 * k))).length : Nat) : Int)] := by
  simp [offV, List.range_succ]

/-- The struct Symbols at sb, j symbols seen. -/
structure SY (A : Nat → Prop) (w : World) (sb b p n c : Nat) (ss : List ByteArray) (j : Nat) : Prop where
  c0 : w.cell? ⟨sb, 0, none⟩ = some (.iface 208 (.slice (some ⟨b, 0, none⟩) n c))
  c1 : w.cell? ⟨sb, 1, none⟩ = some (.int .i64 2)
  c3 : ∃ v, w.cell? ⟨sb, 3, none⟩ = some v ∧ w.ownsRow 0 3 1 v ((j + 31) / 32) (offV p ss ((j + 31) / 32)) ∧ ∀ k, v.ownBlock = some k → A k
  c4 : w.cell? ⟨sb, 4, none⟩ = some (.int .i64 j)
  f3 : w.frozen? ⟨sb, 3, none⟩ = false
  f4 : w.frozen? ⟨sb, 4, none⟩ = false
  c2 : w.cell? ⟨sb, 2, none⟩ = some (.int .i64 p)

def syN (sb : Nat) (w : World) : Nat := match w.cell? ⟨sb, 4, none⟩ with | some (.int _ x) => x.toNat | _ => 0
theorem SY.n {A : Nat → Prop} {w : World} {sb b p n c : Nat} {ss : List ByteArray} {j : Nat} (h : SY A w sb b p n c ss j) : syN sb w = j := by simp [syN, h.c4]

theorem SY.put {A : Nat → Prop} {w : World} {sb b p n c : Nat} {ss : List ByteArray} {j : Nat} (hA : ∀ k, A k → k ≠ sb) (c0 : w.cell? ⟨sb, 0, none⟩ = some (.iface 208 (.slice (some ⟨b, 0, none⟩) n c))) (c1 : w.cell? ⟨sb, 1, none⟩ = some (.int .i64 2))
    (c3 : ∃ v, w.cell? ⟨sb, 3, none⟩ = some v ∧ w.ownsRow 0 3 1 v ((j + 1 + 31) / 32) (offV p ss ((j + 1 + 31) / 32)) ∧ ∀ k, v.ownBlock = some k → A k) (c4 : w.cell? ⟨sb, 4, none⟩ = some (.int .i64 j)) (f3 : w.frozen? ⟨sb, 3, none⟩ = false) (f4 : w.frozen? ⟨sb, 4, none⟩ = false) (c2 : w.cell? ⟨sb, 2, none⟩ = some (.int .i64 p)) :
    SY A (w.setCell ⟨sb, 4, none⟩ (.int .i64 ((j : Int) + 1))) sb b p n c ss (j + 1) := by
  obtain ⟨v, h1, h2, h3⟩ := c3
  refine ⟨?_, ?_, ⟨v, ?_, ownsRow_setCell_other h2 (fun e => hA _ (h3 _ e) rfl) _, h3⟩, World.cell?_setCell_same _ _ _ c4, ?_, ?_, ?_⟩
  · rw [World.cell?_setCell_other _ _ _ _ (by simp)]; exact c0
  · rw [World.cell?_setCell_other _ _ _ _ (by simp)]; exact c1
  · rw [World.cell?_setCell_other _ _ _ _ (by simp)]; exact h1
  · rw [World.frozen?_setCell]; exact f3
  · rw [World.frozen?_setCell]; exact f4
  · rw [World.cell?_setCell_other _ _ _ _ (by simp)]; exact c2

theorem one_new (w : World) (x : Value) (t : TypeId) : ∀ ad, some (⟨w.heap.size, 0, none⟩ : Addr) = some ad → ∀ (j : Nat) u, [x][j]? = some u → (w.alloc (.cells #[x] t)).cell? (ad.add j) = some u := by
  intro ad e j u hj
  cases e
  match j, hj with
  | 0, hj => simp at hj; subst hj; rw [Addr.add_lit, Nat.zero_add, World.cell?_alloc_new]; rfl

theorem app_kept {w w' : World} {e size : Nat} {v v' : Value} {n n0 : Nat} {xs xs0 : List Value} {o : Obj} (ha : App (w.drew.alloc o) w' e size v v' n xs) (hr : w.ownsRow 0 e size v n0 xs0) : Kept (fun k _ => v.ownBlock = some k) w w' :=
  ((Kept.drew _ w).trans (Kept.alloc _ _ o) (fun _ _ _ h => h)).trans (ha.kept (n0 := n0) (xs0 := xs0) (ownsRow_block hr (fun k hk => heap_alloc_old _ _ (hr.lt k hk).2))) (fun _ _ _ h => h)

theorem und256 : Tryz.prog.underlying 256 = some (.slice 3) := by kernel_rfl
theorem info3 : (Tryz.prog.info? 3).map (fun i => (i.zero, i.size, i.bytes)) = some (some (.int .i64 0), 1, 8) := by kernel_rfl

set_option maxRecDepth 100000 in
set_option maxHeartbeats 1000000 in
theorem newSymbols_any (b n c p m : Nat) (ss : List ByteArray) (w : World) (hm : m = 4 + (symB ss).length) (hn : p + 4 + m + 4 = n) (hnc : n ≤ c) (hn' : n < 100000000) (hss : ss.length < 100000)
    (h1 : ∀ j u, (be32 m)[j]? = some u → w.cell? ⟨b, p + j, none⟩ = some (bV u)) (h2 : ∀ j u, (be32 ss.length ++ symB ss)[j]? = some u → w.cell? ⟨b, p + 4 + j, none⟩ = some (bV u))
    (h3 : ∀ j u, (be32 (crcF cast 0 (be32 ss.length ++ symB ss)).toNat)[j]? = some u → w.cell? ⟨b, p + 4 + m + j, none⟩ = some (bV u)) (hsz : ∀ s ∈ ss, s.size < 10000) :
    Calls Tryz.prog 131 #[.iface 208 (.slice (some ⟨b, 0, none⟩) n c), .int .i64 2, .int .i64 p] w fun e w' => ∃ sb, e = .returned (.tuple #[.pointer (some ⟨sb, 0, none⟩), .nilIface]) ∧ w.heap.size ≤ sb ∧ SY (fun k => k ≠ sb ∧ w.heap.size ≤ k) w' sb b p n c ss ss.length ∧ Kept (fun k _ => w.heap.size ≤ k) w w' := by
  have H1 := Lib.hid h1
  have H2 := Lib.hid h2
  have H3 := Lib.hid h3
  have HM := Lib.hid hm
  have HZ := Lib.hid hsz
  clear h1 h2 h3 hm hsz
  go_enter Tryz.func131, Tryz.ntmps131
  go_wp2_with fail
  obtain ⟨sb, hsb⟩ : ∃ sb, sb = w.heap.size := ⟨_, rfl⟩
  obtain ⟨w1, hw1⟩ : ∃ w1, w1 = w.alloc (.cells #[.iface 208 (.slice (some ⟨b, 0, none⟩) n c), .int .i64 2, .int .i64 p, .slice none 0 0, .int .i64 0] 258) := ⟨_, rfl⟩
  rw [← hw1, ← hsb]
  have k1 : Kept (fun _ _ => False) w w1 := by rw [hw1]; exact Kept.alloc _ _ _
  have hlt : sb < w1.heap.size := by rw [hw1, hsb]; simp
  have s0 : w1.cell? ⟨sb, 0, none⟩ = some (.iface 208 (.slice (some ⟨b, 0, none⟩) n c)) := by rw [hw1, hsb, World.cell?_alloc_new]; rfl
  have s1 : w1.cell? ⟨sb, 1, none⟩ = some (.int .i64 2) := by rw [hw1, hsb, World.cell?_alloc_new]; rfl
  have s2 : w1.cell? ⟨sb, 2, none⟩ = some (.int .i64 p) := by rw [hw1, hsb, World.cell?_alloc_new]; rfl
  have s3 : w1.cell? ⟨sb, 3, none⟩ = some (.slice none 0 0) := by rw [hw1, hsb, World.cell?_alloc_new]; rfl
  have s4 : w1.cell? ⟨sb, 4, none⟩ = some (.int .i64 0) := by rw [hw1, hsb, World.cell?_alloc_new]; rfl
  have sf3 : w1.frozen? ⟨sb, 3, none⟩ = false := by rw [hw1, hsb]; simp
  have sf4 : w1.frozen? ⟨sb, 4, none⟩ = false := by rw [hw1, hsb]; simp
  refine (castTab_any w1).mono ?_
  rintro e w2 ⟨rfl, hw2⟩
  obtain ⟨tb, htb⟩ : ∃ tb, tb = w1.heap.size := ⟨_, rfl⟩
  rw [← htb]
  have k2' : Kept (fun _ _ => False) w1 w2 := by rw [hw2]; exact Kept.alloc _ _ _
  have k2 := k1.trans k2' (fun _ _ _ => id)
  have t0 : w2.cell? ⟨tb, 0, none⟩ = some (.int .u32 cast) := by rw [hw2, htb, World.cell?_alloc_new]; rfl
  have HSB := Lib.hid hsb
  have HTB := Lib.hid htb
  have hml : m = (be32 ss.length ++ symB ss).length := by simp [be32]; have := HM.out; omega
  have HML := Lib.hid hml
  clear hsb hw1 hw2 htb hml
  go_wp2_with fail
  refine (newAt_any b n c p m tb (be32 ss.length ++ symB ss) w2 HML.out hn hnc hn' (rd_kept k2 (fun _ _ => id) H1.out) (rd_kept k2 (fun _ _ => id) H2.out) (rd_kept k2 (fun _ _ => id) H3.out) t0).mono ?_
  rintro e w3 ⟨⟨c', rfl, hc'⟩, k3'⟩
  have k3 := k2.trans k3' (fun _ _ _ => id)
  have k13 := k2'.trans k3' (fun _ _ _ => id)
  have hlt3 : sb < w3.heap.size := Nat.lt_of_lt_of_le hlt k13.size
  have s0' := (k13.cell sb 0 hlt id).trans s0
  have s1' := (k13.cell sb 1 hlt id).trans s1
  have s2' := (k13.cell sb 2 hlt id).trans s2
  have s3' := (k13.cell sb 3 hlt id).trans s3
  have s4' := (k13.cell sb 4 hlt id).trans s4
  have sf3' := (k13.fr sb 3 hlt).trans sf3
  have sf4' := (k13.fr sb 4 hlt).trans sf4
  have K3 := Lib.hid k3
  clear s0 s1 s2 s3 s4 sf3 sf4 k13 k3' k2' k2 k1 t0 k3
  go_wp2_with fail
  obtain ⟨db, hdb⟩ : ∃ db, db = w3.heap.size := ⟨_, rfl⟩
  obtain ⟨w4, hw4⟩ : ∃ w4, w4 = w3.alloc (.cells #[.slice (some ⟨b, p + 4, none⟩) m c', .nilIface] 154) := ⟨_, rfl⟩
  rw [← hw4, ← hdb]
  have k4 : Kept (fun _ _ => False) w3 w4 := by rw [hw4]; exact Kept.alloc _ _ _
  have d0 : w4.cell? ⟨db, 0, none⟩ = some (.slice (some ⟨b, p + 4, none⟩) m c') := by rw [hw4, hdb, World.cell?_alloc_new]; rfl
  have d1 : w4.cell? ⟨db, 1, none⟩ = some .nilIface := by rw [hw4, hdb, World.cell?_alloc_new]; rfl
  have df : w4.frozen? ⟨db, 0, none⟩ = false := by rw [hw4, hdb]; simp
  have hbb : b < w.heap.size := World.block_lt_of_cell? _ _ (H1.out 0 _ rfl)
  have hne : b ≠ db := by have := K3.out.size; omega
  have k04 := K3.out.trans k4 (fun _ _ _ => id)
  have D4 := Lib.hid (⟨⟨p + 4, c', by rw [← HML.out]; exact d0, by rw [← HML.out]; exact hc', rd_kept k04 (fun _ _ => id) H2.out⟩, d1, df, hne⟩ : DB w4 db b (be32 ss.length ++ symB ss))
  have hsdb : sb < db := by omega
  have hlt4 : sb < w4.heap.size := Nat.lt_of_lt_of_le hlt3 k4.size
  have s0 := (k4.cell sb 0 hlt3 id).trans s0'
  have s1 := (k4.cell sb 1 hlt3 id).trans s1'
  have s2 := (k4.cell sb 2 hlt3 id).trans s2'
  have s3 := (k4.cell sb 3 hlt3 id).trans s3'
  have s4 := (k4.cell sb 4 hlt3 id).trans s4'
  have sf3 := (k4.fr sb 3 hlt3).trans sf3'
  have sf4 := (k4.fr sb 4 hlt3).trans sf4'
  have K4 := Lib.hid k04
  have HDB := Lib.hid hdb
  clear s0' s1' s2' s3' s4' sf3' sf4' k4 hw4 hdb d0 d1 df k04
  refine (dbLen_any db b m _ w4 D4.out HML.out).mono ?_
  rintro e w5 ⟨rfl, rfl⟩
  go_wp2_with fail
  refine (dbBe32i_any db b ss.length (symB ss) w4 D4.out (by omega)).mono ?_
  rintro e w5 ⟨rfl, d5, k5⟩
  have D5 := Lib.hid d5
  have hlt5 : sb < w5.heap.size := Nat.lt_of_lt_of_le hlt4 k5.size
  have s0' := (k5.cell sb 0 hlt4 (fun e => by unfold dbP at e; omega)).trans s0
  have s1' := (k5.cell sb 1 hlt4 (fun e => by unfold dbP at e; omega)).trans s1
  have s2' := (k5.cell sb 2 hlt4 (fun e => by unfold dbP at e; omega)).trans s2
  have s3' := (k5.cell sb 3 hlt4 (fun e => by unfold dbP at e; omega)).trans s3
  have s4' := (k5.cell sb 4 hlt4 (fun e => by unfold dbP at e; omega)).trans s4
  have sf3' := (k5.fr sb 3 hlt4).trans sf3
  have sf4' := (k5.fr sb 4 hlt4).trans sf4
  have hdw : w.heap.size ≤ db := by have := K3.out.size; have := HDB.out; omega
  have K5 := Lib.hid ((K4.out.mono (Q := fun k _ => w.heap.size ≤ k) (fun _ _ _ => False.elim)).trans k5 (fun i o _ e => by unfold dbP at e; omega))
  clear s0 s1 s2 s3 s4 sf3 sf4 d5 k5 K4 K3
  obtain ⟨cnt, hcnt⟩ : ∃ cnt, cnt = ss.length := ⟨_, rfl⟩
  rw [← hcnt] at hss ⊢
  have HC := Lib.hid hcnt
  clear hcnt
  obtain ⟨q, hq⟩ : ∃ q : Nat, (1 : Int) + (cnt : Int) / 32 = (q : Int) := ⟨1 + cnt / 32, by omega⟩
  obtain ⟨i0, hi, hz0, hz1, hz2⟩ := info_parts info3
  obtain ⟨w6, hmk, hown, hgr⟩ := run_make_own (P := Tryz.prog) w5 0 256 3 i0 (.int .i64 0) 1 und256 hi hz0 hz1 .i64 .i64 q (by rw [hz2]; omega) (by unfold maxLen; omega) (Nat.zero_le _)
  have k6 : Kept (fun _ _ => False) w5 w6 := Kept.grown hgr (fun _ _ e => by cases e) (fun _ _ e => by cases e)
  obtain ⟨ob, hob⟩ : ∃ ob, ob = w5.heap.size := ⟨_, rfl⟩
  rw [← hob] at hmk hown
  have hobs : ob ≠ sb := by omega
  have s0 := (k6.cell sb 0 hlt5 id).trans s0'
  have s1 := (k6.cell sb 1 hlt5 id).trans s1'
  have s2 := (k6.cell sb 2 hlt5 id).trans s2'
  have s3 := (k6.cell sb 3 hlt5 id).trans s3'
  have s4 := (k6.cell sb 4 hlt5 id).trans s4'
  have sf3 := (k6.fr sb 3 hlt5).trans sf3'
  have sf4 := (k6.fr sb 4 hlt5).trans sf4'
  have D6 := Lib.hid (D5.out.kept k6 (fun _ => id) (fun _ _ => id))
  have HO := Lib.hid hown
  have HOB := Lib.hid hob
  have K6 := Lib.hid (K5.out.trans k6 (fun _ _ _ h => h.elim))
  have k6h := k6.size
  clear hgr hown k6 s0' s1' s2' s3' s4' sf3' sf4' hob
  go_wp2
  have hd7 : Kept (fun k _ => k = sb) w6 (w6.setCell ⟨sb, 3, none⟩ (.slice (some ⟨ob, 0, none⟩) 0 q)) := Kept.setCell _ _ _ _ rfl
  have Y7 : SY (fun k => k ≠ sb ∧ k ≠ db ∧ w.heap.size ≤ k) (w6.setCell ⟨sb, 3, none⟩ (.slice (some ⟨ob, 0, none⟩) 0 q)) sb b p n c ss 0 := by
    refine ⟨?_, ?_, ⟨_, World.cell?_setCell_same _ _ _ s3, ?_, fun k hk => ?_⟩, ?_, ?_, ?_, ?_⟩
    · rw [World.cell?_setCell_other _ _ _ _ (by simp)]; exact s0
    · rw [World.cell?_setCell_other _ _ _ _ (by simp)]; exact s1
    · exact ownsRow_setCell_other HO.out (a := ⟨sb, 3, none⟩) (fun e => hobs (Option.some.inj (show some ob = some sb from e))) _
    · obtain rfl : ob = k := Option.some.inj hk
      have a1 := HOB.out; have a2 := D5.out.lt; have a3 := K5.out.size
      exact ⟨hobs, by omega, by omega⟩
    · rw [World.cell?_setCell_other _ _ _ _ (by simp)]; exact s4
    · rw [World.frozen?_setCell]; exact sf3
    · rw [World.frozen?_setCell]; exact sf4
    · rw [World.cell?_setCell_other _ _ _ _ (by simp)]; exact s2
  have D7 := D6.out.kept hd7 (fun _ (e : db = sb) => by omega) (fun _ _ (e : b = sb) => by have := HSB.out; omega)
  have K7 := K6.out.trans hd7 (fun i o _ (e : i = sb) => by have := HSB.out; show w.heap.size ≤ i; omega)
  have hw7 : sb < (w6.setCell ⟨sb, 3, none⟩ (.slice (some ⟨ob, 0, none⟩) 0 q)).heap.size := by simp; omega
  obtain ⟨w7, hw7e⟩ : ∃ w7, w7 = w6.setCell ⟨sb, 3, none⟩ (.slice (some ⟨ob, 0, none⟩) 0 q) := ⟨_, rfl⟩
  rw [← hw7e] at Y7 D7 K7 hw7 ⊢
  have hY7 := Lib.hid Y7
  have hD7 := Lib.hid D7
  have hK7 := Lib.hid K7
  clear Y7 D7 K7 hw7e hd7 s0 s1 s2 s3 s4 sf3 sf4 hmk hq D4 D5 D6 K5 K6
  go_loopw [] (fun wr => ∃ j, j ≤ cnt ∧ SY (fun k => k ≠ sb ∧ k ≠ db ∧ w.heap.size ≤ k) wr sb b p n c ss j ∧ DB wr db b (symB (ss.drop j)) ∧ Kept (fun k _ => w.heap.size ≤ k) w wr ∧ sb < wr.heap.size) (fun wr => cnt - syN sb wr)
  case atStart => exact ⟨0, Nat.zero_le _, hY7.out, hD7.out, hK7.out, hw7⟩
  case round =>
    obtain ⟨j, hj, hy, hd, hk, hlr⟩ := hrel
    have s4 := hy.c4
    have s3f := hy.f3
    have s4f := hy.f4
    obtain ⟨v, s3, hrow, hown⟩ := hy.c3
    have HY := Lib.hid hy
    have HD := Lib.hid hd
    have HK := Lib.hid hk
    have HR := Lib.hid hrow
    have HOW := Lib.hid hown
    clear hy hd hk hrow hown
    by_cases hlt : j < cnt
    · have i1 : (j : Int) < cnt := by omega
      by_cases h32 : j % 32 = 0
      · have i2 : ((j : Int) % 32 == 0) = true := by simp; omega
        go_wp2_with fail
        refine (dbErr_any db b _ wr HD.out).mono ?_
        rintro e w' ⟨rfl, rfl⟩
        go_wp2_with fail
        have hdn : (symB (ss.drop j)).length ≤ (symB ss).length := by have := congrArg List.length (symB_split ss j); simp at this; omega
        obtain ⟨r, hr⟩ : ∃ r, r = (symB (ss.drop j)).length := ⟨_, rfl⟩
        have hpos : p + 8 + (symB (ss.take j)).length = p + 4 + m - r := by have := congrArg List.length (symB_split ss j); simp at this; have := HM.out; omega
        have hrm : r ≤ m := by have := HM.out; omega
        have HRR := Lib.hid hr
        have HPO := Lib.hid hpos
        clear hdn hr hpos
        have HDD := Lib.hid HD.out
        have DD0 : Hid (DB wr.drew db b (symB (ss.drop j))) := Lib.hid (HD.out.kept (Kept.drew (fun _ _ => False) wr) (fun _ => id) (fun _ _ => id))
        obtain ⟨kk, hkk⟩ : ∃ kk, kk = (j + 31) / 32 := ⟨_, rfl⟩
        have hkk2 : (j + 1 + 31) / 32 = kk + 1 := by omega
        have hkk3 : 32 * kk = j := by omega
        rw [← hkk] at HR
        have hkl : kk < 1000000 := by omega
        have HKK := Lib.hid hkk2
        have HK3 := Lib.hid hkk3
        clear hkk hkk2 hkk3
        have HR1 : Hid (∀ o, (wr.drew.alloc o).ownsRow 0 3 1 v kk (offV p ss kk)) := Lib.hid (fun o => ownsRow_block HR.out (fun k hk => heap_alloc_old _ _ (HR.out.lt k hk).2))
        go_region_law (first | (go_simp; go_at_call 135; refine (dbLen_any db b r _ wr.drew DD0.out HRR.out).mono ?_; rintro e w' ⟨rfl, rfl⟩) | (refine step_app _ rfl _ _ 256 rfl 3 i0 (.int .i64 0) 1 8 und256 hi hz0 hz1 hz2 rfl (by decide) v kk (offV p ss kk) rfl (HR1.out _) (some ⟨wr.drew.heap.size, 0, none⟩) 1 1 [_] rfl rfl (fun e => by cases e) (one_new wr.drew _ 3) (by simp [Value.oneCell']) (by unfold maxLen; omega) (by omega) (fun v' w' ha => ?_); obtain ⟨ao', c3, rfl⟩ := own_slice ha.own; have hka := app_kept ha HR.out; have x3 := (hka.cell sb 3 hlr (fun e => (HOW.out sb e).1 rfl)).trans s3; have x3f := (hka.fr sb 3 hlr).trans s3f; have HKA := Lib.hid hka; have HA := Lib.hid ha; clear ha hka))
        all_goals
          have hval : IntKind.i64.wrap (IntKind.i64.wrap ((p : Int) + 4 + m) - r) = ((p + 8 + (symB (ss.take (32 * kk))).length : Nat) : Int) := by
            rw [HK3.out, HPO.out, IntWalk.i64_in ((p : Int) + 4 + m) (by omega), IntWalk.i64_in _ (by omega)]; omega
          have hrow := HA.out.own
          rw [hval, ← offV_succ] at hrow
          obtain ⟨w8, hw8⟩ : ∃ w8, w8 = w'.setCell ⟨sb, 3, none⟩ (.slice ao' (kk + 1) c3) := ⟨_, rfl⟩
          rw [← hw8]
          have hk8 : Kept (fun k _ => v.ownBlock = some k ∨ k = sb) wr w8 := by
            rw [hw8]
            exact (HKA.out.mono (fun _ _ _ h => .inl h)).trans (Kept.setCell (P := fun k _ => k = sb) _ sb 3 _ rfl) (fun _ _ _ h => .inr h)
          have hown8 : ∀ k, (Value.slice ao' (kk + 1) c3).ownBlock = some k → k ≠ sb ∧ k ≠ db ∧ w.heap.size ≤ k := fun k hk => by
            rcases HA.out.mv with h | ⟨g, h, hg⟩
            · exact HOW.out k (h.symm.trans hk)
            · obtain rfl : g = k := Option.some.inj (h.symm.trans hk)
              simp at hg
              have := HD.out.lt
              have := HK.out.size
              exact ⟨by omega, by omega, by omega⟩
          have z3 : w8.cell? ⟨sb, 3, none⟩ = some (.slice ao' (kk + 1) c3) := by rw [hw8]; exact World.cell?_setCell_same _ _ _ x3
          have z3f : w8.frozen? ⟨sb, 3, none⟩ = false := by rw [hw8, World.frozen?_setCell]; exact x3f
          have hnb : v.ownBlock ≠ some sb := fun e => (HOW.out sb e).1 rfl
          have z0 : w8.cell? ⟨sb, 0, none⟩ = some (.iface 208 (.slice (some ⟨b, 0, none⟩) n c)) := by rw [hw8, World.cell?_setCell_other _ _ _ _ (by simp)]; exact (HKA.out.cell sb 0 hlr hnb).trans HY.out.c0
          have z1 : w8.cell? ⟨sb, 1, none⟩ = some (.int .i64 2) := by rw [hw8, World.cell?_setCell_other _ _ _ _ (by simp)]; exact (HKA.out.cell sb 1 hlr hnb).trans HY.out.c1
          have z2 : w8.cell? ⟨sb, 2, none⟩ = some (.int .i64 p) := by rw [hw8, World.cell?_setCell_other _ _ _ _ (by simp)]; exact (HKA.out.cell sb 2 hlr hnb).trans HY.out.c2
          have z4 : w8.cell? ⟨sb, 4, none⟩ = some (.int .i64 j) := by rw [hw8, World.cell?_setCell_other _ _ _ _ (by simp)]; exact (HKA.out.cell sb 4 hlr hnb).trans s4
          have z4f : w8.frozen? ⟨sb, 4, none⟩ = false := by rw [hw8, World.frozen?_setCell]; exact (HKA.out.fr sb 4 hlr).trans s4f
          have hrow8 : Hid (w8.ownsRow 0 3 1 (.slice ao' (kk + 1) c3) (kk + 1) (offV p ss (kk + 1))) := by
            rw [hw8]; exact Lib.hid (ownsRow_setCell_other (a := ⟨sb, 3, none⟩) hrow (fun e => (hown8 sb e).1 rfl) _)
          have hb0 : b < w.heap.size := hbb
          have D8 : Hid (DB w8 db b (symB (ss.drop j))) := Lib.hid (HD.out.kept hk8 (fun _ h => by
            rcases h with h | h
            · exact (HOW.out _ h).2.1 rfl
            · omega) (fun _ _ h => by
            rcases h with h | h
            · have := (HOW.out _ h).2.2; omega
            · have := HSB.out; omega))
          have hlr8 : sb < w8.heap.size := Nat.lt_of_lt_of_le hlr hk8.size
          have HK8 : Hid (Kept (fun k _ => w.heap.size ≤ k) w w8) := Lib.hid (HK.out.trans hk8 (fun i o _ h => by
            rcases h with h | h
            · exact (HOW.out _ h).2.2
            · have := HSB.out; show w.heap.size ≤ i; omega))
          have HOW8 := Lib.hid hown8
          clear hk8 hown8 hrow x3 x3f hval hw8 s3 s4 s3f s4f
          go_wp2_with fail
          obtain ⟨sj, hsj⟩ : ∃ sj, sj = ss[j]'(by rw [← HC.out]; exact hlt) := ⟨_, rfl⟩
          have hdj : DB w8 db b (Lib.uvarint (sB sj).length ++ (sB sj ++ symB (ss.drop (j + 1)))) := by
            have := D8.out
            rw [symB_drop (by rw [← HC.out]; exact hlt), ← hsj] at this
            simpa [symE] using this
          have hz : (sB sj).length < 2097152 := by
            have := HZ.out sj (by rw [hsj]; exact List.getElem_mem _)
            simp; omega
          refine (dbUB_any db b (sB sj) _ w8 hdj hz).mono ?_
          rintro e w9 ⟨o, c2, rfl, _, _, d', k'⟩
          have hsd : sb ≠ db := by omega
          have hlr' : sb < w9.heap.size := Nat.lt_of_lt_of_le hlr8 k'.size
          have y0 := (k'.cell sb 0 hlr8 hsd).trans z0
          have y1 := (k'.cell sb 1 hlr8 hsd).trans z1
          have y2 := (k'.cell sb 2 hlr8 hsd).trans z2
          have y3 := (k'.cell sb 3 hlr8 hsd).trans z3
          have y4 := (k'.cell sb 4 hlr8 hsd).trans z4
          have y3f := (k'.fr sb 3 hlr8).trans z3f
          have y4f := (k'.fr sb 4 hlr8).trans z4f
          have DD := Lib.hid d'
          have KK := Lib.hid k'
          clear d' k' z0 z1 z2 z3 z4 z3f z4f hdj hz hsj
          go_wp2
          have YN : SY (fun k => k ≠ sb ∧ k ≠ db ∧ w.heap.size ≤ k) (w9.setCell ⟨sb, 4, none⟩ (.int .i64 ((j : Int) + 1))) sb b p n c ss (j + 1) :=
            SY.put (fun k h => h.1) y0 y1 ⟨_, y3, by rw [HKK.out]; exact ownsRow_block hrow8.out (fun k hk => KK.out.block k (hrow8.out.lt k hk).2 (fun _ e => (HOW8.out k hk).2.1 e)), HOW8.out⟩ y4 y3f y4f y2
          have k9 : Kept (fun k _ => k = sb) w9 (w9.setCell ⟨sb, 4, none⟩ (.int .i64 ((j : Int) + 1))) := Kept.setCell _ _ _ _ rfl
          go_round
          case rel =>
            refine ⟨j + 1, by omega, YN, DD.out.kept k9 (fun _ (e : db = sb) => by omega) (fun _ _ (e : b = sb) => by have := HSB.out; omega), ?_, by simp; omega⟩
            exact (HK8.out.trans KK.out (fun i o _ (e : i = db) => by show w.heap.size ≤ i; omega)).trans k9 (fun i o _ (e : i = sb) => by have := HSB.out; show w.heap.size ≤ i; omega)
          case measure =>
            rw [YN.n, HY.out.n]; omega
      · have i2 : ((j : Int) % 32 == 0) = false := by simp; omega
        go_wp2_with fail
        refine (dbErr_any db b _ wr HD.out).mono ?_
        rintro e w' ⟨rfl, rfl⟩
        go_wp2_with fail
        obtain ⟨sj, hsj⟩ : ∃ sj, sj = ss[j]'(by rw [← HC.out]; exact hlt) := ⟨_, rfl⟩
        have hdj : DB wr db b (Lib.uvarint (sB sj).length ++ (sB sj ++ symB (ss.drop (j + 1)))) := by
          have := HD.out
          rw [symB_drop (by rw [← HC.out]; exact hlt), ← hsj] at this
          simpa [symE] using this
        have hz : (sB sj).length < 2097152 := by
          have := HZ.out sj (by rw [hsj]; exact List.getElem_mem _)
          simp; omega
        refine (dbUB_any db b (sB sj) _ wr hdj hz).mono ?_
        rintro e w' ⟨o, c2, rfl, _, _, d', k'⟩
        have hsd : sb ≠ db := by omega
        have hlr' : sb < w'.heap.size := Nat.lt_of_lt_of_le hlr k'.size
        have y0 := (k'.cell sb 0 hlr hsd).trans HY.out.c0
        have y1 := (k'.cell sb 1 hlr hsd).trans HY.out.c1
        have y2 := (k'.cell sb 2 hlr hsd).trans HY.out.c2
        have y3 := (k'.cell sb 3 hlr hsd).trans s3
        have y4 := (k'.cell sb 4 hlr hsd).trans s4
        have y3f := (k'.fr sb 3 hlr).trans s3f
        have y4f := (k'.fr sb 4 hlr).trans s4f
        have DD := Lib.hid d'
        have KK := Lib.hid k'
        clear d' k' s3 s4 s3f s4f hdj hz hsj
        go_wp2
        have hke : (j + 1 + 31) / 32 = (j + 31) / 32 := by omega
        have YN : SY (fun k => k ≠ sb ∧ k ≠ db ∧ w.heap.size ≤ k) (w'.setCell ⟨sb, 4, none⟩ (.int .i64 ((j : Int) + 1))) sb b p n c ss (j + 1) :=
          SY.put (fun k h => h.1) y0 y1 ⟨v, y3, by rw [hke]; exact ownsRow_block HR.out (fun k hk => KK.out.block k (HR.out.lt k hk).2 (fun _ e => (HOW.out k hk).2.1 e)), HOW.out⟩ y4 y3f y4f y2
        have k9 : Kept (fun k _ => k = sb) w' (w'.setCell ⟨sb, 4, none⟩ (.int .i64 ((j : Int) + 1))) := Kept.setCell _ _ _ _ rfl
        go_round
        case rel =>
          refine ⟨j + 1, by omega, YN, DD.out.kept k9 (fun _ (e : db = sb) => by omega) (fun _ _ (e : b = sb) => by have := HSB.out; omega), ?_, by simp; omega⟩
          exact (HK.out.trans KK.out (fun i o _ (e : i = db) => by show w.heap.size ≤ i; omega)).trans k9 (fun i o _ (e : i = sb) => by have := HSB.out; show w.heap.size ≤ i; omega)
        case measure =>
          rw [YN.n, HY.out.n]; omega
    · have i1 : ¬ (j : Int) < cnt := by omega
      have hje : j = cnt := by omega
      go_wp2_with fail
      refine (dbErr_any db b _ wr HD.out).mono ?_
      rintro e w' ⟨rfl, rfl⟩
      go_wp2_with fail
      refine (dbErr_any db b _ wr HD.out).mono ?_
      rintro e w' ⟨rfl, rfl⟩
      go_wp2
      go_ret2
      refine ⟨sb, rfl, by have := HSB.out; omega, ?_, HK.out⟩
      rw [← HC.out, ← hje]
      exact ⟨HY.out.c0, HY.out.c1, ⟨v, s3, HR.out, fun k hk => ⟨(HOW.out k hk).1, (HOW.out k hk).2.2⟩⟩, s4, s3f, s4f, HY.out.c2⟩

end Go.Proofs.YtfipfoplmopkaaaGreatDoor
