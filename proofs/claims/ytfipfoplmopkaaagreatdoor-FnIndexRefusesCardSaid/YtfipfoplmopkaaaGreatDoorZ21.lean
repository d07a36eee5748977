/- Steps of the Writer on its two other files; EncodePostingsRaw; writePosting. Conditions: bounds on lengths. Numbers in groups of seven bits, read: dennwcvarint.Uvarint. Condition: below 268435456. Decbuf: Uvarint64, Uvarint, Skip, Len, Err, ConsumePadding, UvarintBytes. Conditions: what is read is there. Decbuf: Uvarint64, Uvarint, ConsumePadding, UvarintBytes, Be32. Conditions: what is read is there. Decbuf: UvarintBytes, Be32, Be32int, Crc32; Checksum. Conditions: what is read is there. Sums and slices of bytes behind the interface ByteSlice; Decbuf's makers. Conditions: what is read is there. encoding.NewDecbufAt: a part with its length ahead and its sum behind. Conditions: what is read is there, the sum is right. -/
import Derived.Test.YtfipfoplmopkaaaGreatDoorZ20
import Derived.Test.YtfipfoplmopkaaaGreatDoorZ12
import Derived.Test.YtfipfoplmopkaaaGreatDoorZ18
import Derived.Test.YtfipfoplmopkaaaGreatDoorZ17
import Derived.Lib.VarintBits

namespace Go.Proofs.YtfipfoplmopkaaaGreatDoor
open Go.RowKit Go.Maps

/-- fPO.Write(w.buf1.Get()), behind the slice that is laid for it. -/
theorem WI.writeO1 {w : World} {G : Gh} (h : WI w G) {b o : Nat} (hb : G.wb = b) (ho : G.ob = o) {v : Value} (hv : w.cell? ⟨b, 12, none⟩ = some v) (hl : G.lo.length + G.l1.length < 1000000000) (hfo : G.zo = false) :
    Calls Tryz.prog 101 #[.pointer (some ⟨o, 0, none⟩), .slice (some ⟨w.heap.size, 0, none⟩) 1 1] (w.alloc (.cells #[v] 27)) fun e w' => e = .returned .nilIface ∧ ∃ g n, Reach w G w' (G.fo g (G.lo ++ G.l1) n) := by
  subst hb
  subst ho
  obtain ⟨ao, n, c, hv', _, hrd⟩ := h.rd1
  obtain rfl : v = .slice ao n c := by rw [hv] at hv'; exact Option.some.inj hv'
  have ha := h.alloc (.cells #[.slice ao n c] 27)
  refine (fwWrite_any G.ob w.heap.size 0 1 1 G.go G.lo [G.l1] _ ha.o (rows_one h.o (hrd G.ob G.go 4 13 h.t4 (by decide) h.t13 (by decide))) rfl (by decide) (by simpa using hl)).mono ?_
  rintro e w' ⟨he, p⟩
  obtain ⟨g, r⟩ := ha.wror p hfo
  have r' := ((Reach.refl h).alloc _).trans r
  rw [show [G.l1].flatten = G.l1 by simp] at r'
  exact ⟨he, g, _, r'⟩

/-- fP.Write(w.buf2.Get(), w.buf1.Get()), behind the slice that is laid for it. -/
theorem WI.writeP21 {w : World} {G : Gh} (h : WI w G) {b p : Nat} (hb : G.wb = b) (hp : G.pb = p) {v v' : Value} (hv : w.cell? ⟨b, 23, none⟩ = some v) (hv2 : w.cell? ⟨b, 12, none⟩ = some v') (hl : G.lp.length + (G.l2.length + G.l1.length) < 1000000000) :
    Calls Tryz.prog 101 #[.pointer (some ⟨p, 0, none⟩), .slice (some ⟨w.heap.size, 0, none⟩) 2 2] (w.alloc (.cells #[v, v'] 27)) fun e w' => e = .returned .nilIface ∧ ∃ g n, Reach w G w' (G.fp g (G.lp ++ (G.l2 ++ G.l1)) n) := by
  subst hb
  subst hp
  obtain ⟨ao, n, c, hw, _, hrd⟩ := h.rd2
  obtain ⟨ao2, n2, c2, hw2, _, hrd2⟩ := h.rd1
  obtain rfl : v = .slice ao n c := by rw [hv] at hw; exact Option.some.inj hw
  obtain rfl : v' = .slice ao2 n2 c2 := by rw [hv2] at hw2; exact Option.some.inj hw2
  have ha := h.alloc (.cells #[.slice ao n c, .slice ao2 n2 c2] 27)
  refine (fwWrite_any G.pb w.heap.size 0 2 2 G.gp G.lp [G.l2, G.l1] _ ha.p (rows_two h.p (hrd G.pb G.gp 3 12 h.t3 (by decide) h.t12 (by decide)) (hrd2 G.pb G.gp 3 12 h.t3 (by decide) h.t12 (by decide))) rfl (by decide) (by simpa using hl)).mono ?_
  rintro e w' ⟨he, p⟩
  obtain ⟨g, r⟩ := ha.wrpr p
  have r' := ((Reach.refl h).alloc _).trans r
  rw [show [G.l2, G.l1].flatten = G.l2 ++ G.l1 by simp] at r'
  exact ⟨he, g, _, r'⟩

/-- fP.AddPadding. -/
theorem WI.padP {w : World} {G : Gh} (h : WI w G) {p : Nat} (hp : G.pb = p) (s : Nat) (hs0 : 0 < s) (hs : s ≤ 64) (hl : G.lp.length < 100000000) :
    Calls Tryz.prog 104 #[.pointer (some ⟨p, 0, none⟩), .int .i64 s] w fun e w' => e = .returned .nilIface ∧ ∃ g n, Reach w G w' (G.fp g (G.lp ++ zeros (padN G.lp.length s)) n) := by
  subst hp
  refine (fwPad_any G.pb s G.gp G.lp w h.p hs0 hs hl).mono ?_
  rintro e w' ⟨he, p⟩
  obtain ⟨g, r⟩ := h.wrpr p
  exact ⟨he, g, _, r⟩

/-- The main file's AddPadding. -/
theorem WI.padF {w : World} {G : Gh} (h : WI w G) {p : Nat} (hp : G.fb = p) (s : Nat) (hs0 : 0 < s) (hs : s ≤ 64) (hl : G.lf.length < 100000000) (hm : G.zm = false) :
    Calls Tryz.prog 104 #[.pointer (some ⟨p, 0, none⟩), .int .i64 s] w fun e w' => e = .returned .nilIface ∧ ∃ g n, Reach w G w' (G.ff g (G.lf ++ zeros (padN G.lf.length s)) n) := by
  subst hp
  refine (fwPad_any G.fb s G.gf G.lf w h.f hs0 hs hl).mono ?_
  rintro e w' ⟨he, p⟩
  obtain ⟨g, r⟩ := h.wrfr p hm
  exact ⟨he, g, _, r⟩
theorem WI.padW {w : World} {G : Gh} (h : WI w G) {b : Nat} (hb : G.wb = b) (s : Nat) (hs0 : 0 < s) (hs : s ≤ 64) (hl : G.lf.length < 100000000) (hm : G.zm = false) :
    Calls Tryz.prog 59 #[.pointer (some ⟨b, 0, none⟩), .int .i64 s] w fun e w' => e = .returned .nilIface ∧ ∃ g n, Reach w G w' (G.ff g (G.lf ++ zeros (padN G.lf.length s)) n) := by
  subst hb
  refine (wPad_any G.wb G.fb s G.gf G.lf w (h.fld 0 (by decide) (by decide) h.c0) h.f hs0 hs hl).mono ?_
  rintro e w' ⟨he, p⟩
  obtain ⟨g, r⟩ := h.wrfr p hm
  exact ⟨he, g, _, r⟩

/-- Only buf1 has turned. -/
structure OB (G G' : Gh) : Prop where
  g2 : G'.g2 = G.g2
  l2 : G'.l2 = G.l2
  gf : G'.gf = G.gf
  gp : G'.gp = G.gp
  go : G'.go = G.go
  lf : G'.lf = G.lf
  lp : G'.lp = G.lp
  lo : G'.lo = G.lo
  cs : G'.cs = G.cs
  ns : G'.ns = G.ns
  S : G'.S = G.S
  nl : G'.nl = G.nl
  L : G'.L = G.L
  wn : G'.wn = G.wn
  zm : G'.zm = G.zm
  zo : G'.zo = G.zo
theorem OB.refl (G : Gh) : OB G G := ⟨rfl, rfl, rfl, rfl, rfl, rfl, rfl, rfl, rfl, rfl, rfl, rfl, rfl, rfl, rfl, rfl⟩
theorem OB.trans {G G1 G2 : Gh} (h : OB G G1) (k : OB G1 G2) : OB G G2 :=
  ⟨k.g2.trans h.g2, k.l2.trans h.l2, k.gf.trans h.gf, k.gp.trans h.gp, k.go.trans h.go, k.lf.trans h.lf, k.lp.trans h.lp, k.lo.trans h.lo, k.cs.trans h.cs, k.ns.trans h.ns, k.S.trans h.S, k.nl.trans h.nl, k.L.trans h.L, k.wn.trans h.wn, k.zm.trans h.zm, k.zo.trans h.zo⟩
theorem OB.b1 (G : Gh) (g : Option Nat) (l : List UInt8) (n : Nat) : OB G (G.b1 g l n) := ⟨rfl, rfl, rfl, rfl, rfl, rfl, rfl, rfl, rfl, rfl, rfl, rfl, rfl, rfl, rfl, rfl⟩

/-- A row of numbers of 32 bits, in a block that is nobody's of the Writer's. -/
def U32s (w : World) (G : Gh) (ao : Option Addr) (xs : List Nat) : Prop := ∀ (j x : Nat), xs[j]? = some x → ∃ k off, ao = some ⟨k, off, none⟩ ∧ G.T k = 0 ∧ w.cell? ⟨k, off + j, none⟩ = some (.int .u32 x) ∧ x < 4294967296

def raw32 (xs : List Nat) : List UInt8 := (xs.map be32).flatten
theorem raw32_len (xs : List Nat) : (raw32 xs).length = 4 * xs.length := by
  unfold raw32
  induction xs with
  | nil => rfl
  | cons x r ih => simp [be32] at ih ⊢; omega
theorem raw32_snoc {xs : List Nat} {j x : Nat} (h : xs[j]? = some x) : raw32 (xs.take (j + 1)) = raw32 (xs.take j) ++ be32 x := by
  have hj : j < xs.length := by
    rcases Nat.lt_or_ge j xs.length with h' | h'
    · exact h'
    · rw [List.getElem?_eq_none h'] at h; cases h
  rw [List.getElem?_eq_getElem hj] at h
  cases h
  unfold raw32
  rw [List.take_succ_eq_append_getElem hj, List.map_append, List.flatten_append, List.map_cons, List.map_nil, List.flatten_cons, List.flatten_nil, List.append_nil]

set_option maxRecDepth 100000 in
set_option maxHeartbeats 1000000 in
/-- EncodePostingsRaw, into buf1. -/
theorem encRaw_any (w : World) (G : Gh) (h : WI w G) (b : Nat) (hb : G.wb = b) (ao : Option Addr) (n c : Nat) (xs : List Nat) (hn : n = xs.length) (hx : U32s w G ao xs) (hl : G.l1.length + 4 * n < 100000000) :
    Calls Tryz.prog 80 #[.pointer (some ⟨b, 12, none⟩), .slice ao n c] w fun e w' => e = .returned .nilIface ∧ Aft w G w' (fun G' => G'.l1 = G.l1 ++ (be32 n ++ raw32 xs) ∧ OB G G') := by
  have H := Lib.hid h
  have HB := Lib.hid hb
  have HX := Lib.hid hx
  have HN := Lib.hid hn
  have hn9 : n < 100000000 := by omega
  obtain ⟨s0, hs0⟩ : ∃ s0, s0 = G.l1.length := ⟨_, rfl⟩
  rw [← hs0] at hl
  have HS0 := Lib.hid hs0
  clear h hb hx hn hs0
  go_enter Tryz.func80, Tryz.ntmps80
  go_wp2_with fail
  refine (H.out.be32i_1 HB.out n (by have := HS0.out; omega) (by omega)).mono ?_
  rintro e w1 ⟨rfl, g1, r1⟩
  have R1 : Hid (Reach w G w1 (G.b1 g1 (G.l1 ++ be32 n) w.heap.size)) := Lib.hid r1
  clear r1
  go_wp2_with fail
  go_loopw [13] (fun i wr => ∃ j : Nat, j ≤ n ∧ i = .int .i64 j ∧ Hid (Aft w G wr (fun G' => G'.l1 = G.l1 ++ (be32 n ++ raw32 (xs.take j)) ∧ OB G G'))) (fun i _ => n - (intOf i).toNat)
  case atStart => exact ⟨0, Nat.zero_le _, rfl, Lib.hid ⟨_, R1.out, by simp [Gh.b1, raw32], OB.b1 _ _ _ _⟩⟩
  case round =>
    obtain ⟨j, hj, rfl, HR⟩ := hrel
    obtain ⟨Gr, rr, hr1, hob⟩ := HR.out
    have RR := Lib.hid rr
    have HR1 := Lib.hid hr1
    have HOB := Lib.hid hob
    clear rr hr1 hob HR R1
    by_cases hlt : j < n
    · obtain ⟨x, hxj⟩ : ∃ x, xs[j]? = some x := ⟨xs[j]'(by rw [← HN.out]; exact hlt), by simp [← HN.out, hlt]⟩
      obtain ⟨k, off, rfl, hT, hc, hx32⟩ := HX.out j x hxj
      have hcr : wr.cell? ⟨k, off + j, none⟩ = some (.int .u32 x) := (KT.cell RR.out.kp (World.block_lt_of_cell? _ _ hc) hT _).trans hc
      have HXJ := Lib.hid hxj
      clear hxj hc hT
      go_wp2_with fail
      have hlen : Gr.l1.length < 1000000000 := by
        rw [HR1.out]; simp [raw32_len, be32]; have := HS0.out; have := HN.out; omega
      have HLEN := Lib.hid hlen
      clear hlen
      refine (RR.out.wi.be32_1 (RR.out.nx.wb.trans HB.out) x HLEN.out hx32).mono ?_
      rintro e w2 ⟨rfl, g2, r2⟩
      have R2 := Lib.hid (RR.out.trans r2)
      clear r2 hcr
      go_wp2
      go_roundw
      case rel =>
        refine ⟨j + 1, by omega, by go_num, Lib.hid ⟨_, R2.out, ?_, HOB.out.trans (OB.b1 _ _ _ _)⟩⟩
        simp only [Gh.b1]
        rw [HR1.out, raw32_snoc HXJ.out]
        simp
      case measure => simp [intOf]; omega
    · have hje : j = n := by omega
      go_wp2
      go_ret
      refine ⟨rfl, _, RR.out, ?_, HOB.out⟩
      rw [HR1.out, hje, HN.out, List.take_of_length_le (Nat.le_refl _)]

end Go.Proofs.YtfipfoplmopkaaaGreatDoor

namespace Go.Proofs.YtfipfoplmopkaaaGreatDoor
open Go.RowKit

set_option maxRecDepth 100000 in
set_option maxHeartbeats 1000000 in
theorem uvr1 (b off n c x : Nat) (w : World) (hn : 1 ≤ n) (hx : x < 128) (h0 : w.cell? ⟨b, off, none⟩ = some (.int .u8 x)) :
    Calls Tryz.prog 165 #[.slice (some ⟨b, off, none⟩) n c] w fun e w' => e = .returned (.tuple #[.int .u64 x, .int .i64 1]) ∧ w = w' := by
  have e1 : ((n : Int) == 0) = false := by simp; omega
  have e2 : (x : Int) < 128 := by omega
  have hi0 : (0 : Int) < n := by omega
  by_cases h10 : 10 ≤ (n : Int)
  · go_enter Tryz.func165, Tryz.ntmps165
    go_wp2
    go_ret2
    exact ⟨rfl, rfl⟩
  · go_enter Tryz.func165, Tryz.ntmps165
    go_wp2
    go_ret2
    exact ⟨rfl, rfl⟩

set_option maxRecDepth 100000 in
theorem and127_nat : ∀ a : Fin 256, bits BinOp.and IntKind.u8 (a.val : Int) 127 = ((a.val % 128 : Nat) : Int) := by decide +kernel
theorem and127 (p : Nat) (h : p < 256) : bits BinOp.and IntKind.u8 (p : Int) 127 = ((p % 128 : Nat) : Int) := and127_nat ⟨p, h⟩

theorem or7 (p q : Nat) (hp : p < 256) (hq : q < 128) : bits BinOp.or IntKind.u64 (IntKind.u64.wrap (bits BinOp.and IntKind.u8 (p : Int) 127)) ((q : Int) * 128) = ((p % 128 + q * 128 : Nat) : Int) := by
  rw [and127 p hp, IntWalk.u64_in _ (by omega), u64_orv7 _ _ (by omega) (by omega) (by omega) (by omega) (by omega)]
  omega

theorem or14 (p q r : Nat) (hp : p < 256) (hq : q < 256) (hr : r < 128) : bits BinOp.or IntKind.u64 (bits BinOp.or IntKind.u64 (IntKind.u64.wrap (bits BinOp.and IntKind.u8 (p : Int) 127)) (IntKind.u64.wrap (IntKind.u64.wrap (bits BinOp.and IntKind.u8 (q : Int) 127) * 128))) ((r : Int) * 16384) = ((p % 128 + q % 128 * 128 + r * 16384 : Nat) : Int) := by
  rw [and127 q hq, IntWalk.u64_in ((q % 128 : Nat) : Int) (by omega), IntWalk.u64_in (((q % 128 : Nat) : Int) * 128) (by omega), or7 p (q % 128) hp (by omega), u64_orv14 _ _ (by omega) (by omega) (by omega) (by omega) (by omega)]
  omega

set_option maxRecDepth 100000 in
set_option maxHeartbeats 1000000 in
theorem uvr2 (b off : Nat) (p q n c : Nat) (w : World) (hp : 128 ≤ p) (hp' : p < 256) (hq : q < 128) (hn : 2 ≤ n) (h0 : w.cell? ⟨b, off, none⟩ = some (.int .u8 (p : Int))) (h1 : w.cell? ⟨b, off + 1, none⟩ = some (.int .u8 (q : Int))) :
    Calls Tryz.prog 165 #[.slice (some ⟨b, off, none⟩) n c] w fun e w' => e = .returned (.tuple #[.int .u64 ((p % 128 + q * 128 : Nat) : Int), .int .i64 2]) ∧ w = w' := by
  have e0 : ((n : Int) == 0) = false := by simp; omega
  have e1 : ((n : Int) == 1) = false := by simp; omega
  have hi0 : (0 : Int) < n := by omega
  have hi1 : (1 : Int) < n := by omega
  have l0 : ¬ (p : Int) < 128 := by omega
  have l1 : (q : Int) < 128 := by omega
  by_cases h10 : 10 ≤ (n : Int)
  · go_enter Tryz.func165, Tryz.ntmps165
    go_wp2
    go_ret2
    exact ⟨congrArg (fun v => Ending.returned (Value.tuple #[Value.int .u64 v, .int .i64 2])) (or7 p q hp' hq), rfl⟩
  · go_enter Tryz.func165, Tryz.ntmps165
    go_wp2
    go_ret2
    exact ⟨congrArg (fun v => Ending.returned (Value.tuple #[Value.int .u64 v, .int .i64 2])) (or7 p q hp' hq), rfl⟩

set_option maxRecDepth 100000 in
set_option maxHeartbeats 1000000 in
theorem uvr3 (b off : Nat) (p q r n c : Nat) (w : World) (hp : 128 ≤ p) (hp' : p < 256) (hq : 128 ≤ q) (hq' : q < 256) (hr : r < 128) (hn : 3 ≤ n) (h0 : w.cell? ⟨b, off, none⟩ = some (.int .u8 (p : Int))) (h1 : w.cell? ⟨b, off + 1, none⟩ = some (.int .u8 (q : Int))) (h2 : w.cell? ⟨b, off + 2, none⟩ = some (.int .u8 (r : Int))) :
    Calls Tryz.prog 165 #[.slice (some ⟨b, off, none⟩) n c] w fun e w' => e = .returned (.tuple #[.int .u64 ((p % 128 + q % 128 * 128 + r * 16384 : Nat) : Int), .int .i64 3]) ∧ w = w' := by
  have e0 : ((n : Int) == 0) = false := by simp; omega
  have e1 : ((n : Int) == 1) = false := by simp; omega
  have e2 : ((n : Int) == 2) = false := by simp; omega
  have hi0 : (0 : Int) < n := by omega
  have hi1 : (1 : Int) < n := by omega
  have hi2 : (2 : Int) < n := by omega
  have l0 : ¬ (p : Int) < 128 := by omega
  have l1 : ¬ (q : Int) < 128 := by omega
  have l2 : (r : Int) < 128 := by omega
  by_cases h10 : 10 ≤ (n : Int)
  · go_enter Tryz.func165, Tryz.ntmps165
    go_wp2
    go_ret2
    exact ⟨congrArg (fun v => Ending.returned (Value.tuple #[Value.int .u64 v, .int .i64 3])) (or14 p q r hp' hq' hr), rfl⟩
  · go_enter Tryz.func165, Tryz.ntmps165
    go_wp2
    go_ret2
    exact ⟨congrArg (fun v => Ending.returned (Value.tuple #[Value.int .u64 v, .int .i64 3])) (or14 p q r hp' hq' hr), rfl⟩

theorem or21 (p q r t : Nat) (hp : p < 256) (hq : q < 256) (hr : r < 256) (ht : t < 128) : bits BinOp.or IntKind.u64 (bits BinOp.or IntKind.u64 (bits BinOp.or IntKind.u64 (IntKind.u64.wrap (bits BinOp.and IntKind.u8 (p : Int) 127)) (IntKind.u64.wrap (IntKind.u64.wrap (bits BinOp.and IntKind.u8 (q : Int) 127) * 128))) (IntKind.u64.wrap (IntKind.u64.wrap (bits BinOp.and IntKind.u8 (r : Int) 127) * 16384))) ((t : Int) * 2097152) = ((p % 128 + q % 128 * 128 + r % 128 * 16384 + t * 2097152 : Nat) : Int) := by
  rw [and127 r hr, IntWalk.u64_in ((r % 128 : Nat) : Int) (by omega), IntWalk.u64_in (((r % 128 : Nat) : Int) * 16384) (by omega), or14 p q (r % 128) hp hq (by omega), u64_orv21 _ _ (by omega) (by omega) (by omega) (by omega) (by omega)]
  omega

set_option maxRecDepth 100000 in
set_option maxHeartbeats 1000000 in
theorem uvr4 (b off : Nat) (p q r t n c : Nat) (w : World) (hp : 128 ≤ p) (hp' : p < 256) (hq : 128 ≤ q) (hq' : q < 256) (hr : 128 ≤ r) (hr' : r < 256) (ht : t < 128) (hn : 4 ≤ n) (h0 : w.cell? ⟨b, off, none⟩ = some (.int .u8 (p : Int))) (h1 : w.cell? ⟨b, off + 1, none⟩ = some (.int .u8 (q : Int))) (h2 : w.cell? ⟨b, off + 2, none⟩ = some (.int .u8 (r : Int))) (h3 : w.cell? ⟨b, off + 3, none⟩ = some (.int .u8 (t : Int))) :
    Calls Tryz.prog 165 #[.slice (some ⟨b, off, none⟩) n c] w fun e w' => e = .returned (.tuple #[.int .u64 ((p % 128 + q % 128 * 128 + r % 128 * 16384 + t * 2097152 : Nat) : Int), .int .i64 4]) ∧ w = w' := by
  have e0 : ((n : Int) == 0) = false := by simp; omega
  have e1 : ((n : Int) == 1) = false := by simp; omega
  have e2 : ((n : Int) == 2) = false := by simp; omega
  have e3 : ((n : Int) == 3) = false := by simp; omega
  have hi0 : (0 : Int) < n := by omega
  have hi1 : (1 : Int) < n := by omega
  have hi2 : (2 : Int) < n := by omega
  have hi3 : (3 : Int) < n := by omega
  have l0 : ¬ (p : Int) < 128 := by omega
  have l1 : ¬ (q : Int) < 128 := by omega
  have l2 : ¬ (r : Int) < 128 := by omega
  have l3 : (t : Int) < 128 := by omega
  by_cases h10 : 10 ≤ (n : Int)
  · go_enter Tryz.func165, Tryz.ntmps165
    go_wp2
    go_ret2
    exact ⟨congrArg (fun v => Ending.returned (Value.tuple #[Value.int .u64 v, .int .i64 4])) (or21 p q r t hp' hq' hr' ht), rfl⟩
  · go_enter Tryz.func165, Tryz.ntmps165
    go_wp2
    go_ret2
    exact ⟨congrArg (fun v => Ending.returned (Value.tuple #[Value.int .u64 v, .int .i64 4])) (or21 p q r t hp' hq' hr' ht), rfl⟩

end Go.Proofs.YtfipfoplmopkaaaGreatDoor

namespace Go.Proofs.YtfipfoplmopkaaaGreatDoor
open Go.RowKit

theorem u8_nat (x : Nat) (h : x < 256) : bV x.toUInt8 = .int .u8 (x : Int) := by
  simp only [bV, Nat.toUInt8, UInt8.toNat_ofNat']
  rw [Nat.mod_eq_of_lt h]

theorem uvr_any (b off n c x : Nat) (l : List UInt8) (w : World) (hx : x < 268435456) (hl : Lib.uvarint x <+: l) (hn : n = l.length) (hc : ∀ j u, l[j]? = some u → w.cell? ⟨b, off + j, none⟩ = some (bV u)) :
    Calls Tryz.prog 165 #[.slice (some ⟨b, off, none⟩) n c] w fun e w' => e = .returned (.tuple #[.int .u64 x, .int .i64 (Lib.uvarint x).length]) ∧ w = w' := by
  obtain ⟨r, rfl⟩ := hl
  have hc' : ∀ j u, (Lib.uvarint x)[j]? = some u → w.cell? ⟨b, off + j, none⟩ = some (bV u) := fun j u hj => hc j u (by
    have : j < (Lib.uvarint x).length := by
      rcases Nat.lt_or_ge j (Lib.uvarint x).length with h | h
      · exact h
      · rw [List.getElem?_eq_none h] at hj; cases hj
    rw [List.getElem?_append_left this]; exact hj)
  rw [List.length_append] at hn
  clear hc
  by_cases h1 : x < 128
  · rw [Lib.uvarint_small h1] at hc' hn ⊢
    have c0 := hc' 0 _ rfl
    rw [u8_nat x (by omega)] at c0
    exact uvr1 b off n c x w (by simp at hn; omega) h1 c0
  · rw [Lib.uvarint_big (by omega)] at hc' hn ⊢
    have c0 := hc' 0 _ rfl
    rw [u8_nat _ (by omega)] at c0
    by_cases h2 : x < 16384
    · rw [Lib.uvarint_small (by omega)] at hc' hn ⊢
      have c1 := hc' 1 _ rfl
      rw [u8_nat _ (by omega)] at c1
      refine (uvr2 b off (x % 128 + 128) (x / 128) n c w (by omega) (by omega) (by omega) (by simp at hn; omega) c0 c1).mono ?_
      rintro e w' ⟨rfl, rfl⟩
      refine ⟨?_, rfl⟩
      rw [show ((x % 128 + 128) % 128 + x / 128 * 128 : Nat) = x by omega]
      rfl
    · by_cases h3 : x < 2097152
      · rw [Lib.uvarint_big (by omega), Lib.uvarint_small (by omega)] at hc' hn ⊢
        have c1 := hc' 1 _ rfl
        have c2 := hc' 2 _ rfl
        rw [u8_nat _ (by omega)] at c1 c2
        refine (uvr3 b off (x % 128 + 128) (x / 128 % 128 + 128) (x / 128 / 128) n c w (by omega) (by omega) (by omega) (by omega) (by omega) (by simp at hn; omega) c0 c1 c2).mono ?_
        rintro e w' ⟨rfl, rfl⟩
        refine ⟨?_, rfl⟩
        rw [show ((x % 128 + 128) % 128 + (x / 128 % 128 + 128) % 128 * 128 + x / 128 / 128 * 16384 : Nat) = x by omega]
        rfl
      · rw [Lib.uvarint_big (by omega), Lib.uvarint_big (by omega), Lib.uvarint_small (by omega)] at hc' hn ⊢
        have c1 := hc' 1 _ rfl
        have c2 := hc' 2 _ rfl
        have c3 := hc' 3 _ rfl
        rw [u8_nat _ (by omega)] at c1 c2 c3
        refine (uvr4 b off (x % 128 + 128) (x / 128 % 128 + 128) (x / 128 / 128 % 128 + 128) (x / 128 / 128 / 128) n c w (by omega) (by omega) (by omega) (by omega) (by omega) (by omega) (by omega) (by simp at hn; omega) c0 c1 c2 c3).mono ?_
        rintro e w' ⟨rfl, rfl⟩
        refine ⟨?_, rfl⟩
        rw [show ((x % 128 + 128) % 128 + (x / 128 % 128 + 128) % 128 * 128 + (x / 128 / 128 % 128 + 128) % 128 * 16384 + x / 128 / 128 / 128 * 2097152 : Nat) = x by omega]
        rfl

theorem uvarint_len4 {x : Nat} (hx : x < 268435456) : 1 ≤ (Lib.uvarint x).length ∧ (Lib.uvarint x).length ≤ 4 := by
  by_cases h1 : x < 128
  · rw [Lib.uvarint_small h1]; simp
  · rw [Lib.uvarint_big (by omega)]
    by_cases h2 : x < 16384
    · rw [Lib.uvarint_small (by omega)]; simp
    · rw [Lib.uvarint_big (by omega)]
      by_cases h3 : x < 2097152
      · rw [Lib.uvarint_small (by omega)]; simp
      · rw [Lib.uvarint_big (by omega), Lib.uvarint_small (by omega)]; simp

/-- The struct Decbuf in the block db: no error, the bytes l to be read, which lie in the block b. -/
structure DB (w : World) (db : Nat) (b : Nat) (l : List UInt8) : Prop where
  s : ∃ off c, w.cell? ⟨db, 0, none⟩ = some (.slice (some ⟨b, off, none⟩) l.length c) ∧ l.length ≤ c ∧ ∀ j u, l[j]? = some u → w.cell? ⟨b, off + j, none⟩ = some (bV u)
  e : w.cell? ⟨db, 1, none⟩ = some .nilIface
  f0 : w.frozen? ⟨db, 0, none⟩ = false
  ne : b ≠ db

def dbP (db k _o : Nat) : Prop := k = db

theorem DB.lt {w : World} {db b : Nat} {l : List UInt8} (h : DB w db b l) : db < w.heap.size := World.block_lt_of_cell? _ _ h.e
theorem DB.kept {w w' : World} {db b : Nat} {l : List UInt8} {P : Nat → Nat → Prop} (h : DB w db b l) (hk : Kept P w w') (h0 : ∀ o, ¬ P db o) (hs : b < w.heap.size → ∀ o, ¬ P b o) : DB w' db b l := by
  obtain ⟨off, c, h1, h2, h3⟩ := h.s
  refine ⟨⟨off, c, (hk.cell _ _ h.lt (h0 0)).trans h1, h2, fun j u hj => ?_⟩, (hk.cell _ _ h.lt (h0 1)).trans h.e, (hk.fr _ _ h.lt).trans h.f0, h.ne⟩
  have h4 := h3 j u hj
  have hb := World.block_lt_of_cell? _ _ h4
  exact (hk.cell _ _ hb (hs hb _)).trans h4

/-- Some bytes have been read. -/
theorem DB.drop {w : World} {db b off c : Nat} {l : List UInt8} (h : DB w db b l) (hc : ∀ j u, l[j]? = some u → w.cell? ⟨b, off + j, none⟩ = some (bV u)) (hle : l.length ≤ c) (k n' c' off' : Nat) (hn : n' = l.length - k) (hc' : c' = c - k) (ha : off' = off + k ∨ c = k) :
    DB (w.setCell ⟨db, 0, none⟩ (.slice (some ⟨b, off', none⟩) n' c')) db b (l.drop k) ∧ Kept (dbP db) w (w.setCell ⟨db, 0, none⟩ (.slice (some ⟨b, off', none⟩) n' c')) := by
  subst hn; subst hc'
  have hk : Kept (dbP db) w (w.setCell ⟨db, 0, none⟩ (.slice (some ⟨b, off', none⟩) (l.length - k) (c - k))) := Kept.setCell _ _ _ _ rfl
  obtain ⟨_, c0, h1, _, _⟩ := h.s
  refine ⟨⟨⟨_, c - k, by rw [List.length_drop]; exact World.cell?_setCell_same _ _ _ h1, by rw [List.length_drop]; omega, fun j u hj => ?_⟩, ?_, ?_, h.ne⟩, hk⟩
  · rw [List.getElem?_drop] at hj
    have h4 := hc (k + j) u hj
    rcases ha with rfl | rfl
    · rw [World.cell?_setCell_other _ _ _ _ (fun e => h.ne (by have := congrArg Addr.block e; first | exact this | exact this.symm)), Nat.add_assoc]
      exact h4
    · rw [List.getElem?_eq_none (by omega)] at hj; cases hj
  · rw [World.cell?_setCell_other _ _ _ _ (fun e => by cases e)]; exact h.e
  · rw [World.frozen?_setCell]; exact h.f0

/-- Decbuf.Err. -/
theorem dbErr_any (db b : Nat) (l : List UInt8) (w : World) (h : DB w db b l) : Calls Tryz.prog 121 #[.pointer (some ⟨db, 0, none⟩)] w fun e w' => e = .returned .nilIface ∧ w = w' := by
  have h1 := h.e
  clear h
  go_enter Tryz.func121, Tryz.ntmps121
  go_wp2
  go_ret
  exact ⟨rfl, rfl⟩

/-- Decbuf.Len. -/
theorem dbLen_any (db b n : Nat) (l : List UInt8) (w : World) (h : DB w db b l) (hn : n = l.length) : Calls Tryz.prog 135 #[.pointer (some ⟨db, 0, none⟩)] w fun e w' => e = .returned (.int .i64 n) ∧ w = w' := by
  obtain ⟨off, c, h1, _, _⟩ := h.s
  rw [← hn] at h1
  clear h hn
  go_enter Tryz.func135, Tryz.ntmps135
  go_wp2
  go_ret
  exact ⟨rfl, rfl⟩

set_option maxRecDepth 100000 in
/-- Decbuf.Skip. -/
theorem dbSkip_any (db b k : Nat) (l : List UInt8) (w : World) (h : DB w db b l) (hk : k ≤ l.length) : Calls Tryz.prog 134 #[.pointer (some ⟨db, 0, none⟩), .int .i64 k] w fun e w' => e = .returned (.tuple #[]) ∧ DB w' db b (l.drop k) ∧ Kept (dbP db) w w' := by
  obtain ⟨off, c, h1, h2, h4⟩ := h.s
  have f0 := h.f0
  obtain ⟨n, hn⟩ : ∃ n, n = l.length := ⟨_, rfl⟩
  have H := Lib.hid h
  have H4 := Lib.hid h4
  rw [← hn] at h1 h2 hk
  have HN := Lib.hid hn
  clear h h4 hn
  have i1 : ¬ (n : Int) < k := by omega
  have i2 : (k : Int) ≤ n := by omega
  have i3 : (n : Int) ≤ c := by omega
  go_enter Tryz.func134, Tryz.ntmps134
  go_wp2
  · have hck : c = k := by assumption
    go_end0
    have := H.out.drop H4.out (by rw [← HN.out]; exact h2) k (n - k) 0 off (by rw [HN.out]) (by omega) (.inr hck)
    exact ⟨rfl, this⟩
  · go_end0
    have := H.out.drop H4.out (by rw [← HN.out]; exact h2) k (n - k) (c - k) (off + k) (by rw [HN.out]) rfl (.inl rfl)
    exact ⟨rfl, this⟩

end Go.Proofs.YtfipfoplmopkaaaGreatDoor

namespace Go.Proofs.YtfipfoplmopkaaaGreatDoor
open Go.RowKit

set_option maxRecDepth 100000 in
/-- Decbuf.Uvarint64. -/
theorem dbU64_any (db b x : Nat) (l : List UInt8) (w : World) (h : DB w db b l) (hx : x < 268435456) (hl : Lib.uvarint x <+: l) :
    Calls Tryz.prog 142 #[.pointer (some ⟨db, 0, none⟩)] w fun e w' => e = .returned (.int .u64 x) ∧ DB w' db b (l.drop (Lib.uvarint x).length) ∧ Kept (dbP db) w w' := by
  have hu := uvarint_len4 hx
  have hle := hl.length_le
  obtain ⟨off, c, h1, h2, h4⟩ := h.s
  have f0 := h.f0
  have he := h.e
  obtain ⟨n, hn⟩ : ∃ n, n = l.length := ⟨_, rfl⟩
  obtain ⟨k, hk⟩ : ∃ k, k = (Lib.uvarint x).length := ⟨_, rfl⟩
  rw [← hn] at h1 h2 hle
  rw [← hk] at hu hle
  have H := Lib.hid h
  have H4 := Lib.hid h4
  have HN := Lib.hid hn
  have HK := Lib.hid hk
  have HP := Lib.hid hl
  rw [← hk]
  clear h h4 hn hk hl
  obtain ⟨hu1, _⟩ := hu
  have i1 : ¬ (k : Int) < 1 := by omega
  have i2 : (k : Int) ≤ n := by omega
  have i3 : (n : Int) ≤ c := by omega
  have i0 : (0 : Int) ≤ k := by omega
  go_enter Tryz.func142, Tryz.ntmps142
  go_wp2_with fail
  refine (uvr_any b off n c x l w hx HP.out HN.out H4.out).mono ?_
  rintro e w' ⟨rfl, rfl⟩
  rw [← HK.out]
  go_wp2
  · have hck : c = k := by assumption
    go_ret
    have := H.out.drop H4.out (by rw [← HN.out]; exact h2) k (n - k) 0 off (by rw [HN.out]) (by omega) (.inr hck)
    exact ⟨rfl, this⟩
  · go_ret
    have := H.out.drop H4.out (by rw [← HN.out]; exact h2) k (n - k) (c - k) (off + k) (by rw [HN.out]) rfl (.inl rfl)
    exact ⟨rfl, this⟩

/-- Decbuf.Uvarint. -/
theorem dbU_any (db b x : Nat) (l : List UInt8) (w : World) (h : DB w db b l) (hx : x < 268435456) (hl : Lib.uvarint x <+: l) :
    Calls Tryz.prog 137 #[.pointer (some ⟨db, 0, none⟩)] w fun e w' => e = .returned (.int .i64 x) ∧ DB w' db b (l.drop (Lib.uvarint x).length) ∧ Kept (dbP db) w w' := by
  have H := Lib.hid h
  have HP := Lib.hid hl
  clear h hl
  go_enter Tryz.func137, Tryz.ntmps137
  go_wp2_with fail
  refine (dbU64_any db b x l w H.out hx HP.out).mono ?_
  rintro e w1 ⟨rfl, h1, k1⟩
  have H1 := Lib.hid h1
  have K1 := Lib.hid k1
  clear h1 k1
  go_wp2
  go_ret
  exact ⟨rfl, H1.out, K1.out⟩

def dbN (db : Nat) (w : World) : Nat := match w.cell? ⟨db, 0, none⟩ with | some (.slice _ n _) => n | _ => 0
theorem DB.n {w : World} {db b : Nat} {l : List UInt8} (h : DB w db b l) : dbN db w = l.length := by
  obtain ⟨off, c, h1, _⟩ := h.s
  simp [dbN, h1]

set_option maxRecDepth 100000 in
/-- Decbuf.ConsumePadding. -/
theorem dbPad_any (db b p : Nat) (x : UInt8) (r : List UInt8) (w : World) (h : DB w db b (zeros p ++ x :: r)) (hx : x ≠ 0) :
    Calls Tryz.prog 136 #[.pointer (some ⟨db, 0, none⟩)] w fun e w' => e = .returned (.tuple #[]) ∧ DB w' db b (x :: r) ∧ Kept (dbP db) w w' := by
  have H := Lib.hid h
  have he := h.e
  clear h
  go_enter Tryz.func136, Tryz.ntmps136
  go_wp2
  go_loopw [] (fun wr => ∃ k, k ≤ p ∧ DB wr db b (zeros (p - k) ++ x :: r) ∧ Kept (dbP db) w wr) (fun wr => dbN db wr)
  case atStart => exact ⟨0, Nat.zero_le _, H.out, Kept.refl _ _⟩
  case round =>
    obtain ⟨k, hk, hd, hkp⟩ := hrel
    have f0 := hd.f0
    have he := hd.e
    have HD := Lib.hid hd
    have HKP := Lib.hid hkp
    obtain ⟨l, hl⟩ : ∃ l, l = zeros (p - k) ++ x :: r := ⟨_, rfl⟩
    obtain ⟨n, hn⟩ : ∃ n, n = l.length := ⟨_, rfl⟩
    rw [← hl] at hd HD
    have hlen : l.length = (p - k) + (r.length + 1) := by rw [hl]; simp
    obtain ⟨off, c, h1, h2, h4⟩ := hd.s
    rw [← hn] at h1 h2
    have i3 : (n : Int) ≤ c := by omega
    have i0 : (0 : Int) < n := by omega
    have i9 : ¬ (n : Int) < 1 := by omega
    by_cases hkp' : k < p
    · have c0 := h4 0 0 (by rw [hl, show p - k = (p - k - 1) + 1 by omega]; simp [zeros, List.replicate_succ])
      rw [Nat.add_zero] at c0
      have c0' : wr.cell? ⟨b, off, none⟩ = some (.int .u8 0) := c0
      have i1 : (1 : Int) < n := by omega
      have hne : ¬ c = 1 := by omega
      have HN := Lib.hid hn
      have HL := Lib.hid hl
      have H4 := Lib.hid h4
      clear hn hl h4 c0 hd hkp hlen
      go_wp2
      all_goals try (exfalso; omega)
      obtain ⟨d1, d2⟩ := HD.out.drop H4.out (by rw [← HN.out]; exact h2) 1 (n - 1) (c - 1) (off + 1) (by rw [HN.out]) rfl (.inl rfl)
      go_round
      case rel =>
        refine ⟨k + 1, by omega, ?_, HKP.out.trans d2 (fun _ _ _ => id)⟩
        have e : l.drop 1 = zeros (p - (k + 1)) ++ x :: r := by
          rw [HL.out, show p - k = (p - (k + 1)) + 1 by omega]
          simp [zeros, List.replicate_succ]
        rw [← e]; exact d1
      case measure =>
        rw [d1.n, HD.out.n, List.length_drop, ← HN.out]; omega
    · obtain rfl : k = p := by omega
      have e : l = x :: r := by rw [hl]; simp [zeros]
      have c0 := h4 0 x (by rw [e]; rfl)
      rw [Nat.add_zero] at c0
      have hx0 : x.toNat ≠ 0 := fun e => hx (UInt8.toNat_inj.mp e)
      have c0' : wr.cell? ⟨b, off, none⟩ = some (.int .u8 (x.toNat : Int)) := c0
      have hx1 : ((x.toNat : Int) == 0) = false := by simp; omega
      have E := Lib.hid e
      have HN := Lib.hid hn
      clear hn hl h4 c0 hd hkp e hlen
      by_cases i1 : (1 : Int) < n
      · go_wp2
        go_end0
        refine ⟨rfl, ?_, HKP.out⟩
        rw [← E.out]; exact HD.out
      · go_wp2
        go_end0
        refine ⟨rfl, ?_, HKP.out⟩
        rw [← E.out]; exact HD.out

end Go.Proofs.YtfipfoplmopkaaaGreatDoor

namespace Go.Proofs.YtfipfoplmopkaaaGreatDoor
open Go.RowKit

set_option maxRecDepth 100000 in
/-- Decbuf.UvarintBytes. -/
theorem dbUB_any (db b : Nat) (s r : List UInt8) (w : World) (h : DB w db b (Lib.uvarint s.length ++ (s ++ r))) (hx : s.length < 2097152) :
    Calls Tryz.prog 141 #[.pointer (some ⟨db, 0, none⟩)] w fun e w' => ∃ o c, e = .returned (.slice (some ⟨b, o, none⟩) s.length c) ∧ s.length ≤ c ∧ (∀ j u, s[j]? = some u → w'.cell? ⟨b, o + j, none⟩ = some (bV u)) ∧ DB w' db b r ∧ Kept (dbP db) w w' := by
  have H := Lib.hid h
  obtain ⟨m, hm⟩ : ∃ m, m = s.length := ⟨_, rfl⟩
  have HM := Lib.hid hm
  rw [← hm] at h hx ⊢
  have HP := Lib.hid (List.prefix_append (Lib.uvarint m) (s ++ r))
  clear hm h
  go_enter Tryz.func141, Tryz.ntmps141
  go_wp2_with fail
  refine (dbU64_any db b m _ w H.out (by omega) (by rw [← HM.out]; exact HP.out)).mono ?_
  rintro e w1 ⟨rfl, h1, k1⟩
  rw [← HM.out, List.drop_left] at h1
  have H1 := Lib.hid h1
  have K1 := Lib.hid k1
  have he := h1.e
  have f0 := h1.f0
  obtain ⟨off, c, h2, h3, h4⟩ := h1.s
  obtain ⟨n, hn⟩ : ∃ n, n = (s ++ r).length := ⟨_, rfl⟩
  rw [← hn] at h2 h3
  have i1 : ¬ (n : Int) < m := by rw [hn]; simp; have := HM.out; omega
  have i2 : (m : Int) ≤ n := by omega
  have i3 : (n : Int) ≤ c := by omega
  have i4 : (m : Int) ≤ c := by omega
  have HN := Lib.hid hn
  have H4 := Lib.hid h4
  clear h1 k1 hn h4
  go_wp2
  · have hck : c = m := by assumption
    go_ret
    obtain ⟨d1, d2⟩ := H1.out.drop H4.out (by rw [← HN.out]; exact h3) m (n - m) 0 off (by rw [HN.out]) (by omega) (.inr hck)
    rw [show (s ++ r).drop m = r by rw [HM.out, List.drop_left]] at d1
    refine ⟨_, _, rfl, by omega, fun j u hj => ?_, d1, K1.out.trans d2 (fun _ _ _ => id)⟩
    rw [d2.cell _ _ (World.block_lt_of_cell? _ _ (H4.out j u ?_)) (fun e => H1.out.ne e)]
    all_goals try (refine H4.out j u ?_)
    all_goals (rw [List.getElem?_append_left (by rcases Nat.lt_or_ge j s.length with h | h; exact h; rw [List.getElem?_eq_none h] at hj; cases hj)]; exact hj)
  · go_ret
    obtain ⟨d1, d2⟩ := H1.out.drop H4.out (by rw [← HN.out]; exact h3) m (n - m) (c - m) (off + m) (by rw [HN.out]) rfl (.inl rfl)
    rw [show (s ++ r).drop m = r by rw [HM.out, List.drop_left]] at d1
    refine ⟨_, _, rfl, by omega, fun j u hj => ?_, d1, K1.out.trans d2 (fun _ _ _ => id)⟩
    rw [d2.cell _ _ (World.block_lt_of_cell? _ _ (H4.out j u ?_)) (fun e => H1.out.ne e)]
    all_goals try (refine H4.out j u ?_)
    all_goals (rw [List.getElem?_append_left (by rcases Nat.lt_or_ge j s.length with h | h; exact h; rw [List.getElem?_eq_none h] at hj; cases hj)]; exact hj)

end Go.Proofs.YtfipfoplmopkaaaGreatDoor

namespace Go.Proofs.YtfipfoplmopkaaaGreatDoor
open Go.RowKit

theorem ahead_len (v : Value) (w : World) : (nilAhead 482 208 v "Len").run Tryz.prog w = .ok (some false) w := by kernel_rfl
theorem method_len (v : Value) (w : World) : (method 482 208 v "Len").run Tryz.prog w = .ok (283, v) w := by kernel_rfl
theorem ahead_range (v : Value) (w : World) : (nilAhead 482 208 v "Range").run Tryz.prog w = .ok (some false) w := by kernel_rfl
theorem method_range (v : Value) (w : World) : (method 482 208 v "Range").run Tryz.prog w = .ok (284, v) w := by kernel_rfl

theorem rbLen_any (ao : Option Addr) (n c : Nat) (w : World) : Calls Tryz.prog 283 #[.slice ao n c] w fun e w' => e = .returned (.int .i64 n) ∧ w = w' := by
  go_enter Tryz.func283, Tryz.ntmps283
  go_wp2
  go_ret
  exact ⟨rfl, rfl⟩

/-- The polynomial of the sums. -/
def cast : Int := 2197175160

theorem castTab_any (w : World) : Calls Tryz.prog 130 #[] w fun e w' => e = .returned (.pointer (some ⟨w.heap.size, 0, none⟩)) ∧ w' = w.alloc (.cells #[.int .u32 cast] 288) := by
  go_enter Tryz.func130, Tryz.ntmps130
  go_wp2_with go_in
  go_ret
  exact ⟨rfl, rfl⟩

/-- zzcrc.Checksum. -/
theorem checksum_any (tb : Nat) (poly : Int) (ao : Option Addr) (n cap : Nat) (l : List UInt8) (w : World) (hl : l.length = n) (hn : n < 1000000000000) (hp : w.cell? ⟨tb, 0, none⟩ = some (.int .u32 poly))
    (hc : ∀ j u, l[j]? = some u → ∃ ad, ao = some ad ∧ w.cell? (ad.add j) = some (bV u)) :
    Calls Tryz.prog 128 #[.slice ao n cap, .pointer (some ⟨tb, 0, none⟩)] w fun e w' => e = .returned (.int .u32 (crcF poly 0 l)) ∧ w = w' := by
  have HC := Lib.hid hc
  have HL := Lib.hid hl
  clear hc hl
  go_enter Tryz.func128, Tryz.ntmps128
  go_wp2_with fail
  refine (update_any tb poly 0 ao n cap l w HL.out hn hp HC.out).mono ?_
  rintro e w1 ⟨rfl, rfl⟩
  go_wp2
  go_ret
  exact ⟨rfl, rfl⟩

/-- Decbuf.Crc32. -/
theorem dbCrc_any (db b tb : Nat) (poly : Int) (l : List UInt8) (w : World) (h : DB w db b l) (hn : l.length < 1000000000000) (hp : w.cell? ⟨tb, 0, none⟩ = some (.int .u32 poly)) :
    Calls Tryz.prog 181 #[.pointer (some ⟨db, 0, none⟩), .pointer (some ⟨tb, 0, none⟩)] w fun e w' => e = .returned (.int .u32 (crcF poly 0 l)) ∧ w = w' := by
  obtain ⟨off, c, h1, h2, h3⟩ := h.s
  obtain ⟨n, hn'⟩ : ∃ n, n = l.length := ⟨_, rfl⟩
  rw [← hn'] at h1 h2 hn
  have HN := Lib.hid hn'
  have H3 := Lib.hid h3
  clear h h3 hn'
  go_enter Tryz.func181, Tryz.ntmps181
  go_wp2_with fail
  refine (checksum_any tb poly (some ⟨b, off, none⟩) n c l w HN.out.symm hn hp (fun j u hj => ⟨_, rfl, by rw [Addr.add_lit]; exact H3.out j u hj⟩)).mono ?_
  rintro e w1 ⟨rfl, rfl⟩
  go_wp2
  go_ret
  exact ⟨rfl, rfl⟩

set_option maxRecDepth 100000 in
/-- encoding.NewDecbufRaw, of bytes that have a beginning of that length. -/
theorem newRaw_any (b off n c k : Nat) (w : World) (hkn : k ≤ n) (hnc : n ≤ c) :
    Calls Tryz.prog 133 #[.iface 208 (.slice (some ⟨b, off, none⟩) n c), .int .i64 k] w fun e w' => (∃ c', e = .returned (.agg #[.slice (some ⟨b, off, none⟩) k c', .nilIface]) ∧ k ≤ c') ∧ Kept (fun _ _ => False) w w' := by
  have m1 := ahead_len
  have m2 := method_len
  have m3 := ahead_range
  have m4 := method_range
  have i1 : ¬ (n : Int) < k := by omega
  have i2 : (k : Int) ≤ n := by omega
  have i3 : (k : Int) ≤ c := by omega
  go_enter Tryz.func133, Tryz.ntmps133
  go_wp2
  refine bodyPost_ret (v := .agg #[.slice (some ⟨b, off, none⟩) k c, .nilIface]) ?_ rfl ⟨⟨_, rfl, by omega⟩, Kept.alloc _ _ _⟩
  have hres : Tryz.f133.results = #[.cell 4 154] := by kernel_rfl
  simp only [results, hres]
  go_simp

theorem Kept.below {w w' : World} (h : Below w.heap.size w w') : Kept (fun _ _ => False) w w' :=
  ⟨h.os, h.tape, h.output, h.size, fun k o hk _ => World.cell?_of_block (a := ⟨k, o, none⟩) (h.block k hk), fun k o hk => World.frozen?_of_block (a := ⟨k, o, none⟩) (h.block k hk), fun k hk _ => h.block k hk⟩

theorem be32_nat (x : Nat) (hx : x < 4294967296) : Lib.beNat (be32 x) = x := by
  simp [Lib.beNat, Lib.beFrom, be32]
  omega

/-- binary.BigEndian.Uint32. -/
theorem getU32_any (b off n c x : Nat) (w : World) (hx : x < 4294967296) (hn : 4 ≤ n) (hc : ∀ j u, (be32 x)[j]? = some u → w.cell? ⟨b, off + j, none⟩ = some (bV u)) :
    Calls Tryz.prog 180 #[.agg #[], .slice (some ⟨b, off, none⟩) n c] w fun e w' => e = .returned (.int .u32 x) ∧ Kept (fun _ _ => False) w w' := by
  have c0 := hc 0 _ rfl
  have c1 := hc 1 _ rfl
  have c2 := hc 2 _ rfl
  have c3 := hc 3 _ rfl
  refine (Tryz.binary_BE_Uint32 b off n c _ _ _ _ w hn c0 c1 c2 c3).mono ?_
  rintro e w' ⟨rfl, h⟩
  refine ⟨?_, Kept.below h⟩
  have := be32_nat x hx
  unfold be32 at this
  rw [this]

end Go.Proofs.YtfipfoplmopkaaaGreatDoor

namespace Go.Proofs.YtfipfoplmopkaaaGreatDoor
open Go.RowKit

theorem rd_kept {P : Nat → Nat → Prop} {w w' : World} {b o : Nat} {l : List UInt8} (hk : Kept P w w') (hP : b < w.heap.size → ∀ o, ¬ P b o) (h : ∀ j u, l[j]? = some u → w.cell? ⟨b, o + j, none⟩ = some (bV u)) : ∀ j u, l[j]? = some u → w'.cell? ⟨b, o + j, none⟩ = some (bV u) := fun j u hj => by
  have h' := h j u hj
  have hb := World.block_lt_of_cell? _ _ h'
  exact (hk.cell _ _ hb (hP hb _)).trans h'

set_option maxRecDepth 100000 in
set_option maxHeartbeats 1000000 in
theorem newAt_any (b n c p m tb : Nat) (body : List UInt8) (w : World) (hm : m = body.length) (hn : p + 4 + m + 4 = n) (hnc : n ≤ c) (hn' : n < 100000000)
    (h1 : ∀ j u, (be32 m)[j]? = some u → w.cell? ⟨b, p + j, none⟩ = some (bV u)) (h2 : ∀ j u, body[j]? = some u → w.cell? ⟨b, p + 4 + j, none⟩ = some (bV u))
    (h3 : ∀ j u, (be32 (crcF cast 0 body).toNat)[j]? = some u → w.cell? ⟨b, p + 4 + m + j, none⟩ = some (bV u)) (htb : w.cell? ⟨tb, 0, none⟩ = some (.int .u32 cast)) :
    Calls Tryz.prog 161 #[.iface 208 (.slice (some ⟨b, 0, none⟩) n c), .int .i64 p, .pointer (some ⟨tb, 0, none⟩)] w fun e w' => (∃ c', e = .returned (.agg #[.slice (some ⟨b, p + 4, none⟩) m c', .nilIface]) ∧ m ≤ c') ∧ Kept (fun _ _ => False) w w' := by
  have m1 := ahead_len
  have m2 := method_len
  have m3 := ahead_range
  have m4 := method_range
  have H1 := Lib.hid h1
  have H2 := Lib.hid h2
  have H3 := Lib.hid h3
  have HM := Lib.hid hm
  have HT := Lib.hid htb
  clear h1 h2 h3 hm htb
  have i1 : ¬ (n : Int) < (p : Int) + 4 := by omega
  have i2 : (p : Int) + 4 ≤ n := by omega
  have i3 : (p : Int) + 4 ≤ c := by omega
  have i4 : (p : Int) ≤ (p : Int) + 4 := by omega
  go_enter Tryz.func161, Tryz.ntmps161
  go_wp2_with (first | (go_at_call 283; go_in) | (go_at_call 284; go_in))
  have K1 : Kept (fun _ _ => False) w (w.alloc (.cells #[.slice none 0 0, .nilIface] 154)) := Kept.alloc _ _ _
  refine (getU32_any b p 4 (c - p) m _ (by omega) (by omega) (rd_kept K1 (fun _ _ => id) H1.out)).mono ?_
  rintro e w2 ⟨rfl, k2⟩
  have hlt : w.heap.size < w2.heap.size := by have := k2.size; simp at this; omega
  have r0 : w2.cell? ⟨w.heap.size, 0, none⟩ = some (.slice none 0 0) := (k2.cell _ _ (by simp) id).trans (World.cell?_alloc_new _ _ _ _)
  have r1 : w2.cell? ⟨w.heap.size, 1, none⟩ = some .nilIface := (k2.cell _ _ (by simp) id).trans (World.cell?_alloc_new _ _ _ _)
  have f0 : w2.frozen? ⟨w.heap.size, 0, none⟩ = false := (k2.fr _ _ (by simp)).trans (by simp)
  have f1 : w2.frozen? ⟨w.heap.size, 1, none⟩ = false := (k2.fr _ _ (by simp)).trans (by simp)
  have K2 := Lib.hid (K1.trans k2 (fun _ _ _ => id))
  clear k2 K1
  obtain ⟨rb, hrb⟩ : ∃ rb, rb = w.heap.size := ⟨_, rfl⟩
  rw [← hrb] at hlt r0 r1 f0 f1 ⊢
  have HRB := Lib.hid hrb
  clear hrb
  have i5 : ¬ (n : Int) < (p : Int) + 4 + m + 4 := by omega
  have i6 : (p : Int) + 4 + m + 4 ≤ n := by omega
  have i7 : (p : Int) + 4 + m + 4 ≤ c := by omega
  have i8 : (p : Int) + 4 ≤ (p : Int) + 4 + m + 4 := by omega
  go_wp2_with (first | (go_at_call 283; go_in) | (go_at_call 284; go_in))
  rw [show n - (p + 4) - 4 = m by omega]
  simp only [show p + 4 + m + 4 - (p + 4) = m + 4 by omega]
  have hdb : ∃ db, db = w2.heap.size := ⟨_, rfl⟩
  obtain ⟨db, hdb⟩ := hdb
  obtain ⟨c2, hc2⟩ : ∃ c2, c2 = c - (p + 4) := ⟨_, rfl⟩
  obtain ⟨w3, hw3⟩ : ∃ w3, w3 = w2.alloc (Obj.cells #[Value.slice (some ⟨b, p + 4, none⟩) m c2, Value.nilIface] 154) := ⟨_, rfl⟩
  rw [← hc2, ← hdb, ← hw3]
  have k3 : Kept (fun _ _ => False) w2 w3 := by rw [hw3]; exact Kept.alloc _ _ _
  have d0 : w3.cell? ⟨db, 0, none⟩ = some (.slice (some ⟨b, p + 4, none⟩) m c2) := by rw [hw3, hdb, World.cell?_alloc_new]; rfl
  have d1 : w3.cell? ⟨db, 1, none⟩ = some .nilIface := by rw [hw3, hdb, World.cell?_alloc_new]; rfl
  have d2 : w3.frozen? ⟨db, 0, none⟩ = false := by rw [hw3, hdb]; simp
  have hbb : b < w.heap.size := World.block_lt_of_cell? _ _ (H1.out 0 _ rfl)
  have hne : b ≠ db := by have := K2.out.size; omega
  have D := Lib.hid (⟨⟨p + 4, c2, by rw [← HM.out]; exact d0, by rw [← HM.out]; omega, rd_kept (K2.out.trans k3 (fun _ _ _ => id)) (fun _ _ => id) H2.out⟩, d1, d2, hne⟩ : DB w3 db b body)
  have hr3 : rb < w3.heap.size := Nat.lt_of_lt_of_le hlt k3.size
  have r0' := (k3.cell rb 0 hlt id).trans r0
  have r1' := (k3.cell rb 1 hlt id).trans r1
  have f0' := (k3.fr rb 0 hlt).trans f0
  have f1' := (k3.fr rb 1 hlt).trans f1
  have K3 := Lib.hid (K2.out.trans k3 (fun _ _ _ => id))
  have i9 : (4 : Int) ≤ (m : Int) + 4 := by omega
  have i10 : (m : Int) + 4 ≤ c2 := by omega
  have i11 : (m : Int) ≤ c2 := by omega
  have i12 : ¬ c2 = m := by omega
  have i13 : IntKind.i64.wrap (m : Int) = m := IntWalk.i64_in _ (by omega)
  have i14 : (0 : Int) ≤ m := by omega
  have i15 : (m : Int) ≤ (m : Int) + 4 := by omega
  have HC2 := Lib.hid hc2
  clear r0 r1 f0 f1 hw3 k3 hdb hc2
  obtain ⟨q, hq⟩ : ∃ q, q = (crcF cast 0 body).toNat := ⟨_, rfl⟩
  have hcr := crcF_in cast 0 body
  have C3 := Lib.hid (rd_kept ((K3.out.trans (Kept.drew (fun _ _ => False) w3) (fun _ _ _ => id))) (fun _ _ => id) H3.out)
  rw [← hq] at C3
  have hq32 : q < 4294967296 := by omega
  have HQ := Lib.hid (show crcF cast 0 body = (q : Int) by omega)
  clear hq hcr
  go_region_with (go_at_call 180; refine (getU32_any b (p + 4 + m) _ _ q w3.drew hq32 (by omega) C3.out).mono ?_; rintro e w4 ⟨rfl, k4⟩)
  have k4' : Kept (fun _ _ => False) w3 w4 := (Kept.drew (fun _ _ => False) w3).trans k4 (fun _ _ _ => id)
  have hlt3 : db < w3.heap.size := World.block_lt_of_cell? _ _ d0
  have D4 := Lib.hid (D.out.kept k4' (fun _ => id) (fun _ _ => id))
  have d0' := (k4'.cell db 0 hlt3 id).trans d0
  have d1' := (k4'.cell db 1 hlt3 id).trans d1
  have r0 := (k4'.cell rb 0 hr3 id).trans r0'
  have r1 := (k4'.cell rb 1 hr3 id).trans r1'
  have f0 := (k4'.fr rb 0 hr3).trans f0'
  have f1 := (k4'.fr rb 1 hr3).trans f1'
  have K4 := Lib.hid (K3.out.trans k4' (fun _ _ _ => id))
  have HT4 := Lib.hid ((K4.out.cell tb 0 (World.block_lt_of_cell? _ _ HT.out) id).trans HT.out)
  have hrs : w.heap.size ≤ rb := by have := HRB.out; omega
  clear k4 k4' d0 d1 d2 r0' r1' f0' f1' C3
  have hml : body.length < 1000000000000 := by have := HM.out; omega
  have HML := Lib.hid hml
  clear hml
  go_wp2_with fail
  refine (dbCrc_any db b tb cast body w4 D4.out HML.out HT4.out).mono ?_
  rintro e w5 ⟨rfl, rfl⟩
  rw [HQ.out]
  go_wp2
  refine bodyPost_ret (v := .agg #[.slice (some ⟨b, p + 4, none⟩) m c2, .nilIface]) ?_ rfl ⟨⟨_, rfl, by omega⟩, ?_⟩
  · have hres : Tryz.f161.results = #[.cell 6 154] := by kernel_rfl
    simp only [results, hres]
    go_simp
  · refine K4.out.trans (Q := fun k _ => k = rb) ?_ (fun i o hi hp => by omega)
    exact (Kept.setCell (P := fun k _ => k = rb) w4 rb 0 _ rfl).trans (Kept.setCell (P := fun k _ => k = rb) _ rb 1 _ rfl) (fun _ _ _ => id)

end Go.Proofs.YtfipfoplmopkaaaGreatDoor
