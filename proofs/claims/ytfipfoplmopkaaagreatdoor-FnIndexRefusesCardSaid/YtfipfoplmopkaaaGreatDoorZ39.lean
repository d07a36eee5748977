/- AddSeries(23). Conditions: the labels in order and short; the chunks in order; bounds. -/
import Derived.Test.YtfipfoplmopkaaaGreatDoorZ38
import Derived.Deep.LoopGhost
import Derived.Deep.Light

namespace Go.Proofs.YtfipfoplmopkaaaGreatDoor
open Go.RowKit Go.Maps

/-- A chunk: its reference, its times. -/
structure Ck where
  r : Nat
  a : Int
  z : Int

/-- A row of chunks in memory. -/
def RowC (w : World) (b o : Nat) (cs : List Ck) : Prop :=
  ∀ i (h : i < cs.length), w.cell? ⟨b, o + i * 4, none⟩ = some (.int .u64 ((cs[i]'h).r : Int)) ∧ w.cell? ⟨b, o + i * 4 + 1, none⟩ = some .nilIface ∧ w.cell? ⟨b, o + i * 4 + 2, none⟩ = some (.int .i64 (cs[i]'h).a) ∧ w.cell? ⟨b, o + i * 4 + 3, none⟩ = some (.int .i64 (cs[i]'h).z)
theorem RowC.kept {w w' : World} {b o : Nat} {cs : List Ck} (h : RowC w b o cs) {P : Nat → Nat → Prop} (hk : Kept P w w') (hP : ∀ j, ¬ P b j) (hb : b < w.heap.size) : RowC w' b o cs :=
  fun i hi => ⟨(hk.cell b _ hb (hP _)).trans (h i hi).1, (hk.cell b _ hb (hP _)).trans (h i hi).2.1, (hk.cell b _ hb (hP _)).trans (h i hi).2.2.1, (hk.cell b _ hb (hP _)).trans (h i hi).2.2.2⟩

/-- The chunks are in order, behind the reference c0. -/
structure CkO (c0 : Nat) (cs : List Ck) : Prop where
  n : cs.length ≤ 10
  r0 : ∀ i (h : i < cs.length), c0 ≤ (cs[i]'h).r
  r : ∀ i (h : i + 1 < cs.length), (cs[i]'(by omega)).r ≤ (cs[i + 1]'h).r
  r9 : ∀ i (h : i < cs.length), (cs[i]'h).r < 18446744073709551616
  t : ∀ i (h : i < cs.length), (cs[i]'h).a ≤ (cs[i]'h).z ∧ -1152921504606846976 ≤ (cs[i]'h).a ∧ (cs[i]'h).z ≤ 1152921504606846976
  g : ∀ i (h : i + 1 < cs.length), (cs[i]'(by omega)).z < (cs[i + 1]'h).a

/-- The last reference. -/
def lastR (c0 : Nat) (cs : List Ck) : Nat := (cs.getLast?.map (·.r)).getD c0

theorem lastR_snoc (c0 : Nat) (cs : List Ck) (x : Ck) : lastR c0 (cs ++ [x]) = x.r := by simp [lastR]
/-- The checks of the chunks, as far as i. -/
structure CkI (c0 : Nat) (cs : List Ck) (i r : Nat) (z : Int) : Prop where
  e : r = lastR c0 (cs.take i)
  h : ∀ (h : i < cs.length), r ≤ (cs[i]'h).r ∧ (0 < i → z < (cs[i]'h).a)
theorem CkI.zero {c0 : Nat} {cs : List Ck} (h : CkO c0 cs) : CkI c0 cs 0 c0 0 := ⟨rfl, fun hi => ⟨h.r0 0 hi, fun h => by omega⟩⟩
theorem CkI.step {c0 : Nat} {cs : List Ck} (h : CkO c0 cs) {i : Nat} (hi : i < cs.length) : CkI c0 cs (i + 1) (cs[i]'hi).r (cs[i]'hi).z :=
  ⟨by rw [List.take_succ_eq_append_getElem hi, lastR_snoc], fun h2 => ⟨h.r i h2, fun _ => h.g i h2⟩⟩

/-- What AddSeries wants of the Writer, behind ensureStage(2). -/
structure AQ (w : World) (G : Gh) (V : Vw) (D0 : ByteArray) (fs0 : List (List UInt8)) (r0 c0 nS m : Nat) : Prop where
  hG : WI w G
  hV : G.v = V
  zm : V.zm = false
  h41 : V.cs 41 = .string D0
  ld0 : LD D0 fs0
  h42 : V.cs 42 = .int .u64 (r0 : Int)
  h43 : V.cs 43 = .int .u64 (c0 : Int)
  lf : V.lf.length < 7000000
  nS9 : nS ≤ 4294967296
  sn : SN V.S nS
  m9 : m < 1000
  ln : LN V.L V.S m
  nl : V.nl < 10000

/-- What AddSeries leaves where the series is taken. -/
def AddK (w : World) (G : Gh) (V : Vw) (D : ByteArray) (ls : List Lab) (rf lc nS m : Nat) (w' : World) : Prop :=
  ∃ G' s g l1 l2 L', Reach w G w' G' ∧ G'.v = { V with l1 := l1, l2 := l2, gf := g, lf := V.lf ++ (zeros (padN V.lf.length 16) ++ Se.d s), nl := V.nl + ls.length, L := L', cs := upd (upd (upd V.cs 41 (.string D)) 42 (.int .u64 (rf : Int))) 43 (.int .u64 (lc : Int)) } ∧
    s.ps.length = ls.length ∧ (∀ p ∈ s.ps, p.1 < nS ∧ p.2 < nS) ∧ LN L' V.S (m + 1) ∧ s.tl.length ≤ 600 ∧ s.sm.length = 4
/-- The three ways. -/
def AddO (w : World) (G : Gh) (V : Vw) (D : ByteArray) (ls : List Lab) (fs0 : List (List UInt8)) (rf lc nS m : Nat) (e : Ending) (w' : World) : Prop :=
  (cmpF (fsL ls) fs0 ≤ 0 ∧ (∃ t v, e = .returned (.iface t v)) ∧ ∃ G', Reach w G w' G') ∨
  (0 < cmpF (fsL ls) fs0 ∧ ¬ AllS V.S ls ∧ (∃ t v, e = .returned (.iface t v)) ∧ ∃ G', Reach w G w' G') ∨
  (0 < cmpF (fsL ls) fs0 ∧ AllS V.S ls ∧ e = .returned .nilIface ∧ AddK w G V D ls rf lc nS m w')

/-- The function's own boxes, and the chunks. -/
structure SB (G0 : Gh) (bx dx : Nat) (D : ByteArray) (b o n : Nat) (cs : List Ck) (wr : World) (Gr : Gh) : Prop where
  cb : wr.cell? ⟨bx, 0, none⟩ = some (.pointer (some ⟨G0.wb, 0, none⟩))
  tb : Gr.T bx = 0
  cd : wr.cell? ⟨dx, 0, none⟩ = some (.string D)
  td : Gr.T dx = 0
  row : 0 < n → RowC wr b o cs ∧ b < wr.heap.size ∧ Gr.T b = 0
theorem wrap_i64_in (x : Int) : -9223372036854775808 ≤ IntKind.i64.wrap x ∧ IntKind.i64.wrap x ≤ 9223372036854775807 := by rw [IntKind.wrap_i64]; omega
theorem zz_len {x : Int} (h0 : -9223372036854775808 ≤ x) (h1 : x ≤ 9223372036854775807) : (Lib.uvarint (Lib.zigzag x)).length ≤ 10 := Lib.uvarint_length64 (Lib.zigzag_lt h0 h1)

section
variable {G0 : Gh} {bx dx : Nat} {D : ByteArray} {b o n : Nat} {cs : List Ck} {wr w' : World} {Gr G' : Gh}
theorem SB.go (h : SB G0 bx dx D b o n cs wr Gr) (r : Reach wr Gr w' G') : SB G0 bx dx D b o n cs w' G' :=
  ⟨(KT.cell r.kp (World.block_lt_of_cell? _ _ h.cb) h.tb 0).trans h.cb, (r.nx.T _ (World.block_lt_of_cell? _ _ h.cb)).trans h.tb,
   (KT.cell r.kp (World.block_lt_of_cell? _ _ h.cd) h.td 0).trans h.cd, (r.nx.T _ (World.block_lt_of_cell? _ _ h.cd)).trans h.td,
   fun h0 => by
    obtain ⟨h1, h2, h3⟩ := h.row h0
    exact ⟨h1.kept r.kp (fun _ hP => hP h3) h2, Nat.lt_of_lt_of_le h2 r.kp.size, (r.nx.T _ h2).trans h3⟩⟩
theorem SB.kept (h : SB G0 bx dx D b o n cs wr Gr) (k : Kept (fun _ _ => False) wr w') : SB G0 bx dx D b o n cs w' Gr :=
  ⟨(k.cell _ _ (World.block_lt_of_cell? _ _ h.cb) id).trans h.cb, h.tb, (k.cell _ _ (World.block_lt_of_cell? _ _ h.cd) id).trans h.cd, h.td,
   fun h0 => by
    obtain ⟨h1, h2, h3⟩ := h.row h0
    exact ⟨h1.kept k (fun _ => id) h2, Nat.lt_of_lt_of_le h2 k.size, h3⟩⟩
end
theorem Reach.keptF {w w1 w2 : World} {G G1 : Gh} (h : Reach w G w1 G1) (k : Kept (fun _ _ => False) w1 w2) : Reach w G w2 G1 :=
  h.trans ⟨h.wi.kept k (fun _ _ _ => False.elim), Nx.refl _ _, k.mono (fun _ _ _ => False.elim), Hp.none _ k⟩

/-- While the chunks are written: what has been written of them is at most B bytes. -/
def CBn (w0 : World) (G0 : Gh) (w3 : World) (G3 : Gh) (bx dx : Nat) (D : ByteArray) (b o n : Nat) (cs : List Ck) (VX : Vw) (B : Nat) (wr : World) : Prop :=
  ∃ Gr tl, Reach w0 G0 wr Gr ∧ Gr.v = { VX with l2 := VX.l2 ++ tl } ∧ Reach w3 G3 wr Gr ∧ SB G0 bx dx D b o n cs wr Gr ∧ tl.length ≤ B
/-- .. and a chunk lies in its box. -/
def CBx (w0 : World) (G0 : Gh) (w3 : World) (G3 : Gh) (bx dx : Nat) (D : ByteArray) (b o n : Nat) (cs : List Ck) (VX : Vw) (gx : Nat) (c : Ck) (B : Nat) (wr : World) : Prop :=
  ∃ Gr tl, Reach w0 G0 wr Gr ∧ Gr.v = { VX with l2 := VX.l2 ++ tl } ∧ Reach w3 G3 wr Gr ∧ SB G0 bx dx D b o n cs wr Gr ∧ tl.length ≤ B ∧
    Gr.T gx = 0 ∧ wr.cell? ⟨gx, 0, none⟩ = some (.int .u64 (c.r : Int)) ∧ wr.cell? ⟨gx, 2, none⟩ = some (.int .i64 c.a) ∧ wr.cell? ⟨gx, 3, none⟩ = some (.int .i64 c.z)
section
variable {w0 w3 wr : World} {G0 G3 : Gh} {bx dx : Nat} {D : ByteArray} {b o n : Nat} {cs : List Ck} {VX : Vw} {gx : Nat} {c : Ck} {B : Nat}
theorem CBn.new (h : CBn w0 G0 w3 G3 bx dx D b o n cs VX B wr) (c : Ck) (x : Value) : CBx w0 G0 w3 G3 bx dx D b o n cs VX wr.heap.size c B (wr.alloc (.cells #[.int .u64 (c.r : Int), x, .int .i64 c.a, .int .i64 c.z] 69)) := by
  obtain ⟨Gr, tl, r, v, s, sb, hl⟩ := h
  obtain ⟨G', r', v', t', hT⟩ := (Reach.refl r.wi).newv rfl (.cells #[.int .u64 (c.r : Int), x, .int .i64 c.a, .int .i64 c.z] 69)
  exact ⟨G', tl, r.trans r', v'.trans v, s.trans r', sb.go r', hl, t', by rw [World.cell?_alloc_new]; rfl, by rw [World.cell?_alloc_new]; rfl, by rw [World.cell?_alloc_new]; rfl⟩
theorem CBx.toN (h : CBx w0 G0 w3 G3 bx dx D b o n cs VX gx c B wr) : CBn w0 G0 w3 G3 bx dx D b o n cs VX B wr := by
  obtain ⟨Gr, tl, r, v, s, sb, hl, _⟩ := h
  exact ⟨Gr, tl, r, v, s, sb, hl⟩
theorem CBn.row (h : CBn w0 G0 w3 G3 bx dx D b o n cs VX B wr) (hn : 0 < n) : RowC wr b o cs := by
  obtain ⟨Gr, tl, r, v, s, sb, _⟩ := h; exact (sb.row hn).1
theorem CBn.cb (h : CBn w0 G0 w3 G3 bx dx D b o n cs VX B wr) : wr.cell? ⟨bx, 0, none⟩ = some (.pointer (some ⟨G0.wb, 0, none⟩)) := by
  obtain ⟨Gr, tl, r, v, s, sb, _⟩ := h; exact sb.cb
theorem CBn.mono {B' : Nat} (h : CBn w0 G0 w3 G3 bx dx D b o n cs VX B wr) (hB : B ≤ B') : CBn w0 G0 w3 G3 bx dx D b o n cs VX B' wr := by
  obtain ⟨Gr, tl, r, v, s, sb, hl⟩ := h
  exact ⟨Gr, tl, r, v, s, sb, Nat.le_trans hl hB⟩
theorem CBx.cb (h : CBx w0 G0 w3 G3 bx dx D b o n cs VX gx c B wr) : wr.cell? ⟨bx, 0, none⟩ = some (.pointer (some ⟨G0.wb, 0, none⟩)) := by
  obtain ⟨Gr, tl, r, v, s, sb, _⟩ := h; exact sb.cb
theorem CBx.c0 (h : CBx w0 G0 w3 G3 bx dx D b o n cs VX gx c B wr) : wr.cell? ⟨gx, 0, none⟩ = some (.int .u64 (c.r : Int)) := by
  obtain ⟨Gr, tl, r, v, s, sb, _, _, h, _⟩ := h; exact h
theorem CBx.c2 (h : CBx w0 G0 w3 G3 bx dx D b o n cs VX gx c B wr) : wr.cell? ⟨gx, 2, none⟩ = some (.int .i64 c.a) := by
  obtain ⟨Gr, tl, r, v, s, sb, _, _, _, h, _⟩ := h; exact h
theorem CBx.c3 (h : CBx w0 G0 w3 G3 bx dx D b o n cs VX gx c B wr) : wr.cell? ⟨gx, 3, none⟩ = some (.int .i64 c.z) := by
  obtain ⟨Gr, tl, r, v, s, sb, _, _, _, _, h⟩ := h; exact h
theorem CBx.drew (h : CBx w0 G0 w3 G3 bx dx D b o n cs VX gx c B wr) : CBx w0 G0 w3 G3 bx dx D b o n cs VX gx c B wr.drew := by
  obtain ⟨Gr, tl, r, v, s, sb, hl, t, h0, h2, h3⟩ := h
  exact ⟨Gr, tl, r.drew, v, s.drew, sb.kept (Kept.drew _ _), hl, t, h0, h2, h3⟩
theorem CBx.put {w' : World} {e : Ending} {k : List UInt8} (hk : k.length ≤ 10) {Gr : Gh} {tl : List UInt8} (hl : tl.length ≤ B) (t : Gr.T gx = 0) (h0 : wr.cell? ⟨gx, 0, none⟩ = some (.int .u64 (c.r : Int))) (h2 : wr.cell? ⟨gx, 2, none⟩ = some (.int .i64 c.a)) (h3 : wr.cell? ⟨gx, 3, none⟩ = some (.int .i64 c.z)) (s : Reach w3 G3 wr Gr) (sb : SB G0 bx dx D b o n cs wr Gr)
    (q : Stq w0 G0 wr Gr { { VX with l2 := VX.l2 ++ tl } with l2 := ({ VX with l2 := VX.l2 ++ tl } : Vw).l2 ++ k } e w') : e = .returned (.tuple #[]) ∧ CBx w0 G0 w3 G3 bx dx D b o n cs VX gx c (B + 10) w' := by
  obtain ⟨he, G', r', v', s'⟩ := q
  have hg := World.block_lt_of_cell? _ _ h0
  exact ⟨he, G', tl ++ k, r', by rw [v']; simp [List.append_assoc], s.trans s', sb.go s', by rw [List.length_append]; omega, (s'.nx.T _ hg).trans t, (KT.cell s'.kp hg t 0).trans h0, (KT.cell s'.kp hg t 2).trans h2, (KT.cell s'.kp hg t 3).trans h3⟩
theorem CBx.v64 (h : CBx w0 G0 w3 G3 bx dx D b o n cs VX gx c B wr) (hB : VX.l2.length + B < 1000000) (x : Int) (h0 : -9223372036854775808 ≤ x) (h1 : x ≤ 9223372036854775807) :
    Calls Tryz.prog 45 #[.pointer (some ⟨G0.wb, 23, none⟩), .int .i64 x] wr (fun e w' => e = .returned (.tuple #[]) ∧ CBx w0 G0 w3 G3 bx dx D b o n cs VX gx c (B + 10) w') := by
  obtain ⟨Gr, tl, r, v, s, sb, hl, t, c0, c2, c3⟩ := h
  exact (r.v64_2s v x (by simp only [List.length_append]; omega) h0 h1).mono fun e w' q => CBx.put (zz_len h0 h1) hl t c0 c2 c3 s sb q
theorem CBx.u64 (h : CBx w0 G0 w3 G3 bx dx D b o n cs VX gx c B wr) (hB : VX.l2.length + B < 1000000) (x : Nat) (h1 : x < 18446744073709551616) :
    Calls Tryz.prog 44 #[.pointer (some ⟨G0.wb, 23, none⟩), .int .u64 x] wr (fun e w' => e = .returned (.tuple #[]) ∧ CBx w0 G0 w3 G3 bx dx D b o n cs VX gx c (B + 10) w') := by
  obtain ⟨Gr, tl, r, v, s, sb, hl, t, c0, c2, c3⟩ := h
  exact (r.u64_2s v x (by simp only [List.length_append]; omega) h1).mono fun e w' q => CBx.put (Lib.uvarint_length64 h1) hl t c0 c2 c3 s sb q
end

set_option maxRecDepth 100000 in
set_option maxHeartbeats 8000000 in
theorem addS_any (w0 : World) (G0 : Gh) (V0 : Vw) (hG0 : WI w0 G0) (hV0 : G0.v = V0) (D : ByteArray) (ls : List Lab) (hD : LD D (fsL ls)) (hl : LOK ls) (ha : AscL ls) (rf : Nat) (b o cc n : Nat) (cs : List Ck) (ao : Option Addr) (hn : n = cs.length) (hv3 : 0 < n → ao = some ⟨b, o, none⟩ ∧ n ≤ cc ∧ RowC w0 b o cs ∧ b < w0.heap.size ∧ G0.T b = 0)
    (D0 : ByteArray) (fs0 : List (List UInt8)) (r0 c0 nS m : Nat) (hr : r0 ≤ rf) (hck : CkO c0 cs)
    (Qx : World → Gh → Vw → Prop) (hQx : ∀ w G V, Qx w G V → AQ w G V D0 fs0 r0 c0 nS m)
    (hcall : ∀ w G, Reach w0 G0 w G → G.v = V0 → Calls Tryz.prog 53 #[.pointer (some ⟨G0.wb, 0, none⟩), .int .u8 2] w (fun e w' => e = .returned .nilIface ∧ ∃ G' V', Reach w G w' G' ∧ Qx w' G' V')) :
    Calls Tryz.prog 23 #[.pointer (some ⟨G0.wb, 0, none⟩), .int .u64 rf, .agg #[.string D], .slice ao n cc] w0 (fun e w' => ∃ w1 G1 V1, Reach w0 G0 w1 G1 ∧ Qx w1 G1 V1 ∧ AddO w1 G1 V1 D ls fs0 rf (lastR c0 cs) nS m e w') := by
  -- the two boxes
  obtain ⟨wb, hwb⟩ : ∃ wb, wb = w0.alloc (.cells #[.pointer (some ⟨G0.wb, 0, none⟩)] 58) := ⟨_, rfl⟩
  obtain ⟨G1, r1, v1, t1, t1'⟩ := (Reach.refl hG0).newv hV0 (.cells #[.pointer (some ⟨G0.wb, 0, none⟩)] 58)
  rw [← hwb] at r1
  obtain ⟨wd, hwd⟩ : ∃ wd, wd = wb.alloc (.cells #[.string D] 73) := ⟨_, rfl⟩
  obtain ⟨G2, r2, v2, t2, t2'⟩ := r1.newv v1 (.cells #[.string D] 73)
  rw [← hwd] at r2
  obtain ⟨bx, hbx⟩ : ∃ bx, bx = w0.heap.size := ⟨_, rfl⟩
  obtain ⟨dx, hdx⟩ : ∃ dx, dx = w0.heap.size + 1 := ⟨_, rfl⟩
  have hsb : wb.heap.size = w0.heap.size + 1 := by rw [hwb, World.size_alloc]
  rw [hsb, ← hdx] at t2
  have tb2 : G2.T bx = 0 := by rw [t2' bx (by omega), hbx]; exact t1
  have cb : wd.cell? ⟨bx, 0, none⟩ = some (.pointer (some ⟨G0.wb, 0, none⟩)) := by rw [hwd, World.cell?_alloc_old _ _ _ (show bx ≠ wb.heap.size by omega), hwb, hbx, World.cell?_alloc_new]; rfl
  have cd : wd.cell? ⟨dx, 0, none⟩ = some (.string D) := by rw [hwd, hdx, ← hsb, World.cell?_alloc_new]; rfl
  have hwd2 : (w0.alloc (.cells #[.pointer (some ⟨G0.wb, 0, none⟩)] 58)).alloc (.cells #[.string D] 73) = wd := by rw [hwd, hwb]
  have hlb : bx < wd.heap.size := World.block_lt_of_cell? _ _ cb
  have hld : dx < wd.heap.size := World.block_lt_of_cell? _ _ cd
  have HWD := Lib.hid hwd2
  have HBX := Lib.hid hbx
  have HDX := Lib.hid hdx
  have R2 := Lib.hid r2
  have HCALL := Lib.hid (hcall wd G2 r2 v2)
  have HV3 := Lib.hid hv3
  have HN := Lib.hid hn
  have HCK := Lib.hid hck
  have HD := Lib.hid hD
  have HL := Lib.hid hl
  have HA := Lib.hid ha
  have HR := Lib.hid hr
  have TB2 := Lib.hid tb2
  have TD2 := Lib.hid t2
  have HG0 := Lib.hid hG0
  clear hwb hwd hwd2 hbx hdx r1 r2 v1 v2 t1 t1' t2 t2' tb2 hsb hcall hv3 hn hck hD hl ha hr hV0 hG0
  go_enter Tryz.func23, Tryz.ntmps23
  go_wp2_with fail
  rw [HWD.out]
  simp only [← HDX.out]
  simp only [← HBX.out]
  refine HCALL.out.mono ?_
  rintro e w3 ⟨rfl, G3, V, r3, hqx⟩
  have hq := hQx _ _ _ hqx
  have HQX := Lib.hid hqx
  have hsb0 : SB G0 bx dx D b o n cs wd G2 := ⟨cb, TB2.out, cd, TD2.out, fun h0 => by
    obtain ⟨_, _, h1, h2, h3⟩ := HV3.out h0
    · have hk : Kept (fun _ _ => False) w0 wd := by rw [← HWD.out]; exact (Kept.alloc _ _ _).trans (Kept.alloc _ _ _) (fun _ _ _ => id)
      exact ⟨h1.kept hk (fun _ => id) h2, Nat.lt_of_lt_of_le h2 hk.size, (R2.out.nx.T _ h2).trans h3⟩⟩
  have SB3 := Lib.hid (hsb0.go r3)
  have R3 := Lib.hid (R2.out.trans r3)
  have Q := Lib.hid hq
  have S0 := Lib.hid (Reach.refl hq.hG)
  have cb := SB3.out.cb
  have cd := SB3.out.cd
  have f41 := R3.out.cv hq.hV 41 hq.h41 (by decide) (by decide)
  have hqv := hq.hV
  have hlb := World.block_lt_of_cell? _ _ cb
  have hld := World.block_lt_of_cell? _ _ cd
  have hlw := World.block_lt_of_cell? _ _ f41
  have CC := Lib.hid (compare_any D D0 (fsL ls) fs0 HD.out hq.ld0 w3.drew)
  clear r3 hq hqx hQx hsb0 HCALL HWD HBX HDX R2 TB2 TD2
  go_wp2_with fail
  go_region_held3 (fun w' => w'.cell? ⟨bx, 0, none⟩ = some (.pointer (some ⟨G0.wb, 0, none⟩)) ∧ w'.cell? ⟨dx, 0, none⟩ = some (.string D) ∧ w'.cell? ⟨G0.wb, 41, none⟩ = some (.string D0)) (first | exact ⟨cb, cd, f41⟩ | exact ⟨y1, y2, y3⟩ | go_keep) (first | (go_at_call 57; (with_reducible refine CC.out.mono ?_); rintro e w4 ⟨rr, rfl, hrr, k4⟩; have y1 := (k4.cell bx 0 hlb id).trans cb; have y2 := (k4.cell dx 0 hld id).trans cd; have y3 := (k4.cell G0.wb 41 hlw id).trans f41; have K4 := Lib.hid k4; have HRR := Lib.hid hrr; clear k4 hrr))
  have R4 := Lib.hid (R3.out.drew.keptF K4.out)
  have S4 := Lib.hid (S0.out.drew.keptF K4.out)
  have SB4 := Lib.hid ((SB3.out.kept (Kept.drew _ _)).kept K4.out)
  have HQ3 := Lib.hid (And.intro R3.out HQX.out)
  clear cb cd f41 y1 y2 y3 hlb hld hlw CC K4 SB3 S0 R3
  by_cases hrr0 : rr ≤ 0
  · have hd : decide (rr ≤ 0) = true := decide_eq_true hrr0
    go_wp2_with fail
    refine (errNew_any _ _).mono ?_
    rintro e w5 ⟨t, v, rfl, k5⟩
    have K5 := Lib.hid k5
    clear k5
    go_wp2_with fail
    go_ret
    exact ⟨w3, G3, V, HQ3.out.1, HQ3.out.2, Or.inl ⟨HRR.out.1 hrr0, ⟨t, v, rfl⟩, G3, S4.out.keptF K5.out⟩⟩
  · have hd : decide (rr ≤ 0) = false := decide_eq_false hrr0
    have cb := SB4.out.cb
    have f42 := R4.out.cv hqv 42 Q.out.h42 (by decide) (by decide)
    have hrr2 : ¬ (rf : Int) < r0 := by have := HR.out; omega
    have hd2 : decide ((rf : Int) < r0) = false := decide_eq_false hrr2
    have f43 := R4.out.cv hqv 43 Q.out.h43 (by decide) (by decide)
    have HCM : Hid (0 < cmpF (fsL ls) fs0) := Lib.hid (Int.not_le.mp (fun h => hrr0 (HRR.out.2 h)))
    clear HRR
    go_wp2_with fail
    have hn10 : n ≤ 10 := by rw [HN.out]; exact HCK.out.n
    have HCI0 := Lib.hid (CkI.zero HCK.out)
    go_loopw [10, 11, 56] (fun s10 s11 s56 wr => ∃ (i r : Nat) (z : Int), i ≤ n ∧ s56 = .int .i64 i ∧ s10 = .int .u64 r ∧ s11 = .int .i64 z ∧ Hid (CkI c0 cs i r z) ∧ Hid (Kept (fun _ _ => False) w4 wr)) (fun _ _ s56 _ => n - (intOf s56).toNat)
    case atStart => exact ⟨0, c0, 0, Nat.zero_le _, rfl, rfl, rfl, HCI0, Lib.hid (Kept.refl _ _)⟩
    case round =>
      obtain ⟨i, r, z, hi, rfl, rfl, rfl, HCI, HK⟩ := hrel
      by_cases hlt : i < n
      · obtain ⟨rfl, hcc, _⟩ := HV3.out (by omega)
        have hil : i < cs.length := by rw [← HN.out]; exact hlt
        obtain ⟨q1, q2, q3, q4⟩ := ((SB4.out.kept HK.out).row (by omega)).1 i hil
        obtain ⟨h1, h2⟩ := HCI.out.h hil
        have h9 := HCK.out.r9 i hil
        have ht := HCK.out.t i hil
        have HNX := Lib.hid (CkI.step HCK.out hil)
        obtain ⟨ci, hci⟩ : ∃ ci, ci = cs[i]'hil := ⟨_, rfl⟩
        rw [← hci] at q1 q3 q4 h1 h2 h9 ht HNX
        obtain ⟨cr, ca, cz⟩ := ci
        dsimp only at q1 q3 q4 h1 h2 h9 ht HNX
        obtain ⟨ht1, ht2, ht3⟩ := ht
        have hiI : (i : Int) < n := by omega
        have e1 : ¬ (cr : Int) < r := by omega
        have e3 : ¬ cz < ca := by omega
        have HKN := Lib.hid (fun ob => HK.out.trans (Kept.alloc (fun _ _ => False) wr ob) (fun _ _ _ => id))
        clear hci
        by_cases hi0 : i = 0
        · subst hi0
          rw [Nat.zero_mul, Nat.add_zero] at q1 q2 q3 q4
          go_wp2_with fail
          go_roundw
          case rel => exact ⟨0 + 1, cr, cz, by omega, by go_num, rfl, rfl, HNX, Lib.hid (HKN.out _)⟩
          case measure => simp only [intOf]; omega
        · have e4 : (0 : Int) < i := by omega
          have e5 : ¬ ca ≤ z := by have := h2 (by omega); omega
          go_wp2_with fail
          go_roundw
          case rel => exact ⟨i + 1, cr, cz, by omega, by go_num, rfl, rfl, HNX, Lib.hid (HKN.out _)⟩
          case measure => simp only [intOf]; omega
      · obtain rfl : i = n := by omega
        have hlr : r = lastR c0 cs := by
          have := HCI.out.e
          rwa [HN.out, List.take_length] at this
        have R5 := Lib.hid (R4.out.keptF HK.out)
        have S5 := Lib.hid (S4.out.keptF HK.out)
        have SB5 := Lib.hid (SB4.out.kept HK.out)
        have cb := SB5.out.cb
        have HLR := Lib.hid hlr
        have hq16 : (V.lf.length + padN V.lf.length 16) % 16 = 0 := padN_mod _
        obtain ⟨n6, hn6⟩ : ∃ n6, n6 = V.lf.length + padN V.lf.length 16 := ⟨_, rfl⟩
        rw [← hn6] at hq16
        have HN6 := Lib.hid hn6
        clear hlr HCI HK R4 S4 SB4 hn6
        go_wp2_with fail
        refine (R5.out.padWs hqv 16 (by decide) (by decide) (by have := Q.out.lf; omega) Q.out.zm).mono ?_
        rintro e w6 ⟨g6, rfl, G6, r6, v6, s6⟩
        have hp6 := r6.posv v6 (n := n6) (by show (V.lf ++ zeros _).length = _; rw [List.length_append, zeros_length]; exact HN6.out.symm)
        have f06 := r6.f0
        have SB6 := Lib.hid (SB5.out.go s6)
        have S6 := Lib.hid (S5.out.trans s6)
        have R6 := Lib.hid r6
        have V6 := Lib.hid v6
        have cb := SB6.out.cb
        have hm2 : (n6 : Int) % 16 = 0 := by omega
        clear r6 v6 s6 SB5 S5 R5
        go_wp2_with fail
        obtain ⟨V6', hV6'⟩ : ∃ V6' : Vw, V6' = { V with gf := g6, lf := V.lf ++ zeros (padN V.lf.length 16) } := ⟨_, rfl⟩
        rw [← hV6'] at V6
        have E6 : Hid (V6'.lf.length < 8000000 ∧ V6'.zm = false ∧ V6'.S = V.S ∧ V6'.nl = V.nl ∧ V6'.L = V.L) := Lib.hid (by
          rw [hV6']
          have h1 := Q.out.lf
          have h2 := padN_lt V.lf.length 16 (by decide)
          refine ⟨?_, Q.out.zm, rfl, rfl, rfl⟩
          show (V.lf ++ zeros _).length < _
          rw [List.length_append, zeros_length]; omega)
        have HV6' := Lib.hid hV6'
        obtain ⟨q, hq⟩ : ∃ q, q = ls.length := ⟨_, rfl⟩
        have hq12 : q ≤ 12 := by rw [hq]; exact HL.out.n
        have HQL := Lib.hid hq
        clear hV6' hp6 f06 hm2 hq16 hq
        refine (R6.out.reset2s V6.out).mono ?_
        rintro e w7 ⟨rfl, G7, r7, v7, s7⟩
        have SB7 := Lib.hid (SB6.out.go s7)
        have S7 := Lib.hid (S6.out.trans s7)
        have R7 := Lib.hid r7
        have V7 := Lib.hid v7
        have cb := SB7.out.cb
        have cd := SB7.out.cd
        have hlb := World.block_lt_of_cell? _ _ cb
        have hld := World.block_lt_of_cell? _ _ cd
        have HLN := Lib.hid (labLen_any D (fsL ls) q HD.out (by rw [HQL.out]; exact fsL_len ls) w7.drew)
        clear r7 v7 s7 SB6 S6 R6 V6
        go_wp2_with fail
        go_region_held3 (fun w' => w'.cell? ⟨bx, 0, none⟩ = some (.pointer (some ⟨G0.wb, 0, none⟩)) ∧ w'.cell? ⟨dx, 0, none⟩ = some (.string D)) (first | exact ⟨cb, cd⟩ | exact ⟨y1, y2⟩ | exact ⟨z1, z2⟩ | go_keep) (first | (go_at_call 60; (with_reducible refine HLN.out.mono ?_); rintro e wa ⟨rfl, ka⟩; have y1 := (ka.cell bx 0 hlb id).trans cb; have y2 := (ka.cell dx 0 hld id).trans cd; have SBA := Lib.hid ((SB7.out.kept (Kept.drew _ _)).kept ka); have SA := Lib.hid (S7.out.drew.keptF ka); have RA := Lib.hid (R7.out.drew.keptF ka); clear ka) | (go_at_call 42; refine (RA.out.uv2s V7.out q (by simp) (by omega)).mono ?_; rintro e w8 ⟨rfl, G8, r8, v8, s8⟩; have SB8 := Lib.hid (SBA.out.go s8); have z1 := SB8.out.cb; have z2 := SB8.out.cd; have S8 := Lib.hid (SA.out.trans s8); have R8 := Lib.hid r8; have V8 := Lib.hid v8; clear r8 v8 s8))
        obtain ⟨V8', hV8'⟩ : ∃ V8' : Vw, V8' = { V6' with l2 := [] ++ Lib.uvarint q } := ⟨_, rfl⟩
        have v8' : G8.v = V8' := by rw [hV8']; exact V8.out
        have E8 : Hid (V8'.S = V.S ∧ V8'.nl = V.nl ∧ V8'.L = V.L ∧ V8'.l2 = Lib.uvarint q ∧ V8'.lf = V6'.lf ∧ V8'.zm = false) := Lib.hid (by rw [hV8']; exact ⟨E6.out.2.2.1, E6.out.2.2.2.1, E6.out.2.2.2.2, rfl, rfl, E6.out.2.1⟩)
        have HVAL := Lib.hid (val_any w8 G8 V8' bx D ls R8.out.wi v8' (by rw [R8.out.nx.wb]; exact SB8.out.cb) SB8.out.tb HD.out HL.out HA.out nS Q.out.nS9 (by rw [E8.out.1]; exact Q.out.sn) m Q.out.m9 (by rw [E8.out.2.2.1, E8.out.1]; exact Q.out.ln) (by rw [E8.out.2.2.2.1]; have := Lib.uvarint_length64 (x := q) (by omega); omega) (by rw [E8.out.2.1]; exact Q.out.nl))
        have HV8' := Lib.hid hV8'
        have cb := SB8.out.cb
        have cd := SB8.out.cd
        clear z1 z2 y1 y2 hlb hld SBA SA RA SB7 S7 R7 V7 V8 hV8' HLN v8'
        go_wp2_with fail
        refine HVAL.out.mono ?_
        rintro e w9 (⟨rfl, hall, G9, ps, L9, r9, v9, hps, hpb, hln⟩ | ⟨⟨t, v, rfl⟩, hnall, G9, r9⟩)
        case inr =>
          have FIN : Hid (¬ AllS V.S ls ∧ ∃ G', Reach w3 G3 w9 G') := Lib.hid ⟨by rw [← E8.out.1]; exact hnall, G9, S8.out.trans r9⟩
          clear hnall r9 HVAL
          go_wp2_with fail
          go_ret
          exact ⟨w3, G3, V, HQ3.out.1, HQ3.out.2, Or.inr (Or.inl ⟨HCM.out, FIN.out.1, ⟨t, v, rfl⟩, FIN.out.2⟩)⟩
        have SB9 := Lib.hid (SB8.out.go r9)
        have S9 := Lib.hid (S8.out.trans r9)
        have R9 := Lib.hid (R8.out.trans r9)
        have HALL : Hid (AllS V.S ls) := Lib.hid (by rw [← E8.out.1]; exact hall)
        have HPS := Lib.hid (And.intro hps (And.intro hpb hln))
        obtain ⟨V9', hV9'⟩ : ∃ V9' : Vw, V9' = { V8' with l2 := V8'.l2 ++ pairsB ps, nl := V8'.nl + ls.length, L := L9 } := ⟨_, rfl⟩
        rw [← hV9'] at v9
        have V9 := Lib.hid v9
        have HV9' := Lib.hid hV9'
        have hpl := pairsB_len ps nS Q.out.nS9 hpb
        have E9 : Hid (V9'.l2 = Lib.uvarint q ++ pairsB ps ∧ V9'.l2.length ≤ 260 ∧ V9'.lf = V6'.lf ∧ V9'.zm = false) := Lib.hid (by
          rw [hV9']
          refine ⟨by rw [E8.out.2.2.2.1], ?_, E8.out.2.2.2.2.1, E8.out.2.2.2.2.2⟩
          show (V8'.l2 ++ pairsB ps).length ≤ _
          rw [E8.out.2.2.2.1, List.length_append]
          have h1 := Lib.uvarint_length64 (x := q) (by omega)
          have h2 := HQL.out
          rw [hps] at hpl
          omega)
        have cb := SB9.out.cb
        clear hall r9 v9 hps hpb hln HVAL S8 R8 SB8 hpl hV9' cd
        go_wp2_with fail
        refine (R9.out.uv2s V9.out i (by have := E9.out.2.1; omega) (by omega)).mono ?_
        rintro e w10 ⟨rfl, G10, r10, v10, s10⟩
        have SB10 := Lib.hid (SB9.out.go s10)
        have S10 := Lib.hid (S9.out.trans s10)
        have R10 := Lib.hid r10
        obtain ⟨VX, hVX⟩ : ∃ VX : Vw, VX = { V9' with l2 := V9'.l2 ++ Lib.uvarint i } := ⟨_, rfl⟩
        rw [← hVX] at v10
        have V10 := Lib.hid v10
        have EX : Hid (VX.l2 = V9'.l2 ++ Lib.uvarint i ∧ VX.l2.length ≤ 270 ∧ VX.lf = V6'.lf ∧ VX.zm = false) := Lib.hid (by
          rw [hVX]
          refine ⟨rfl, ?_, E9.out.2.2.1, E9.out.2.2.2⟩
          show (V9'.l2 ++ Lib.uvarint i).length ≤ _
          rw [List.length_append]
          have h1 := Lib.uvarint_length64 (x := i) (by omega)
          have h2 := E9.out.2.1
          omega)
        have HVX := Lib.hid hVX
        have cb := SB10.out.cb
        have HCN : Hid (CBn w0 G0 w3 G3 bx dx D b o i cs VX 0 w10) := Lib.hid ⟨G10, [], r10, by rw [List.append_nil]; exact v10, S10.out, SB10.out, Nat.le_refl _⟩
        clear r10 v10 s10 R9 S9 SB9 V9 hVX
        go_upto_if 125 with fail
        go_cut [] from 125 to 196 (fun wx => Hid (CBn w0 G0 w3 G3 bx dx D b o i cs VX 500 wx))
        case first =>
          by_cases hn0 : 0 < i
          · obtain ⟨rfl, hcc, _⟩ := HV3.out hn0
            have hil : 0 < cs.length := by rw [← HN.out]; exact hn0
            obtain ⟨hrow, hbl, hbt⟩ := SB10.out.row hn0
            obtain ⟨q1, q2, q3, q4⟩ := hrow 0 hil
            have h9 := HCK.out.r9 0 hil
            obtain ⟨ht1, ht2, ht3⟩ := HCK.out.t 0 hil
            obtain ⟨ci, hci⟩ : ∃ ci, ci = cs[0]'hil := ⟨_, rfl⟩
            have HCI := Lib.hid hci
            rw [← hci] at q1 q3 q4 h9 ht1 ht2 ht3
            rw [Nat.zero_mul, Nat.add_zero] at q1 q2 q3 q4
            obtain ⟨cr, ca, cz⟩ := ci
            dsimp only at q1 q3 q4 h9 ht1 ht2 ht3
            have hd : decide (0 < i) = true := decide_eq_true hn0
            have hiI : (0 : Int) < i := by omega
            -- the box of the first chunk
            have hx := HCN.out.new ⟨cr, ca, cz⟩ .nilIface
            obtain ⟨gx, hgx⟩ : ∃ gx, gx = w10.heap.size := ⟨_, rfl⟩
            obtain ⟨wa, hwa⟩ : ∃ wa, wa = w10.alloc (.cells #[.int .u64 (cr : Int), .nilIface, .int .i64 ca, .int .i64 cz] 69) := ⟨_, rfl⟩
            rw [← hgx] at hx
            dsimp only at hx
            rw [← hwa] at hx
            have HX := Lib.hid hx
            have HGX := Lib.hid hgx
            have HWA := Lib.hid hwa
            have hB0 : VX.l2.length + 500 < 1000000 := by have := EX.out.2.1; omega
            clear hci hrow hbl hbt hx hgx hwa
            go_wp2_with fail
            rw [← HWA.out]
            simp only [← HGX.out]
            have a1 := HX.out.cb
            have a2 := HX.out.c2
            go_region_held3 (fun w' => w'.cell? ⟨bx, 0, none⟩ = some (.pointer (some ⟨G0.wb, 0, none⟩)) ∧ w'.cell? ⟨gx, 2, none⟩ = some (.int .i64 ca)) (first | exact ⟨a1, a2⟩ | exact ⟨y1, y2⟩ | go_keep) (first | (go_at_call 45; (with_reducible refine (HX.out.drew.v64 (by omega) ca (by omega) (by omega)).mono ?_); rintro e wv ⟨rfl, hy⟩; have y1 := hy.cb; have y2 := hy.c2; have HY := Lib.hid hy; clear hy))
            obtain ⟨d, hdd⟩ : ∃ d : Nat, (d : Int) = cz - ca := ⟨(cz - ca).toNat, by omega⟩
            have hwd : IntKind.u64.wrap (IntKind.i64.wrap (cz - ca)) = (d : Int) := by rw [IntKind.wrap_u64, IntKind.wrap_i64]; omega
            have hd9 : d < 18446744073709551616 := by omega
            have HDD := Lib.hid hdd
            have y3 := HY.out.c3
            clear a1 a2 HX hdd HGX HWA
            go_wp2_with fail
            go_region_held3 (fun w' => w'.cell? ⟨bx, 0, none⟩ = some (.pointer (some ⟨G0.wb, 0, none⟩)) ∧ w'.cell? ⟨gx, 2, none⟩ = some (.int .i64 ca) ∧ w'.cell? ⟨gx, 3, none⟩ = some (.int .i64 cz)) (first | exact ⟨y1, y2, y3⟩ | exact ⟨a1, a2, a3⟩ | go_keep) (first | (go_at_call 44; (with_reducible refine (HY.out.drew.u64 (by omega) d hd9).mono ?_); rintro e wu ⟨rfl, hy⟩; have a1 := hy.cb; have a2 := hy.c2; have a3 := hy.c3; have HU := Lib.hid hy; clear hy))
            have a0 := HU.out.c0
            clear y1 y2 y3 HY a2 hwd
            go_wp2_with fail
            go_region_held3 (fun w' => w'.cell? ⟨bx, 0, none⟩ = some (.pointer (some ⟨G0.wb, 0, none⟩)) ∧ w'.cell? ⟨gx, 0, none⟩ = some (.int .u64 (cr : Int))) (first | exact ⟨a1, a0⟩ | exact ⟨y1, y0⟩ | go_keep) (first | (go_at_call 44; (with_reducible refine (HU.out.drew.u64 (by omega) cr h9).mono ?_); rintro e wt ⟨rfl, hy⟩; have y1 := hy.cb; have y0 := hy.c0; have HT := Lib.hid hy; clear hy))
            have y3 := HT.out.c3
            clear a1 a0 a3 HU
            obtain ⟨yr, hyr⟩ : ∃ yr, yr = IntKind.i64.wrap (cr : Int) := ⟨_, rfl⟩
            have hyb := wrap_i64_in (cr : Int)
            rw [← hyr] at hyb
            have hyr2 := hyr.symm
            clear hyr
            go_wp2_with fail
            case inl =>
              subst h
              obtain ⟨n1, hn1⟩ : ∃ n1, n1 = i - 1 := ⟨_, rfl⟩
              have hn10' : n1 = 0 := by omega
              go_loopw [159] (fun s wr => s = .int .i64 0 ∧ wr = wt) (fun _ _ => 0)
              case atStart => exact ⟨rfl, rfl⟩
              case round =>
                obtain ⟨rfl, rfl⟩ := hrel
                go_wp2_with fail
                go_meet
                exact Lib.hid (HT.out.toN.mono (by omega))
            go_loopw [17, 18, 159] (fun s17 s18 s wr => ∃ (j : Nat) (z y : Int), j + 1 ≤ i ∧ s = .int .i64 j ∧ s17 = .int .i64 z ∧ s18 = .int .i64 y ∧ (-1152921504606846976 ≤ z ∧ z ≤ 1152921504606846976) ∧ (-9223372036854775808 ≤ y ∧ y ≤ 9223372036854775807) ∧ Hid (∀ h : j + 1 < cs.length, z < (cs[j + 1]'h).a) ∧ Hid (CBn w0 G0 w3 G3 bx dx D b o i cs VX (30 + 30 * j) wr)) (fun _ _ s _ => i - (intOf s).toNat)
            case atStart => exact ⟨0, cz, yr, by omega, rfl, rfl, rfl, ⟨by omega, by omega⟩, hyb, Lib.hid (fun h => by have := HCK.out.g 0 h; rw [← HCI.out] at this; exact this), Lib.hid (HT.out.toN.mono (by omega))⟩
            case round =>
              obtain ⟨j, z2, y2, hj, rfl, rfl, rfl, hz, hy, HZ, HB⟩ := hrel
              clear y1 y0 y3 HT
              by_cases hlt : j + 1 < i
              · have hjl : j + 1 < cs.length := by rw [← HN.out]; exact hlt
                obtain ⟨q1, q2, q3, q4⟩ := HB.out.row hn0 (j + 1) hjl
                rw [show o + (j + 1) * 4 = o + 4 + j * 4 by omega] at q1 q2 q3 q4
                have k9 := HCK.out.r9 (j + 1) hjl
                obtain ⟨kt1, kt2, kt3⟩ := HCK.out.t (j + 1) hjl
                have kz := HZ.out hjl
                have KN : Hid (∀ h : j + 1 + 1 < cs.length, (cs[j + 1]'hjl).z < (cs[j + 1 + 1]'h).a) := Lib.hid (fun h => HCK.out.g (j + 1) h)
                obtain ⟨ck, hck⟩ : ∃ ck, ck = cs[j + 1]'hjl := ⟨_, rfl⟩
                rw [← hck] at q1 q3 q4 k9 kt1 kt2 kt3 kz KN
                obtain ⟨kr, ka, kc⟩ := ck
                dsimp only at q1 q3 q4 k9 kt1 kt2 kt3 kz KN
                have hx := HB.out.new ⟨kr, ka, kc⟩ .nilIface
                obtain ⟨gy, hgy⟩ : ∃ gy, gy = wr.heap.size := ⟨_, rfl⟩
                obtain ⟨wa, hwa⟩ : ∃ wa, wa = wr.alloc (.cells #[.int .u64 (kr : Int), .nilIface, .int .i64 ka, .int .i64 kc] 69) := ⟨_, rfl⟩
                rw [← hgy] at hx
                dsimp only at hx
                rw [← hwa] at hx
                have HX := Lib.hid hx
                have HGY := Lib.hid hgy
                have HWA := Lib.hid hwa
                have hjI : (j : Int) < i - 1 := by omega
                clear hck hx hgy hwa HZ HB
                go_wp2_with fail
                rw [← HWA.out]
                simp only [← HGY.out]
                obtain ⟨d1, hd1⟩ : ∃ d : Nat, (d : Int) = ka - z2 := ⟨(ka - z2).toNat, by omega⟩
                have hw1 : IntKind.u64.wrap (IntKind.i64.wrap (ka - z2)) = (d1 : Int) := by rw [IntKind.wrap_u64, IntKind.wrap_i64]; omega
                have hd19 : d1 < 18446744073709551616 := by omega
                obtain ⟨d2, hd2'⟩ : ∃ d : Nat, (d : Int) = kc - ka := ⟨(kc - ka).toNat, by omega⟩
                have hw2 : IntKind.u64.wrap (IntKind.i64.wrap (kc - ka)) = (d2 : Int) := by rw [IntKind.wrap_u64, IntKind.wrap_i64]; omega
                have hd29 : d2 < 18446744073709551616 := by omega
                have hB1 : VX.l2.length + (30 + 30 * j) < 999000 := by have := EX.out.2.1; omega
                have hj10 : j < 10 := by omega
                have a1 := HX.out.cb
                have a2 := HX.out.c2
                clear hd1 hd2' HWA HGY q1 q2 q3 q4 hB0
                go_region_held3 (fun w' => w'.cell? ⟨bx, 0, none⟩ = some (.pointer (some ⟨G0.wb, 0, none⟩)) ∧ w'.cell? ⟨gy, 2, none⟩ = some (.int .i64 ka)) (first | exact ⟨a1, a2⟩ | exact ⟨y1, y2'⟩ | go_keep) (first | (go_at_call 44; (with_reducible refine (HX.out.drew.u64 (by omega) d1 hd19).mono ?_); rintro e wu ⟨rfl, hy'⟩; have y1 := hy'.cb; have y2' := hy'.c2; have HU := Lib.hid hy'; clear hy'))
                have y3 := HU.out.c3
                clear a1 a2 HX hw1
                go_wp2_with fail
                go_region_held3 (fun w' => w'.cell? ⟨bx, 0, none⟩ = some (.pointer (some ⟨G0.wb, 0, none⟩)) ∧ w'.cell? ⟨gy, 2, none⟩ = some (.int .i64 ka) ∧ w'.cell? ⟨gy, 3, none⟩ = some (.int .i64 kc)) (first | exact ⟨y1, y2', y3⟩ | exact ⟨a1, a2, a3⟩ | go_keep) (first | (go_at_call 44; (with_reducible refine (HU.out.drew.u64 (by omega) d2 hd29).mono ?_); rintro e wv ⟨rfl, hy'⟩; have a1 := hy'.cb; have a2 := hy'.c2; have a3 := hy'.c3; have HV := Lib.hid hy'; clear hy'))
                have a0 := HV.out.c0
                clear y1 y2' y3 HU hw2 a2
                go_wp2_with fail
                have hxb := wrap_i64_in (IntKind.i64.wrap (kr : Int) - y2)
                go_region_held3 (fun w' => w'.cell? ⟨bx, 0, none⟩ = some (.pointer (some ⟨G0.wb, 0, none⟩)) ∧ w'.cell? ⟨gy, 0, none⟩ = some (.int .u64 (kr : Int))) (first | exact ⟨a1, a0⟩ | exact ⟨y1, y0⟩ | go_keep) (first | (go_at_call 45; (with_reducible refine (HV.out.drew.v64 (by omega) (IntKind.i64.wrap (IntKind.i64.wrap (kr : Int) - y2)) hxb.1 hxb.2).mono ?_); rintro e wt' ⟨rfl, hy'⟩; have y1 := hy'.cb; have y0 := hy'.c0; have HT := Lib.hid hy'; clear hy'))
                clear a1 a0 a3 HV
                have hkb : -9223372036854775808 ≤ wrap64 (kr : Int) ∧ wrap64 (kr : Int) ≤ 9223372036854775807 := by unfold wrap64; omega
                go_wp2_with fail
                go_roundw
                case rel => exact ⟨j + 1, kc, wrap64 (kr : Int), by omega, by go_num, rfl, rfl, ⟨by omega, by omega⟩, hkb, KN, Lib.hid (HT.out.toN.mono (by omega))⟩
                case measure => simp only [intOf]; omega
              · have hjI : ¬ (j : Int) < i - 1 := by omega
                go_wp2_with fail
                go_meet
                exact Lib.hid (HB.out.mono (by omega))
          · have hd : decide (0 < i) = false := decide_eq_false hn0
            go_wp2_with fail
            go_meet
            exact Lib.hid (HCN.out.mono (by omega))
        case rest =>
          obtain ⟨Gx, tl, rx, vx, sx, sbx, htl⟩ := hcut.out
          clear hcut
          obtain ⟨VY, hVY⟩ : ∃ VY : Vw, VY = { VX with l2 := VX.l2 ++ tl } := ⟨_, rfl⟩
          rw [← hVY] at vx
          obtain ⟨s0, hs0⟩ : ∃ s0 : List UInt8 → Se, s0 = fun k => ⟨ps, Lib.uvarint i ++ tl, k⟩ := ⟨_, rfl⟩
          have hC : ∀ k, VY.l2 = (s0 k).c := by
            intro k
            rw [hVY, hs0]
            show VX.l2 ++ tl = Lib.uvarint ps.length ++ (pairsB ps ++ (Lib.uvarint i ++ tl))
            rw [EX.out.1, E9.out.1, HPS.out.1, ← HQL.out]
            simp [List.append_assoc]
          have EY : Hid (VY.lf = V6'.lf ∧ VY.zm = false ∧ VY.l2.length ≤ 770) := Lib.hid (by
            rw [hVY]
            refine ⟨EX.out.2.2.1, EX.out.2.2.2, ?_⟩
            show (VX.l2 ++ tl).length ≤ _
            rw [List.length_append]
            have := EX.out.2.1
            omega)
          have HC := Lib.hid hC
          have RX := Lib.hid rx
          have VXX := Lib.hid vx
          have SX := Lib.hid sx
          have SBX := Lib.hid sbx
          have HTL := Lib.hid htl
          have HVY := Lib.hid hVY
          have HS0 := Lib.hid hs0
          have cb := sbx.cb
          clear rx vx sx sbx htl hVY hs0 hC HCN
          go_wp2_with fail
          refine (RX.out.reset1s VXX.out).mono ?_
          rintro e w11 ⟨rfl, G11, r11, v11, s11⟩
          have SB11 := Lib.hid (SBX.out.go s11)
          have S11 := Lib.hid (SX.out.trans s11)
          have R11 := Lib.hid r11
          have V11 := Lib.hid v11
          have cb := SB11.out.cb
          obtain ⟨ao1, m1, c1, HV1, hm1⟩ := R11.out.v2
          have hm1' : m1 = VY.l2.length := by rw [hm1.out]; exact congrArg (fun v : Vw => v.l2.length) v11
          have hm9 : m1 ≤ 770 := by rw [hm1']; exact EY.out.2.2
          have HM1 := Lib.hid hm1'
          have HLE := Lib.hid (len_any G0.wb 23 ao1 m1 c1 w11.drew HV1)
          clear r11 v11 s11 hm1 hm1' RX VXX SX SBX
          go_wp2_with fail
          go_region_held3 (fun w' => w'.cell? ⟨bx, 0, none⟩ = some (.pointer (some ⟨G0.wb, 0, none⟩))) (first | exact cb | exact y1 | go_keep) (first | (go_at_call 63; (with_reducible refine HLE.out.mono ?_); rintro e w' ⟨rfl, rfl⟩) | (go_at_call 42; refine (R11.out.drew.uv1s V11.out m1 (by simp) (by omega)).mono ?_; rintro e w12 ⟨rfl, G12, r12, v12, s12⟩; have SB12 := Lib.hid ((SB11.out.kept (Kept.drew _ _)).go s12); have y1 := SB12.out.cb; have S12 := Lib.hid (S11.out.drew.trans s12); have R12 := Lib.hid r12; have V12 := Lib.hid v12; clear r12 v12 s12))
          clear cb HV1 R11 V11 S11 SB11
          have cb := SB12.out.cb
          have f44 := R12.out.c44
          have f44l := World.block_lt_of_cell? _ _ f44
          clear y1
          go_wp2_with fail
          go_region_held3 (fun w' => w'.cell? ⟨bx, 0, none⟩ = some (.pointer (some ⟨G0.wb, 0, none⟩)) ∧ w'.cell? ⟨G0.wb, 44, none⟩ = some (.iface 284 (.pointer (some ⟨G0.dg, 0, none⟩)))) (first | exact ⟨cb, f44⟩ | exact ⟨y1, y2⟩ | go_keep) (first | (go_at_call 64; refine (R12.out.drew.hash2s V12.out (by have := EY.out.2.2; show VY.l2.length < _; omega)).mono ?_; rintro e w13 ⟨k, hk, rfl, G13, r13, v13, s13⟩; have SB13 := Lib.hid ((SB12.out.kept (Kept.drew _ _)).go s13); have y1 := SB13.out.cb; have y2 := r13.c44; have S13 := Lib.hid (S12.out.drew.trans s13); have R13 := Lib.hid r13; have V13 := Lib.hid v13; have HK4 := Lib.hid hk; clear r13 v13 s13 hk))
          clear cb f44 f44l R12 V12 S12 SB12 y1 y2
          have cb := SB13.out.cb
          obtain ⟨ao3, m3, c3, HV3, _⟩ := R13.out.v1
          obtain ⟨ao4, m4, c4, HV4, _⟩ := R13.out.v2
          go_upto_region 52 with fail
          obtain ⟨V13', hV13⟩ : ∃ V' : Vw, V' = { VY with l1 := [] ++ Lib.uvarint m1, l2 := VY.l2 ++ k } := ⟨_, rfl⟩
          have v13' : G13.v = V13' := by rw [hV13]; exact V13.out
          have hul := Lib.uvarint_length64 (x := m1) (by omega)
          have E13 : Hid (V13'.lf = V6'.lf ∧ V13'.zm = false ∧ V13'.l1 = Lib.uvarint m1 ∧ V13'.l2 = VY.l2 ++ k ∧ V13'.lf.length + (V13'.l1.length + V13'.l2.length) < 9000000) := Lib.hid (by
            rw [hV13]
            refine ⟨EY.out.1, EY.out.2.1, rfl, rfl, ?_⟩
            show VY.lf.length + (([] ++ Lib.uvarint m1).length + (VY.l2 ++ k).length) < _
            rw [List.nil_append, List.length_append, HK4.out, EY.out.1]
            have := EY.out.2.2; have := E6.out.1
            omega)
          have W13' := (R13.out.drew.write12s v13' (x := .slice ao3 m3 c3) (y := .slice ao4 m4 c4) HV3 HV4 (by have := E13.out.2.2.2.2; omega) E13.out.2.1)
          have W13 := Lib.hid (show Calls Tryz.prog 56 #[.pointer (some ⟨G0.wb, 0, none⟩), .slice (some ⟨w13.heap.size, 0, none⟩) 2 2] (w13.alloc (.cells #[.slice ao3 m3 c3, .slice ao4 m4 c4] 27)).drew _ from W13')
          have GE1 := Lib.hid (get_any G0.wb 12 _ w13.drew HV3)
          have GE2 := Lib.hid (get_any G0.wb 23 _ w13.drew HV4)
          have HV13 := Lib.hid hV13
          clear hV13 v13' hul HV3 HV4 W13'
          go_region_held3 (fun w' => w'.cell? ⟨bx, 0, none⟩ = some (.pointer (some ⟨G0.wb, 0, none⟩))) (first | exact cb | exact y1 | go_keep) (first | (go_at_call 49; first | ((with_reducible refine GE1.out.mono ?_); rintro e w' ⟨rfl, rfl⟩) | ((with_reducible refine GE2.out.mono ?_); rintro e w' ⟨rfl, rfl⟩)) | (go_at_call 56; (with_reducible refine W13.out.mono ?_); rintro e w14 ⟨g14, rfl, G14, r14, v14, s14⟩; have SB14 := Lib.hid ((SB13.out.kept (Kept.drew _ _)).go s14); have y1 := SB14.out.cb; have S14 := Lib.hid (S13.out.drew.trans s14); have R14 := Lib.hid r14; have V14 := Lib.hid v14; clear r14 v14 s14))
          have hlf : V13'.lf ++ (V13'.l1 ++ V13'.l2) = V.lf ++ (zeros (padN V.lf.length 16) ++ Se.d (s0 k)) := by
            rw [E13.out.1, E13.out.2.2.1, E13.out.2.2.2.1, HM1.out, HC.out k, HV6'.out]
            show (V.lf ++ zeros _) ++ _ = V.lf ++ (zeros _ ++ (Lib.uvarint (s0 k).c.length ++ ((s0 k).c ++ (s0 k).sm)))
            rw [show (s0 k).sm = k by rw [HS0.out], List.append_assoc]
          obtain ⟨V14', hV14⟩ : ∃ V' : Vw, V' = { V13' with lf := V.lf ++ (zeros (padN V.lf.length 16) ++ Se.d (s0 k)), gf := g14 } := ⟨_, rfl⟩
          have v14' : G14.v = V14' := by rw [hV14, V14.out, hlf]
          have cb := SB14.out.cb
          have cd := SB14.out.cd
          have SB14d := SB14.out.kept (Kept.drew _ _)
          obtain ⟨Gn, sn, vn, _, _⟩ := (Reach.refl R14.out.drew.wi).newv rfl (.cells #[.string D] 73)
          have rn := R14.out.drew.trans sn
          obtain ⟨Gm, rm, vm, sm, _⟩ := rn.stvs (vn.trans v14') 41 (.string D) (by decide) (by decide) (by decide) (by decide) (by decide) (by decide)
          have c41 := R14.out.drew.cv v14' 41 rfl (by decide) (by decide)
          have HCF := copyFrom_any D G0.wb 41 w14.drew c41 (R14.out.drew.fr 41 (by decide))
          obtain ⟨w15, hw15⟩ : ∃ w15, w15 = (w14.drew.alloc (.cells #[.string D] 73)).setCell ⟨G0.wb, 41, none⟩ (.string D) := ⟨_, rfl⟩
          rw [← hw15] at HCF rm sm
          have SB15 := (SB14d.go sn).go sm
          have S15 := (S14.out.drew.trans sn).trans sm
          have z1 := SB15.cb
          have z2 := SB15.cd
          obtain ⟨G16, r16, v16, s16, _⟩ := rm.stvs vm 42 (.int .u64 (rf : Int)) (by decide) (by decide) (by decide) (by decide) (by decide) (by decide)
          have SB16 := SB15.go s16
          obtain ⟨G17, r17, v17, s17, _⟩ := r16.stvs v16 43 (.int .u64 (r : Int)) (by decide) (by decide) (by decide) (by decide) (by decide) (by decide)
          have x1 := SB16.cb
          have x42 := rm.cv vm 42 rfl (by decide) (by decide)
          have x43 := r16.cv v16 43 rfl (by decide) (by decide)
          have fr42 := rm.fr 42 (by decide)
          have fr43 := r16.fr 43 (by decide)
          have HAK : Hid (AddK w3 G3 V D ls rf (lastR c0 cs) nS m ((w15.setCell ⟨G0.wb, 42, none⟩ (.int .u64 (rf : Int))).setCell ⟨G0.wb, 43, none⟩ (.int .u64 (r : Int)))) := Lib.hid (by
            refine ⟨G17, s0 k, g14, V13'.l1, V13'.l2, L9, (S15.trans s16).trans s17, ?_, ?_, ?_, by rw [← E8.out.1]; exact HPS.out.2.2, ?_, ?_⟩
            · rw [v17, ← HLR.out]
              have h13 := HV13.out
              have hY := HVY.out
              have hX := HVX.out
              have h9 := HV9'.out
              have h8 := HV8'.out
              have h6 := HV6'.out
              rw [hV14, h13, hY, hX, h9, h8, h6]
            · rw [HS0.out]; exact HPS.out.1
            · rw [HS0.out]; exact HPS.out.2.1
            · rw [HS0.out]
              show (Lib.uvarint i ++ tl).length ≤ 600
              rw [List.length_append]
              have := HTL.out
              have := Lib.uvarint_length64 (x := i) (by omega)
              omega
            · rw [HS0.out]; exact HK4.out)
          have HCFh := Lib.hid HCF
          clear HCF hw15 rn rm sm sn vn vm r16 s16 v16 r17 v17 s17 SB16 SB15 S15 hlf hV14 v14' c41 SB14d
          go_wp2_with fail
          go_region_held3 (fun w' => w'.cell? ⟨bx, 0, none⟩ = some (.pointer (some ⟨G0.wb, 0, none⟩)) ∧ w'.cell? ⟨dx, 0, none⟩ = some (.string D)) (first | exact ⟨cb, cd⟩ | exact ⟨z1, z2⟩ | go_keep) (first | (go_at_call 65; (with_reducible refine HCFh.out.mono ?_); rintro e w' ⟨rfl, rfl⟩))
          go_wp2_with fail
          go_ret
          exact ⟨w3, G3, V, HQ3.out.1, HQ3.out.2, Or.inr (Or.inr ⟨HCM.out, HALL.out, rfl, HAK.out⟩)⟩

end Go.Proofs.YtfipfoplmopkaaaGreatDoor
