/- The steps of the Writer's methods, each as a contract on 'Reach'. Conditions: bounds on lengths. The symbols: AddSymbol. Conditions: bounds on lengths. -/
import Derived.Test.YtfipfoplmopkaaaGreatDoorZ17
import Derived.Test.YtfipfoplmopkaaaGreatDoorZ18

namespace Go.Proofs.YtfipfoplmopkaaaGreatDoor
open Go.RowKit Go.Maps

theorem WI.to1 {w : World} {G : Gh} (h : WI w G) {f : Nat} {xs : Array Value} {l : List UInt8} (hc : Calls Tryz.prog f xs w fun e w' => e = .returned (.tuple #[]) ∧ Put w G.wb 12 G.g1 l w') :
    Calls Tryz.prog f xs w fun e w' => e = .returned (.tuple #[]) ∧ ∃ g, Reach w G w' (G.b1 g l w.heap.size) := hc.mono (fun _ _ ⟨a, b⟩ => ⟨a, h.put1r b⟩)
theorem WI.to2 {w : World} {G : Gh} (h : WI w G) {f : Nat} {xs : Array Value} {l : List UInt8} (hc : Calls Tryz.prog f xs w fun e w' => e = .returned (.tuple #[]) ∧ Put w G.wb 23 G.g2 l w') :
    Calls Tryz.prog f xs w fun e w' => e = .returned (.tuple #[]) ∧ ∃ g, Reach w G w' (G.b2 g l w.heap.size) := hc.mono (fun _ _ ⟨a, b⟩ => ⟨a, h.put2r b⟩)
theorem WI.toh1 {w : World} {G : Gh} (h : WI w G) {f : Nat} {xs : Array Value} (hc : Calls Tryz.prog f xs w fun e w' => e = .returned (.tuple #[]) ∧ ∃ k : List UInt8, k.length = 4 ∧ PutH w G.wb 12 G.g1 G.dg G.tb (G.l1 ++ k) w') :
    Calls Tryz.prog f xs w fun e w' => e = .returned (.tuple #[]) ∧ ∃ k : List UInt8, k.length = 4 ∧ ∃ g, Reach w G w' (G.b1 g (G.l1 ++ k) w.heap.size) := hc.mono (fun _ _ ⟨a, k, hk, b⟩ => ⟨a, k, hk, h.puth1r b⟩)
theorem WI.toh2 {w : World} {G : Gh} (h : WI w G) {f : Nat} {xs : Array Value} (hc : Calls Tryz.prog f xs w fun e w' => e = .returned (.tuple #[]) ∧ ∃ k : List UInt8, k.length = 4 ∧ PutH w G.wb 23 G.g2 G.dg G.tb (G.l2 ++ k) w') :
    Calls Tryz.prog f xs w fun e w' => e = .returned (.tuple #[]) ∧ ∃ k : List UInt8, k.length = 4 ∧ ∃ g, Reach w G w' (G.b2 g (G.l2 ++ k) w.heap.size) := hc.mono (fun _ _ ⟨a, k, hk, b⟩ => ⟨a, k, hk, h.puth2r b⟩)
theorem WI.tos1 {w : World} {G : Gh} (h : WI w G) {f : Nat} {xs : Array Value} (hc : Calls Tryz.prog f xs w fun e w' => e = .returned (.tuple #[]) ∧ ∃ k : List UInt8, k.length = 4 ∧ Put w G.wb 12 G.g1 (G.l1 ++ k) w') :
    Calls Tryz.prog f xs w fun e w' => e = .returned (.tuple #[]) ∧ ∃ k : List UInt8, k.length = 4 ∧ ∃ g, Reach w G w' (G.b1 g (G.l1 ++ k) w.heap.size) := hc.mono (fun _ _ ⟨a, k, hk, b⟩ => ⟨a, k, hk, h.put1r b⟩)
theorem WI.tod {w : World} {G : Gh} (h : WI w G) {f : Nat} {xs : Array Value} {v : Value} (hc : Calls Tryz.prog f xs w fun e w' => e = .returned v ∧ DG w' G.dg G.tb ∧ Kept (dgP G.dg) w w') :
    Calls Tryz.prog f xs w fun e w' => e = .returned v ∧ Reach w G w' G := hc.mono (fun _ _ ⟨a, b, c⟩ => ⟨a, h.digr b c⟩)

theorem WI.reset1 {w : World} {G : Gh} (h : WI w G) {b : Nat} (hb : G.wb = b) : Calls Tryz.prog 55 #[.pointer (some ⟨b, 12, none⟩)] w fun e w' => e = .returned (.tuple #[]) ∧ ∃ g, Reach w G w' (G.b1 g [] w.heap.size) := by subst hb; exact h.to1 (reset_any _ _ _ _ _ h.e1)
theorem WI.reset2 {w : World} {G : Gh} (h : WI w G) {b : Nat} (hb : G.wb = b) : Calls Tryz.prog 55 #[.pointer (some ⟨b, 23, none⟩)] w fun e w' => e = .returned (.tuple #[]) ∧ ∃ g, Reach w G w' (G.b2 g [] w.heap.size) := by subst hb; exact h.to2 (reset_any _ _ _ _ _ h.e2)
theorem WI.uv1 {w : World} {G : Gh} (h : WI w G) {b : Nat} (hb : G.wb = b) (x : Nat) (hl : G.l1.length < 1000000000) (hx : x < 4294967296) : Calls Tryz.prog 42 #[.pointer (some ⟨b, 12, none⟩), .int .i64 x] w fun e w' => e = .returned (.tuple #[]) ∧ ∃ g, Reach w G w' (G.b1 g (G.l1 ++ Lib.uvarint x) w.heap.size) := by subst hb; exact h.to1 (putUvarint_any _ _ _ _ x _ h.e1 hl hx)
theorem WI.uv2 {w : World} {G : Gh} (h : WI w G) {b : Nat} (hb : G.wb = b) (x : Nat) (hl : G.l2.length < 1000000000) (hx : x < 4294967296) : Calls Tryz.prog 42 #[.pointer (some ⟨b, 23, none⟩), .int .i64 x] w fun e w' => e = .returned (.tuple #[]) ∧ ∃ g, Reach w G w' (G.b2 g (G.l2 ++ Lib.uvarint x) w.heap.size) := by subst hb; exact h.to2 (putUvarint_any _ _ _ _ x _ h.e2 hl hx)
theorem WI.u32_2 {w : World} {G : Gh} (h : WI w G) {b : Nat} (hb : G.wb = b) (x : Nat) (hl : G.l2.length < 1000000000) (hx : x < 4294967296) : Calls Tryz.prog 43 #[.pointer (some ⟨b, 23, none⟩), .int .u32 x] w fun e w' => e = .returned (.tuple #[]) ∧ ∃ g, Reach w G w' (G.b2 g (G.l2 ++ Lib.uvarint x) w.heap.size) := by subst hb; exact h.to2 (putUvarint32_any _ _ _ _ x _ h.e2 hl hx)
theorem WI.u64_1 {w : World} {G : Gh} (h : WI w G) {b : Nat} (hb : G.wb = b) (x : Nat) (hl : G.l1.length < 1000000000) (hx : x < 18446744073709551616) : Calls Tryz.prog 44 #[.pointer (some ⟨b, 12, none⟩), .int .u64 x] w fun e w' => e = .returned (.tuple #[]) ∧ ∃ g, Reach w G w' (G.b1 g (G.l1 ++ Lib.uvarint x) w.heap.size) := by subst hb; exact h.to1 (putUvarint64_any _ _ _ _ x _ h.e1 hl hx)
theorem WI.u64_2 {w : World} {G : Gh} (h : WI w G) {b : Nat} (hb : G.wb = b) (x : Nat) (hl : G.l2.length < 1000000000) (hx : x < 18446744073709551616) : Calls Tryz.prog 44 #[.pointer (some ⟨b, 23, none⟩), .int .u64 x] w fun e w' => e = .returned (.tuple #[]) ∧ ∃ g, Reach w G w' (G.b2 g (G.l2 ++ Lib.uvarint x) w.heap.size) := by subst hb; exact h.to2 (putUvarint64_any _ _ _ _ x _ h.e2 hl hx)
theorem WI.v64_2 {w : World} {G : Gh} (h : WI w G) {b : Nat} (hb : G.wb = b) (x : Int) (hl : G.l2.length < 1000000000) (h0 : -9223372036854775808 ≤ x) (h1 : x ≤ 9223372036854775807) : Calls Tryz.prog 45 #[.pointer (some ⟨b, 23, none⟩), .int .i64 x] w fun e w' => e = .returned (.tuple #[]) ∧ ∃ g, Reach w G w' (G.b2 g (G.l2 ++ Lib.uvarint (Lib.zigzag x)) w.heap.size) := by subst hb; exact h.to2 (putVarint64_any _ _ _ _ x _ h.e2 hl h0 h1)
theorem WI.str1 {w : World} {G : Gh} (h : WI w G) {b : Nat} (hb : G.wb = b) (s : ByteArray) (hl : G.l1.length < 100000000) (hs : s.size < 1000000000) : Calls Tryz.prog 46 #[.pointer (some ⟨b, 12, none⟩), .string s] w fun e w' => e = .returned (.tuple #[]) ∧ ∃ g, Reach w G w' (G.b1 g (G.l1 ++ (Lib.uvarint s.size ++ sB s)) w.heap.size) := by subst hb; exact h.to1 (putUvarintStr_any _ _ _ _ s _ h.e1 hl hs)
theorem WI.be32_1 {w : World} {G : Gh} (h : WI w G) {b : Nat} (hb : G.wb = b) (x : Nat) (hl : G.l1.length < 1000000000) (hx : x < 4294967296) : Calls Tryz.prog 36 #[.pointer (some ⟨b, 12, none⟩), .int .u32 x] w fun e w' => e = .returned (.tuple #[]) ∧ ∃ g, Reach w G w' (G.b1 g (G.l1 ++ be32 x) w.heap.size) := by subst hb; exact h.to1 (putBE32_any _ _ _ _ x _ h.e1 hl hx)
theorem WI.be32i_1 {w : World} {G : Gh} (h : WI w G) {b : Nat} (hb : G.wb = b) (x : Nat) (hl : G.l1.length < 1000000000) (hx : x < 4294967296) : Calls Tryz.prog 38 #[.pointer (some ⟨b, 12, none⟩), .int .i64 x] w fun e w' => e = .returned (.tuple #[]) ∧ ∃ g, Reach w G w' (G.b1 g (G.l1 ++ be32 x) w.heap.size) := by subst hb; exact h.to1 (putBE32int_any _ _ _ _ x _ h.e1 hl hx)
theorem WI.be32i_2 {w : World} {G : Gh} (h : WI w G) {b : Nat} (hb : G.wb = b) (x : Nat) (hl : G.l2.length < 1000000000) (hx : x < 4294967296) : Calls Tryz.prog 38 #[.pointer (some ⟨b, 23, none⟩), .int .i64 x] w fun e w' => e = .returned (.tuple #[]) ∧ ∃ g, Reach w G w' (G.b2 g (G.l2 ++ be32 x) w.heap.size) := by subst hb; exact h.to2 (putBE32int_any _ _ _ _ x _ h.e2 hl hx)
theorem WI.be64_1 {w : World} {G : Gh} (h : WI w G) {b : Nat} (hb : G.wb = b) (x : Nat) (hl : G.l1.length < 1000000000) (hx : x < 18446744073709551616) : Calls Tryz.prog 37 #[.pointer (some ⟨b, 12, none⟩), .int .u64 x] w fun e w' => e = .returned (.tuple #[]) ∧ ∃ g, Reach w G w' (G.b1 g (G.l1 ++ Lib.beBytes 8 x) w.heap.size) := by subst hb; exact h.to1 (putBE64_any _ _ _ _ x _ h.e1 hl hx)
theorem WI.hash1 {w : World} {G : Gh} (h : WI w G) {b : Nat} (hb : G.wb = b) {d : Nat} (hd : G.dg = d) (hl : G.l1.length < 100000000) : Calls Tryz.prog 64 #[.pointer (some ⟨b, 12, none⟩), .iface 284 (.pointer (some ⟨d, 0, none⟩))] w fun e w' => e = .returned (.tuple #[]) ∧ ∃ k : List UInt8, k.length = 4 ∧ ∃ g, Reach w G w' (G.b1 g (G.l1 ++ k) w.heap.size) := by subst hb; subst hd; exact h.toh1 (putHash_any _ _ _ _ _ _ _ h.e1 h.d h.ap1 hl)
theorem WI.hash2 {w : World} {G : Gh} (h : WI w G) {b : Nat} (hb : G.wb = b) {d : Nat} (hd : G.dg = d) (hl : G.l2.length < 100000000) : Calls Tryz.prog 64 #[.pointer (some ⟨b, 23, none⟩), .iface 284 (.pointer (some ⟨d, 0, none⟩))] w fun e w' => e = .returned (.tuple #[]) ∧ ∃ k : List UInt8, k.length = 4 ∧ ∃ g, Reach w G w' (G.b2 g (G.l2 ++ k) w.heap.size) := by subst hb; subst hd; exact h.toh2 (putHash_any _ _ _ _ _ _ _ h.e2 h.d h.ap2 hl)
theorem WI.sum1 {w : World} {G : Gh} (h : WI w G) {b : Nat} (hb : G.wb = b) {d : Nat} (hd : G.dg = d) (hl : G.l1.length < 100000000) : Calls Tryz.prog 106 #[.pointer (some ⟨b, 12, none⟩), .iface 284 (.pointer (some ⟨d, 0, none⟩))] w fun e w' => e = .returned (.tuple #[]) ∧ ∃ k : List UInt8, k.length = 4 ∧ ∃ g, Reach w G w' (G.b1 g (G.l1 ++ k) w.heap.size) := by subst hb; subst hd; exact h.tos1 (putHashSum_any _ _ _ _ _ _ _ h.e1 h.d hl)
theorem WI.wth1 {w : World} {G : Gh} (h : WI w G) {b : Nat} (hb : G.wb = b) {d : Nat} (hd : G.dg = d) (hl : G.l1.length < 100000000) : Calls Tryz.prog 105 #[.pointer (some ⟨b, 12, none⟩), .iface 284 (.pointer (some ⟨d, 0, none⟩))] w fun e w' => e = .returned (.tuple #[]) ∧ Reach w G w' G := by subst hb; subst hd; exact h.tod (writeToHash_any _ _ _ _ _ _ _ h.e1 h.d hl)
theorem WI.dreset {w : World} {G : Gh} (h : WI w G) {d : Nat} (hd : G.dg = d) : Calls Tryz.prog 287 #[.pointer (some ⟨d, 0, none⟩)] w fun e w' => e = .returned (.tuple #[]) ∧ Reach w G w' G := by subst hd; exact h.tod (dReset_any _ _ _ h.d)

/-- What write leaves. -/
theorem WI.tow {w : World} {G : Gh} (h : WI w G) (hm : G.zm = false) {f : Nat} {xs : Array Value} {k : List UInt8} (hc : Calls Tryz.prog f xs w fun e w' => e = .returned .nilIface ∧ Wr w G.fb G.gf G.lf.length (G.lf ++ k) w') :
    Calls Tryz.prog f xs w fun e w' => e = .returned .nilIface ∧ ∃ g, Reach w G w' (G.ff g (G.lf ++ k) w.heap.size) := hc.mono (fun _ _ ⟨a, b⟩ => ⟨a, h.wrfr b hm⟩)

/-- buf1's first cell. -/
theorem WI.v1 {w : World} {G : Gh} (h : WI w G) : ∃ ao n c, w.cell? ⟨G.wb, 12, none⟩ = some (.slice ao n c) ∧ Hid (n = G.l1.length) := by
  obtain ⟨v, hv, hb⟩ := h.e1.b
  obtain ⟨ao, c, rfl⟩ := own_slice hb.1
  exact ⟨_, _, _, hv, Lib.hid rfl⟩
theorem WI.v2 {w : World} {G : Gh} (h : WI w G) : ∃ ao n c, w.cell? ⟨G.wb, 23, none⟩ = some (.slice ao n c) ∧ Hid (n = G.l2.length) := by
  obtain ⟨v, hv, hb⟩ := h.e2.b
  obtain ⟨ao, c, rfl⟩ := own_slice hb.1
  exact ⟨_, _, _, hv, Lib.hid rfl⟩

/-- w.write(w.buf1.Get()), behind the slice that is laid for it. -/
theorem WI.write1 {w : World} {G : Gh} (h : WI w G) {b : Nat} (hb : G.wb = b) {v : Value} (hv : w.cell? ⟨b, 12, none⟩ = some v) (hl : G.lf.length + G.l1.length < 1000000000) (hm : G.zm = false) :
    Calls Tryz.prog 56 #[.pointer (some ⟨b, 0, none⟩), .slice (some ⟨w.heap.size, 0, none⟩) 1 1] (w.alloc (.cells #[v] 27)) fun e w' => e = .returned .nilIface ∧ ∃ g n, Reach w G w' (G.ff g (G.lf ++ G.l1) n) := by
  subst hb
  obtain ⟨ao, n, c, hv', _, hrd⟩ := h.rd1
  obtain rfl : v = .slice ao n c := by rw [hv] at hv'; exact Option.some.inj hv'
  have ha := h.alloc (.cells #[.slice ao n c] 27)
  refine (ha.tow hm (wWrite_any G.wb G.fb w.heap.size 0 1 1 G.gf G.lf [G.l1] _ (ha.fld 0 (by decide) (by decide) ha.c0) ha.f (rows_one h.f (hrd G.fb G.gf 2 11 h.t2 (by decide) h.t11 (by decide))) rfl (by decide) (by simpa using hl))).mono ?_
  rintro e w' ⟨he, g, r⟩
  have r' := ((Reach.refl h).alloc _).trans r
  rw [show [G.l1].flatten = G.l1 by simp] at r'
  exact ⟨he, g, _, r'⟩

/-- w.write(w.buf1.Get(), w.buf2.Get()), behind the slice that is laid for it. -/
theorem WI.write12 {w : World} {G : Gh} (h : WI w G) {b : Nat} (hb : G.wb = b) {v v' : Value} (hv : w.cell? ⟨b, 12, none⟩ = some v) (hv2 : w.cell? ⟨b, 23, none⟩ = some v') (hl : G.lf.length + (G.l1.length + G.l2.length) < 1000000000) (hm : G.zm = false) :
    Calls Tryz.prog 56 #[.pointer (some ⟨b, 0, none⟩), .slice (some ⟨w.heap.size, 0, none⟩) 2 2] (w.alloc (.cells #[v, v'] 27)) fun e w' => e = .returned .nilIface ∧ ∃ g n, Reach w G w' (G.ff g (G.lf ++ (G.l1 ++ G.l2)) n) := by
  subst hb
  obtain ⟨ao, n, c, hw, _, hrd⟩ := h.rd1
  obtain ⟨ao2, n2, c2, hw2, _, hrd2⟩ := h.rd2
  obtain rfl : v = .slice ao n c := by rw [hv] at hw; exact Option.some.inj hw
  obtain rfl : v' = .slice ao2 n2 c2 := by rw [hv2] at hw2; exact Option.some.inj hw2
  have ha := h.alloc (.cells #[.slice ao n c, .slice ao2 n2 c2] 27)
  refine (ha.tow hm (wWrite_any G.wb G.fb w.heap.size 0 2 2 G.gf G.lf [G.l1, G.l2] _ (ha.fld 0 (by decide) (by decide) ha.c0) ha.f (rows_two h.f (hrd G.fb G.gf 2 11 h.t2 (by decide) h.t11 (by decide)) (hrd2 G.fb G.gf 2 11 h.t2 (by decide) h.t11 (by decide))) rfl (by decide) (by simpa using hl))).mono ?_
  rintro e w' ⟨he, g, r⟩
  have r' := ((Reach.refl h).alloc _).trans r
  rw [show [G.l1, G.l2].flatten = G.l1 ++ G.l2 by simp] at r'
  exact ⟨he, g, _, r'⟩

/-- Bytes of the main file are written over. -/
theorem WI.wraf {w w' : World} {G : Gh} {l : List UInt8} {P : Nat → Nat → Prop} (h : WI w G) (he : FW w' G.fb G.gf l) (hk : Kept P w w') (hP : ∀ i o, P i o → G.gf = some i ∧ G.wn ≤ o) (hl : G.wn ≤ l.length) (hm : G.zm = false) : Reach w G w' (G.ff G.gf l w.heap.size) := by
  have hT : Tou w G P (fun _ => False) (fun s => s = 11) := fun k o _ hp => .inr ⟨h.t11 k (hP k o hp).1, by rw [h.t11 k (hP k o hp).1]; decide⟩
  have ow : ∀ {k}, k < w.heap.size → G.own G.gf w.heap.size 11 k = G.T k := fun hk => G.own_old _ _ _ hk
  exact ⟨⟨h.k_e1 hk hT (fun j hj => id) (by decide), h.k_e2 hk hT (fun j hj => id) (by decide), he, h.k_p hk hT (by decide) (by decide), h.k_o hk hT (by decide) (by decide), h.k_d hk hT (by decide) (by decide), h.k_s hk hT (by decide), h.k_l hk hT (by decide),
    h.k_c hk hT (fun i hi => id), h.k_fr hk, (ow h.e1.lt).trans h.t1, (ow h.f.lt).trans h.t2, (ow h.p.lt).trans h.t3, (ow h.o.lt).trans h.t4, (ow h.d.lt).trans h.t5, (ow h.d.ltb).trans h.t6, (ow (ownsMap_lt h.s)).trans h.t7, (ow (ownsMap_lt h.l)).trans h.t8,
    own_keep h.t9 h.gl1, own_keep h.t10 h.gl2, own_mv (.inl rfl) h.t11 h.f.gl, own_keep h.t12 h.p.gl, own_keep h.t13 h.o.gl, h.c0, h.c44, h.c38, h.c40, hl⟩, ⟨fun k hk => ow hk, rfl, rfl, rfl, rfl, rfl, rfl, rfl, rfl, Nat.le_refl _, rfl, rfl⟩, wi_of_tou h hk hT (by decide), ⟨fun b o hb _ ho => hk.cell _ _ hb (fun hp => by have := (hP b o hp).2; omega), (fun e => by rw [hm] at e; cases e), fun _ b hb ht => hk.block _ hb (fun o => hT.no h hb ht (by decide) (by decide) o)⟩⟩

/-- w.writeAt(w.buf1.Get(), p). -/
theorem WI.writeAt1 {w : World} {G : Gh} (h : WI w G) {b : Nat} (hb : G.wb = b) (p : Nat) {v : Value} (hv : w.cell? ⟨b, 12, none⟩ = some v) (hk0 : 0 < G.l1.length) (hp : p + G.l1.length ≤ G.lf.length) (hl : G.lf.length < 1000000000) (hw : G.wn ≤ p) (hm : G.zm = false) :
    Calls Tryz.prog 126 #[.pointer (some ⟨b, 0, none⟩), v, .int .u64 p] w fun e w' => e = .returned .nilIface ∧ ∃ n, Reach w G w' (G.ff G.gf (spl G.lf p G.l1) n) := by
  subst hb
  obtain ⟨v', hv', hb⟩ := h.e1.b
  obtain rfl : v = v' := by rw [hv] at hv'; exact Option.some.inj hv'
  rcases hb.form with ⟨rfl, hg, hn⟩ | ⟨b, cap, rfl, hg, hle, hcm⟩
  · rw [hn] at hk0; simp at hk0
  · refine (wWriteAt_any G.wb G.fb p cap G.gf G.lf G.l1 ⟨b, 0, none⟩ w (h.fld 0 (by decide) (by decide) h.c0) h.f hk0 hp hl (fun j u hj => ?_)).mono ?_
    · rw [Addr.add_lit, Nat.zero_add]
      exact (hg ▸ hb : Bf w _ (some b) G.l1).cells j u hj
    · rintro e w' ⟨he, h1, h2⟩
      exact ⟨he, _, h.wraf h1 h2 (fun i o hp => ⟨hp.1, by omega⟩) (by rw [spl_length _ _ _ hp]; exact h.wn) hm⟩

/-- More of the main file is held. -/
def Gh.hold (G : Gh) (n : Nat) : Gh := { G with wn := n }
theorem WI.holdr {w : World} {G : Gh} (h : WI w G) (n : Nat) (h0 : G.wn ≤ n) (h1 : n ≤ G.lf.length) : Reach w G w (G.hold n) :=
  ⟨⟨h.e1, h.e2, h.f, h.p, h.o, h.d, h.s, h.l, h.c, h.fr, h.t1, h.t2, h.t3, h.t4, h.t5, h.t6, h.t7, h.t8, h.t9, h.t10, h.t11, h.t12, h.t13, h.c0, h.c44, h.c38, h.c40, h1⟩, ⟨fun _ _ => rfl, rfl, rfl, rfl, rfl, rfl, rfl, rfl, rfl, h0, rfl, rfl⟩, Kept.refl _ _, Hp.refl _ _⟩

/-- A new block that is nobody's. -/
def Gh.free (G : Gh) (n : Nat) : Gh := { G with T := fun k => if k = n then 0 else G.T k }
theorem WI.freer {w : World} {G : Gh} (h : WI w G) (o : Obj) : Reach w G (w.alloc o) (G.free w.heap.size) := by
  have ha := h.alloc o
  have hT : ∀ {k}, k < w.heap.size → (G.free w.heap.size).T k = G.T k := fun {k} hk => if_neg (Nat.ne_of_lt hk)
  exact ⟨⟨ha.e1, ha.e2, ha.f, ha.p, ha.o, ha.d, ha.s, ha.l, ha.c, ha.fr, (hT h.e1.lt).trans h.t1, (hT h.f.lt).trans h.t2, (hT h.p.lt).trans h.t3, (hT h.o.lt).trans h.t4, (hT h.d.lt).trans h.t5, (hT h.d.ltb).trans h.t6, (hT (ownsMap_lt h.s)).trans h.t7, (hT (ownsMap_lt h.l)).trans h.t8,
    fun k hk => (hT (h.gl1 k hk)).trans (h.t9 k hk), fun k hk => (hT (h.gl2 k hk)).trans (h.t10 k hk), fun k hk => (hT (h.f.gl k hk)).trans (h.t11 k hk), fun k hk => (hT (h.p.gl k hk)).trans (h.t12 k hk), fun k hk => (hT (h.o.gl k hk)).trans (h.t13 k hk), h.c0, h.c44, h.c38, h.c40, h.wn⟩,
    ⟨fun k hk => hT hk, rfl, rfl, rfl, rfl, rfl, rfl, rfl, rfl, Nat.le_refl _, rfl, rfl⟩, Kept.alloc _ _ _, Hp.none _ (Kept.alloc _ _ _)⟩
theorem Gh.free_T (G : Gh) (n : Nat) : (G.free n).T n = 0 := if_pos rfl

/-- A field of the Writer's behind some steps. -/
theorem Reach.fld {w w' : World} {G G' : Gh} (r : Reach w G w' G') (i : Nat) {v : Value} (hv : G'.cs i = v) (hi : i < 47) (hr : i < 12 ∨ 33 < i) : w'.cell? ⟨G.wb, i, none⟩ = some v := by
  rw [← r.nx.wb]; exact r.wi.fld i hi hr hv
theorem Reach.fr {w w' : World} {G G' : Gh} (r : Reach w G w' G') (i : Nat) (hi : i < 47) : w'.frozen? ⟨G.wb, i, none⟩ = false := by
  rw [← r.nx.wb]; exact r.wi.fr i hi
/-- .. is stored. -/
theorem Reach.set {w w' : World} {G G' : Gh} (r : Reach w G w' G') (i : Nat) (v : Value) (hi : i < 47) (hr : i < 12 ∨ 33 < i) (h0 : i ≠ 0) (h1 : i ≠ 44) (h2 : i ≠ 38) (h3 : i ≠ 40) : Reach w G (w'.setCell ⟨G.wb, i, none⟩ v) (G'.st i v) := by
  rw [← r.nx.wb]; exact r.trans (r.wi.setr i v hi hr h0 h1 h2 h3)
theorem Reach.v1 {w w' : World} {G G' : Gh} (r : Reach w G w' G') : ∃ ao n c, w'.cell? ⟨G.wb, 12, none⟩ = some (.slice ao n c) ∧ Hid (n = G'.l1.length) := by
  rw [← r.nx.wb]; exact r.wi.v1
theorem Reach.v2 {w w' : World} {G G' : Gh} (r : Reach w G w' G') : ∃ ao n c, w'.cell? ⟨G.wb, 23, none⟩ = some (.slice ao n c) ∧ Hid (n = G'.l2.length) := by
  rw [← r.nx.wb]; exact r.wi.v2
theorem Reach.pos {w w' : World} {G G' : Gh} (r : Reach w G w' G') : w'.cell? ⟨G.fb, 1, none⟩ = some (.int .u64 G'.lf.length) := by
  rw [← r.nx.fb]; exact r.wi.f.p

end Go.Proofs.YtfipfoplmopkaaaGreatDoor

namespace Go.Proofs.YtfipfoplmopkaaaGreatDoor
open Go.RowKit Go.Maps

theorem wf_u32 {n : Nat} (h : n < 4294967296) : (Lit.int .u32 (n : Int)).wf = true := by
  have h1 : IntKind.u32.min = 0 := rfl
  have h2 : IntKind.u32.max = 4294967295 := rfl
  simp [Lit.wf, h1, h2]; omega

/-- errors.New. -/
theorem errNew_any (s : ByteArray) (w : World) : Calls Tryz.prog 54 #[.string s] w fun e w' => ∃ t v, e = .returned (.iface t v) ∧ Kept (fun _ _ => False) w w' := by
  go_enter Tryz.func54, Tryz.ntmps54
  go_wp2
  go_ret
  exact ⟨_, _, rfl, Kept.alloc _ _ _⟩

set_option maxRecDepth 100000 in
set_option maxHeartbeats 1000000 in
theorem addSym_bad (w : World) (G : Gh) (s : ByteArray) (h : WI w G) (hs : G.cs 10 = .int .u8 1) (n : Nat) (hn : G.cs 34 = .int .i64 n) (z : ByteArray) (hz : G.cs 37 = .string z)
    (h0 : ((n : Int) != 0) = true) (hb : (Op.bytesLess s.toList z.toList || s.toList == z.toList) = true) :
    Calls Tryz.prog 22 #[.pointer (some ⟨G.wb, 0, none⟩), .string s] w fun e w' => ∃ t v, e = .returned (.iface t v) ∧ Kept (wiP G) w w' := by
  have f10 := h.fld 10 (by decide) (by decide) hs
  have f34 := h.fld 34 (by decide) (by decide) hn
  have f37 := h.fld 37 (by decide) (by decide) hz
  clear h
  go_enter Tryz.func22, Tryz.ntmps22
  go_wp2_with fail
  refine (ens_same w G.wb 1 f10).mono ?_
  rintro e w1 ⟨rfl, rfl⟩
  go_wp2_with fail
  refine (errNew_any _ _).mono ?_
  rintro e w1 ⟨t, v, rfl, hk⟩
  have HK := Lib.hid hk
  clear hk
  go_wp2
  go_ret
  exact ⟨t, v, rfl, HK.out.mono (fun _ _ _ => False.elim)⟩

def AddSymR (G : Gh) (s : ByteArray) (n : Nat) (G' : Gh) : Prop :=
  G'.lf = G.lf ++ (Lib.uvarint s.size ++ sB s) ∧ G'.cs = (fun j => if j = 34 then .int .i64 (n + 1) else if j = 37 then .string s else G.cs j) ∧ G'.lp = G.lp ∧ G'.lo = G.lo ∧ G'.ns = G.ns + 1 ∧ G'.S = G.S.put (.string s.data.toList) (.lit (.int .u32 n)) ∧ G'.nl = G.nl ∧ G'.L = G.L

set_option maxRecDepth 100000 in
set_option maxHeartbeats 1000000 in
theorem addSym_good0 (w : World) (G : Gh) (s : ByteArray) (h : WI w G) (hs : G.cs 10 = .int .u8 1) (hm : G.zm = false) (hl : G.lf.length < 100000000) (n : Nat) (hn : G.cs 34 = .int .i64 n) (hn32 : n < 100000) (z : ByteArray) (hz : G.cs 37 = .string z)
    (hss : s.size < 10000) (hns : G.ns < 100000)
    (h0 : ((n : Int) != 0) = false) :
    Calls Tryz.prog 22 #[.pointer (some ⟨G.wb, 0, none⟩), .string s] w fun e w' => e = .returned .nilIface ∧ Aft w G w' (AddSymR G s n) := by
  have H := Lib.hid h
  have HL := Lib.hid hl
  have f10 := h.fld 10 (by decide) (by decide) hs
  have f34 := h.fld 34 (by decide) (by decide) hn
  have f37 := h.fld 37 (by decide) (by decide) hz
  have f38 := h.fld 38 (by decide) (by decide) h.c38
  have g37 := h.fr 37 (by decide)
  have g34 := h.fr 34 (by decide)
  have R1 := Lib.hid (h.setr 37 (.string s) (by decide) (by decide) (by decide) (by decide) (by decide) (by decide))
  have HNS := Lib.hid hns
  have HSS := Lib.hid hss
  clear h hl hns hss
  go_enter Tryz.func22, Tryz.ntmps22
  go_wp2_with fail
  refine (ens_same w G.wb 1 f10).mono ?_
  rintro e w1 ⟨rfl, rfl⟩
  go_wp2
  clear f10 f34 f37 f38 g37 g34
  generalize w.setCell { block := G.wb, off := 37 } (Value.string s) = w1 at R1 ⊢
  have f38' : w1.cell? ⟨G.wb, 38, none⟩ = some (.map (some G.sm)) := R1.out.wi.fld 38 (by decide) (by decide) R1.out.wi.c38
  have f34' : w1.cell? ⟨G.wb, 34, none⟩ = some (.int .i64 n) := R1.out.wi.fld 34 (by decide) (by decide) (v := .int .i64 n) hn
  go_still_tail 10, (by kernel_rfl)
  have R2 := Lib.hid R1.out.drew
  have hwf : (plainElem (H := Unit) Tryz.prog 94) (.int .u32 (IntKind.u32.wrap n)) = some (.lit (.int .u32 n), []) := by
    rw [show IntKind.u32.wrap (n : Int) = n by simp [IntKind.wrap, IntKind.signed, IntKind.bits]; omega]
    exact plainElem_int Tryz.underlying94 (wf_u32 (by omega))
  go_wp2_with (at_mapUpdate; refine wpList_mapUpdate_in _ rfl _ _ _ 114 rfl 9 94 keyS Tryz.underlying114 (plainElem Tryz.prog 94) G.sm G.ns G.S rfl R2.out.wi.s (by have := HNS.out; unfold maxLen; omega) _ _ (.string s.data.toList) rfl rfl (WideMaps.keyOf_string_mk Tryz.underlying9 (by have := HSS.out; unfold maxLen; omega)) (.lit (.int .u32 n)) [] hwf ?_)
  intro w3 ho ht
  have R3 := Lib.hid (R2.out.trans (R2.out.wi.symr ho ht))
  have f34'' : w3.cell? ⟨G.wb, 34, none⟩ = some (.int .i64 n) := R3.out.wi.fld 34 (by decide) (by decide) (v := .int .i64 n) hn
  have g34' : w3.frozen? ⟨G.wb, 34, none⟩ = false := R3.out.wi.fr 34 (by decide)
  have R4 := Lib.hid (R3.out.set 34 (.int .i64 (n + 1)) (by decide) (by decide) (by decide) (by decide) (by decide) (by decide))
  clear ho ht f38' hwf f34'
  go_wp2_with fail
  refine (R4.out.wi.reset1 R4.out.nx.wb).mono ?_
  rintro e w5 ⟨rfl, g5, r5⟩
  have R5 := Lib.hid (R4.out.trans r5)
  clear r5
  go_wp2_with fail
  refine (R5.out.wi.str1 R5.out.nx.wb s (by simp [Gh.b1]) (by have := HSS.out; omega)).mono ?_
  rintro e w6 ⟨rfl, g6, r6⟩
  have R6 := Lib.hid (R5.out.trans r6)
  clear r6
  obtain ⟨ao, m, c, HV, _⟩ := R6.out.v1
  clear f34'' g34'
  go_wp2_with (go_at_call 49; refine (get_any G.wb 12 _ w6 HV).mono ?_; rintro e w' ⟨rfl, rfl⟩)
  have hu := Lib.uvarint_length64 (x := s.size) (by have := HSS.out; omega)
  have HU := Lib.hid hu
  clear hu
  refine (R6.out.wi.write1 R6.out.nx.wb HV ?_ (R6.out.nx.zm.trans hm)).mono ?_
  · have := HL.out; have := HU.out; have := HSS.out
    simp [Gh.b1, Gh.st, Gh.sy]; omega
  rintro e w7 ⟨rfl, g7, n7, r7⟩
  have R7 := Lib.hid (R6.out.trans r7)
  clear r7
  go_wp2
  go_ret
  refine ⟨rfl, _, R7.out, ?_⟩
  simp [AddSymR, Gh.ff, Gh.b1, Gh.st, Gh.sy]

set_option maxRecDepth 100000 in
set_option maxHeartbeats 1000000 in
theorem addSym_good1 (w : World) (G : Gh) (s : ByteArray) (h : WI w G) (hs : G.cs 10 = .int .u8 1) (hm : G.zm = false) (hl : G.lf.length < 100000000) (n : Nat) (hn : G.cs 34 = .int .i64 n) (hn32 : n < 100000) (z : ByteArray) (hz : G.cs 37 = .string z)
    (hss : s.size < 10000) (hns : G.ns < 100000)
    (h0 : ((n : Int) != 0) = true) (hb : (Op.bytesLess s.toList z.toList || s.toList == z.toList) = false) :
    Calls Tryz.prog 22 #[.pointer (some ⟨G.wb, 0, none⟩), .string s] w fun e w' => e = .returned .nilIface ∧ Aft w G w' (AddSymR G s n) := by
  have H := Lib.hid h
  have HL := Lib.hid hl
  have f10 := h.fld 10 (by decide) (by decide) hs
  have f34 := h.fld 34 (by decide) (by decide) hn
  have f37 := h.fld 37 (by decide) (by decide) hz
  have f38 := h.fld 38 (by decide) (by decide) h.c38
  have g37 := h.fr 37 (by decide)
  have g34 := h.fr 34 (by decide)
  have R1 := Lib.hid (h.setr 37 (.string s) (by decide) (by decide) (by decide) (by decide) (by decide) (by decide))
  have HNS := Lib.hid hns
  have HSS := Lib.hid hss
  clear h hl hns hss
  go_enter Tryz.func22, Tryz.ntmps22
  go_wp2_with fail
  refine (ens_same w G.wb 1 f10).mono ?_
  rintro e w1 ⟨rfl, rfl⟩
  go_wp2
  clear f10 f34 f37 f38 g37 g34
  generalize w.setCell { block := G.wb, off := 37 } (Value.string s) = w1 at R1 ⊢
  have f38' : w1.cell? ⟨G.wb, 38, none⟩ = some (.map (some G.sm)) := R1.out.wi.fld 38 (by decide) (by decide) R1.out.wi.c38
  have f34' : w1.cell? ⟨G.wb, 34, none⟩ = some (.int .i64 n) := R1.out.wi.fld 34 (by decide) (by decide) (v := .int .i64 n) hn
  go_still_tail 10, (by kernel_rfl)
  have R2 := Lib.hid R1.out.drew
  have hwf : (plainElem (H := Unit) Tryz.prog 94) (.int .u32 (IntKind.u32.wrap n)) = some (.lit (.int .u32 n), []) := by
    rw [show IntKind.u32.wrap (n : Int) = n by simp [IntKind.wrap, IntKind.signed, IntKind.bits]; omega]
    exact plainElem_int Tryz.underlying94 (wf_u32 (by omega))
  go_wp2_with (at_mapUpdate; refine wpList_mapUpdate_in _ rfl _ _ _ 114 rfl 9 94 keyS Tryz.underlying114 (plainElem Tryz.prog 94) G.sm G.ns G.S rfl R2.out.wi.s (by have := HNS.out; unfold maxLen; omega) _ _ (.string s.data.toList) rfl rfl (WideMaps.keyOf_string_mk Tryz.underlying9 (by have := HSS.out; unfold maxLen; omega)) (.lit (.int .u32 n)) [] hwf ?_)
  intro w3 ho ht
  have R3 := Lib.hid (R2.out.trans (R2.out.wi.symr ho ht))
  have f34'' : w3.cell? ⟨G.wb, 34, none⟩ = some (.int .i64 n) := R3.out.wi.fld 34 (by decide) (by decide) (v := .int .i64 n) hn
  have g34' : w3.frozen? ⟨G.wb, 34, none⟩ = false := R3.out.wi.fr 34 (by decide)
  have R4 := Lib.hid (R3.out.set 34 (.int .i64 (n + 1)) (by decide) (by decide) (by decide) (by decide) (by decide) (by decide))
  clear ho ht f38' hwf f34'
  go_wp2_with fail
  refine (R4.out.wi.reset1 R4.out.nx.wb).mono ?_
  rintro e w5 ⟨rfl, g5, r5⟩
  have R5 := Lib.hid (R4.out.trans r5)
  clear r5
  go_wp2_with fail
  refine (R5.out.wi.str1 R5.out.nx.wb s (by simp [Gh.b1]) (by have := HSS.out; omega)).mono ?_
  rintro e w6 ⟨rfl, g6, r6⟩
  have R6 := Lib.hid (R5.out.trans r6)
  clear r6
  obtain ⟨ao, m, c, HV, _⟩ := R6.out.v1
  clear f34'' g34'
  go_wp2_with (go_at_call 49; refine (get_any G.wb 12 _ w6 HV).mono ?_; rintro e w' ⟨rfl, rfl⟩)
  have hu := Lib.uvarint_length64 (x := s.size) (by have := HSS.out; omega)
  have HU := Lib.hid hu
  clear hu
  refine (R6.out.wi.write1 R6.out.nx.wb HV ?_ (R6.out.nx.zm.trans hm)).mono ?_
  · have := HL.out; have := HU.out; have := HSS.out
    simp [Gh.b1, Gh.st, Gh.sy]; omega
  rintro e w7 ⟨rfl, g7, n7, r7⟩
  have R7 := Lib.hid (R6.out.trans r7)
  clear r7
  go_wp2
  go_ret
  refine ⟨rfl, _, R7.out, ?_⟩
  simp [AddSymR, Gh.ff, Gh.b1, Gh.st, Gh.sy]

end Go.Proofs.YtfipfoplmopkaaaGreatDoor
