/- finishSymbols. Conditions: bounds on lengths. -/
import Derived.Test.YtfipfoplmopkaaaGreatDoorZ21
import Derived.Test.YtfipfoplmopkaaaGreatDoorZ19
import Derived.Deep.CutRange
import Derived.Deep.RegionHeld3

namespace Go.Proofs.YtfipfoplmopkaaaGreatDoor
open Go.RowKit Go.Maps

theorem Reach.f0 {w w' : World} {G G' : Gh} (r : Reach w G w' G') : w'.cell? ⟨G.wb, 0, none⟩ = some (.pointer (some ⟨G.fb, 0, none⟩)) := r.fld 0 (by rw [r.wi.c0, r.nx.fb]) (by decide) (by decide)
theorem Reach.posn {w w' : World} {G G' : Gh} (r : Reach w G w' G') {n : Nat} (hn : G'.lf.length = n) : w'.cell? ⟨G.fb, 1, none⟩ = some (.int .u64 n) := by rw [← hn]; exact r.pos

theorem spl_mid (a b c k : List UInt8) (p : Nat) (hp : a.length = p) (hk : k.length = b.length) : spl (a ++ (b ++ c)) p k = a ++ (k ++ c) := by
  subst hp
  unfold spl
  rw [List.take_left, hk, List.drop_append, List.drop_append]
  simp

/-- w.write([]byte("..")), behind the slices that are laid for it. -/
theorem WI.writeLit {w : World} {G : Gh} (h : WI w G) {b : Nat} (hb : G.wb = b) (k : List UInt8) (fr : Nat × Nat) (hl : G.lf.length + k.length < 1000000000) (hm : G.zm = false) :
    Calls Tryz.prog 56 #[.pointer (some ⟨b, 0, none⟩), .slice (some ⟨w.heap.size + 1, 0, none⟩) 1 1] ((w.alloc (.cells (bVs k).toArray 5 fr)).alloc (.cells #[.slice (some ⟨w.heap.size, 0, none⟩) k.length k.length] 27)) fun e w' => e = .returned .nilIface ∧ ∃ g n, Reach w G w' (G.ff g (G.lf ++ k) n) := by
  subst hb
  have ha := h.alloc (.cells (bVs k).toArray 5 fr)
  have hb := ha.alloc (.cells #[.slice (some ⟨w.heap.size, 0, none⟩) k.length k.length] 27)
  have hr := rows_one ha.f (lit_rd h.f k fr)
  rw [show (w.alloc (.cells (bVs k).toArray 5 fr)).heap.size = w.heap.size + 1 by simp] at hr
  refine (hb.tow hm (wWrite_any G.wb G.fb (w.heap.size + 1) 0 1 1 G.gf G.lf [k] _ (hb.fld 0 (by decide) (by decide) hb.c0) hb.f hr rfl (by decide) (by simpa using hl))).mono ?_
  rintro e w' ⟨he, g, r⟩
  have r' := (((Reach.refl h).alloc _).alloc _).trans r
  rw [show [k].flatten = k by simp] at r'
  exact ⟨he, g, _, r'⟩

/-- The main file's bytes. -/
theorem Reach.file {w w' : World} {G G' : Gh} (r : Reach w G w' G') (hn : 0 < G'.lf.length) : ∃ b cap, w'.cell? ⟨G.fb, 0, none⟩ = some (.slice (some ⟨b, 0, none⟩) G'.lf.length cap) ∧ G'.lf.length ≤ cap ∧ G'.gf = some b ∧ (∀ j u, G'.lf[j]? = some u → w'.cell? ⟨b, 0 + j, none⟩ = some (bV u)) ∧ G'.T b = 11 := by
  rw [← r.nx.fb]
  obtain ⟨v, hv, hb⟩ := r.wi.f.b
  rcases hb.form with ⟨_, _, h0⟩ | ⟨b, cap, rfl, hg, hle, _⟩
  · rw [h0] at hn; cases hn
  · exact ⟨b, cap, hv, hle, hg, fun j u hj => by rw [Nat.zero_add]; exact (hg ▸ hb : Bf w' _ (some b) G'.lf).cells j u hj, r.wi.t11 b hg⟩

theorem zzOpen_any (fb b n c : Nat) (w : World) (h : w.cell? ⟨fb, 0, none⟩ = some (.slice (some ⟨b, 0, none⟩) n c)) :
    Calls Tryz.prog 127 #[.pointer (some ⟨fb, 0, none⟩)] w fun e w' => e = .returned (.tuple #[.pointer (some ⟨w.heap.size, 0, none⟩), .nilIface]) ∧ w' = w.alloc (.cells #[.slice (some ⟨b, 0, none⟩) n c] 251) := by
  go_enter Tryz.func127, Tryz.ntmps127
  go_wp2
  go_ret2
  exact ⟨rfl, rfl⟩
theorem zzBytes_any (sf b n c : Nat) (w : World) (h : w.cell? ⟨sf, 0, none⟩ = some (.slice (some ⟨b, 0, none⟩) n c)) :
    Calls Tryz.prog 129 #[.pointer (some ⟨sf, 0, none⟩)] w fun e w' => e = .returned (.slice (some ⟨b, 0, none⟩) n c) ∧ w = w' := by
  go_enter Tryz.func129, Tryz.ntmps129
  go_wp2
  go_ret
  exact ⟨rfl, rfl⟩

/-- New blocks that are nobody's. -/
def Gh.news (G : Gh) (n : Nat) : Gh := { G with T := fun k => if n ≤ k then 0 else G.T k }
theorem Gh.news_T (G : Gh) {n k : Nat} (h : n ≤ k) : (G.news n).T k = 0 := if_pos h
theorem WI.newsr {w w' : World} {G : Gh} (h : WI w G) (hk : Kept (fun k _ => w.heap.size ≤ k) w w') : Reach w G w' (G.news w.heap.size) := by
  have hk0 : Kept (fun _ _ => False) w w' := hk.mono (fun i o hi (hP : w.heap.size ≤ i) => by omega)
  have ha := h.kept hk0 (fun _ _ _ => False.elim)
  have hT : ∀ {k}, k < w.heap.size → (G.news w.heap.size).T k = G.T k := fun {k} hk => if_neg (by omega)
  exact ⟨⟨ha.e1, ha.e2, ha.f, ha.p, ha.o, ha.d, ha.s, ha.l, ha.c, ha.fr, (hT h.e1.lt).trans h.t1, (hT h.f.lt).trans h.t2, (hT h.p.lt).trans h.t3, (hT h.o.lt).trans h.t4, (hT h.d.lt).trans h.t5, (hT h.d.ltb).trans h.t6, (hT (ownsMap_lt h.s)).trans h.t7, (hT (ownsMap_lt h.l)).trans h.t8,
    fun k hk => (hT (h.gl1 k hk)).trans (h.t9 k hk), fun k hk => (hT (h.gl2 k hk)).trans (h.t10 k hk), fun k hk => (hT (h.f.gl k hk)).trans (h.t11 k hk), fun k hk => (hT (h.p.gl k hk)).trans (h.t12 k hk), fun k hk => (hT (h.o.gl k hk)).trans (h.t13 k hk), h.c0, h.c44, h.c38, h.c40, h.wn⟩,
    ⟨fun k hk => hT hk, rfl, rfl, rfl, rfl, rfl, rfl, rfl, rfl, Nat.le_refl _, rfl, rfl⟩, hk0.mono (fun _ _ _ => False.elim), Hp.none _ hk0⟩

theorem SY.kept {A B P : Nat → Prop} {w w' : World} {sb b p n c : Nat} {ss : List ByteArray} {j : Nat} (h : SY A w sb b p n c ss j) (hk : Kept (fun k _ => P k) w w') (hs : ¬ P sb) (hA : ∀ k, A k → ¬ P k) (hB : ∀ k, A k → k < w.heap.size → B k) : SY B w' sb b p n c ss j := by
  have hl : sb < w.heap.size := World.block_lt_of_cell? _ _ h.c4
  obtain ⟨v, h1, h2, h3⟩ := h.c3
  exact ⟨(hk.cell _ _ hl hs).trans h.c0, (hk.cell _ _ hl hs).trans h.c1, ⟨v, (hk.cell _ _ hl hs).trans h1, ownsRow_block h2 (fun k e => hk.block k (h2.lt k e).2 (fun _ => hA k (h3 k e))), fun k e => hB k (h3 k e) (h2.lt k e).2⟩,
    (hk.cell _ _ hl hs).trans h.c4, (hk.fr _ _ hl).trans h.f3, (hk.fr _ _ hl).trans h.f4, (hk.cell _ _ hl hs).trans h.c2⟩

theorem sub_cells {w : World} {b a : Nat} {A B C : List UInt8} (h : ∀ j u, (A ++ (B ++ C))[j]? = some u → w.cell? ⟨b, 0 + j, none⟩ = some (bV u)) (ha : A.length = a) : ∀ j u, B[j]? = some u → w.cell? ⟨b, a + j, none⟩ = some (bV u) := by
  intro j u hj
  have hj' : j < B.length := by
    rcases Nat.lt_or_ge j B.length with h | h
    · exact h
    · rw [List.getElem?_eq_none h] at hj; cases hj
  have := h (a + j) u (by
    rw [List.getElem?_append_right (by omega), show a + j - A.length = j by omega, List.getElem?_append_left hj']; exact hj)
  rwa [Nat.zero_add] at this

def hashL : List UInt8 := [104, 97, 115, 104]

theorem stl {f : Nat} {xs : Array Value} {w : World} {v : Value} (h : Calls Tryz.prog f xs w fun e w' => e = .returned v ∧ w = w') : Calls Tryz.prog f xs w fun e w'' => e = .returned v ∧ w'' = w := h.mono (fun _ _ ⟨a, b⟩ => ⟨a, b.symm⟩)

/-- The struct Symbols, and its row of offsets, were laid behind the world w. -/
def newRow (n : Nat) (w' : World) (sb : Nat) : Prop := n ≤ sb ∧ ∀ v k, w'.cell? ⟨sb, 3, none⟩ = some v → v.ownBlock = some k → n ≤ k
theorem newRow.blk {n : Nat} {w w' : World} {sb : Nat} (h : newRow n w sb) (hb : w'.heap[sb]? = w.heap[sb]?) : newRow n w' sb :=
  ⟨h.1, fun v k hv hk => h.2 v k ((World.cell?_of_block (a := ⟨sb, 3, none⟩) hb).symm.trans hv) hk⟩
theorem newRow.le {n m : Nat} {w : World} {sb : Nat} (h : newRow n w sb) (hm : m ≤ n) : newRow m w sb := ⟨Nat.le_trans hm h.1, fun v k hv hk => Nat.le_trans hm (h.2 v k hv hk)⟩

set_option maxRecDepth 100000 in
set_option maxHeartbeats 2000000 in
theorem finishSymbols_any (w : World) (G : Gh) (h : WI w G) (hfm : G.zm = false) (ss : List ByteArray) (pre : List UInt8) (p : Nat) (hp : pre.length = p) (hlf : G.lf = pre ++ (alenblen ++ symB ss)) (h4 : G.cs 4 = .int .u64 p) (h34 : G.cs 34 = .int .i64 ss.length) (hwn : G.wn = 0)
    (hl : G.lf.length < 10000000) (hss : ss.length < 100000) (hsz : ∀ s ∈ ss, s.size < 10000) :
    Calls Tryz.prog 94 #[.pointer (some ⟨G.wb, 0, none⟩)] w fun e w' => e = .returned .nilIface ∧ ∃ G' sb sf b c q, Reach w G w' G' ∧ G'.cs = (fun j => if j = 35 then .pointer (some ⟨sb, 0, none⟩) else if j = 36 then .pointer (some ⟨sf, 0, none⟩) else G.cs j) ∧ G'.lf = pre ++ ((be32 (4 + (symB ss).length) ++ be32 ss.length) ++ (symB ss ++ be32 q)) ∧ G'.wn = 0 ∧ G'.gf = some b
      ∧ (G'.lp = G.lp ∧ G'.lo = G.lo ∧ G'.ns = G.ns ∧ G'.S = G.S ∧ G'.nl = G.nl ∧ G'.L = G.L) ∧ SY (fun k => k ≠ sb ∧ G'.T k = 0) w' sb b p (p + 8 + (symB ss).length + 4) c ss ss.length ∧ G'.T sb = 0 ∧ p + 8 + (symB ss).length + 4 ≤ c ∧ newRow w.heap.size w' sb := by
  have HZ := Lib.hid hsz
  have HL := Lib.hid hl
  have HLF := Lib.hid hlf
  have HFM := Lib.hid hfm
  obtain ⟨N, hN⟩ : ∃ N, N = G.lf.length := ⟨_, rfl⟩
  have hNp : N = p + 8 + (symB ss).length := by rw [hN, hlf]; simp [alenblen]; omega
  rw [← hN] at hl
  have R0 := Lib.hid (Reach.refl h)
  have f0 := R0.out.fld 0 h.c0 (by decide) (by decide)
  have f4 := R0.out.fld 4 h4 (by decide) (by decide)
  have f34 := R0.out.fld 34 h34 (by decide) (by decide)
  have fp := R0.out.pos
  rw [← hN] at fp
  obtain ⟨m, hm⟩ : ∃ m, m = 4 + (symB ss).length := ⟨_, rfl⟩
  have hNm : N = p + 4 + m := by omega
  have hm4 : 4 ≤ m := by omega
  obtain ⟨cnt, hcnt⟩ : ∃ cnt, cnt = ss.length := ⟨_, rfl⟩
  rw [← hcnt] at hss f34
  have HN := Lib.hid hN
  have HM := Lib.hid hm
  have HC := Lib.hid hcnt
  have HW := Lib.hid hwn
  have HP := Lib.hid hp
  have H34 : Hid (G.cs 34 = .int .i64 cnt) := Lib.hid (by rw [h34, hcnt])
  have H4 := Lib.hid h4
  clear hfm h hsz hlf hN hNp hm hcnt h4 h34 hwn hp
  go_enter Tryz.func94, Tryz.ntmps94
  go_wp2
  go_region
  rw [show (p : Int) + 4 + m - p - 4 = m by omega]
  have R1 := Lib.hid R0.out.drew
  have i1 : ¬ (4294967295 : Int) < m := by omega
  clear f0 f4 f34 fp
  go_wp2_with fail
  refine (R1.out.wi.reset1 R1.out.nx.wb).mono ?_
  rintro e w2 ⟨rfl, g2, r2⟩
  have R2 := Lib.hid (R1.out.trans r2)
  clear r2
  go_wp2_with fail
  refine (R2.out.wi.be32i_1 R2.out.nx.wb m (by simp [Gh.b1]) (by omega)).mono ?_
  rintro e w3 ⟨rfl, g3, r3⟩
  have R3 := Lib.hid (R2.out.trans r3)
  have f34 := R3.out.fld 34 (v := .int .i64 cnt) (by simp [Gh.b1, H34.out]) (by decide) (by decide)
  clear r3
  go_wp2
  go_region_with (go_at_call 38; refine (R3.out.drew.wi.be32i_1 R3.out.nx.wb cnt (by simp [Gh.b1, be32]) (by omega)).mono ?_; rintro e w4 ⟨rfl, g4, r4⟩; have R4 := Lib.hid (R3.out.drew.trans r4); have f4 := R4.out.fld 4 (v := .int .u64 p) (by simp [Gh.b1, H4.out]) (by decide) (by decide); obtain ⟨ao, nn, cc, HV, hnn⟩ := R4.out.v1; clear r4)
  go_wp2
  have HCALL := Lib.hid (R4.out.drew.wi.writeAt1 R4.out.drew.nx.wb p (v := .slice ao nn cc) HV (by simp [Gh.b1, be32]) (by have := HN.out; simp [Gh.b1, be32]; omega) (by have := HN.out; simp [Gh.b1]; omega) (by simp [Gh.b1, HW.out]) (R4.out.drew.nx.zm.trans HFM.out))
  go_still_tail 10, (by kernel_rfl)
  still_call (stl (get_any G.wb 12 _ w4.drew HV))
  repeat still_step
  refine wpStill_nil ?_
  go_wp2_with fail
  refine HCALL.out.mono ?_
  rintro e w5 ⟨rfl, n5, r5⟩
  have R5 := Lib.hid (R4.out.drew.trans r5)
  have L5 := Lib.hid (show spl G.lf p (be32 m ++ be32 cnt) = pre ++ ((be32 m ++ be32 cnt) ++ symB ss) by rw [HLF.out]; exact spl_mid _ _ _ _ _ HP.out rfl)
  have f0 := R5.out.f0
  have fp := R5.out.posn (n := N) (by simp [Gh.ff, Gh.b1]; rw [L5.out]; have := HP.out; have := HM.out; simp [be32]; omega)
  clear r5
  have hcv := fun (w : World) (C : Array Value) (n c : Nat) => Lib.run_convert_bytes_const (P := Tryz.prog) w 27 5 C n c Tryz.underlying27 Tryz.underlying5
  go_wp2_with fail
  have hwl := R5.out.wi.writeLit R5.out.nx.wb hashL (4, 5) (by simp [Gh.ff, Gh.b1]; rw [L5.out]; have := HP.out; have := HM.out; simp [be32, hashL]; omega) (R5.out.nx.zm.trans HFM.out)
  rw [show (bVs hashL).toArray = #[.int .u8 104, .int .u8 97, .int .u8 115, .int .u8 104] from rfl, show hashL.length = 4 from rfl] at hwl
  refine hwl.mono ?_
  clear hwl
  rintro e w6 ⟨rfl, g6, n6, r6⟩
  have R6 := Lib.hid (R5.out.trans r6)
  clear r6 fp
  have f0' := R6.out.f0
  go_wp2_with fail
  refine (flush_any _ _).mono ?_
  rintro e w' ⟨rfl, rfl⟩
  obtain ⟨G6, R6', S6, W6, L6⟩ : ∃ G6, Hid (Reach w G w6 G6) ∧ Hid (SameBut G G6) ∧ Hid (G6.wn = G.wn) ∧ Hid (G6.lf = pre ++ ((be32 m ++ be32 cnt) ++ (symB ss ++ hashL))) :=
    ⟨_, Lib.hid R6.out, Lib.hid ⟨by simp [Gh.ff, Gh.b1], by simp [Gh.ff, Gh.b1], by simp [Gh.ff, Gh.b1], by simp [Gh.ff, Gh.b1], by simp [Gh.ff, Gh.b1], by simp [Gh.ff, Gh.b1], by simp [Gh.ff, Gh.b1]⟩, Lib.hid (by simp [Gh.ff, Gh.b1]), Lib.hid (by simp only [Gh.ff, Gh.b1, List.nil_append]; rw [L5.out]; simp)⟩
  clear R1 R2 R3 R4 R5 R6 f34 f4 f0 HV hnn HCALL L5
  obtain ⟨b6, cap6, hv6, hcap6, hg6, hb6, ht6⟩ := R6'.out.file (by rw [L6.out]; simp [hashL]; omega)
  obtain ⟨N4, hN4⟩ : ∃ N4, N4 = N + 4 := ⟨_, rfl⟩
  have hlen6 : G6.lf.length = N4 := by rw [L6.out]; have := HP.out; have := HM.out; simp [be32, hashL]; omega
  rw [hlen6] at hv6 hcap6
  have HB6 := Lib.hid hb6
  have HG6 := Lib.hid hg6
  have HT6 := Lib.hid ht6
  have HL6 := Lib.hid hlen6
  clear hb6 hg6 ht6 hlen6
  have hb6lt : b6 < w6.heap.size := R6'.out.wi.f.gl b6 HG6.out
  go_wp2_with fail
  refine (zzOpen_any G.fb b6 N4 cap6 w6 hv6).mono ?_
  rintro e w7 ⟨rfl, hw7⟩
  have R7 : Hid (Reach w G w7 (G6.free w6.heap.size)) := Lib.hid (by rw [hw7]; exact R6'.out.trans (R6'.out.wi.freer _))
  obtain ⟨sf, hsf⟩ : ∃ sf, sf = w6.heap.size := ⟨_, rfl⟩
  rw [← hsf] at R7 ⊢
  have c7 : w7.cell? ⟨sf, 0, none⟩ = some (.slice (some ⟨b6, 0, none⟩) N4 cap6) := by rw [hw7, hsf, World.cell?_alloc_new]; rfl
  have k7 : Kept (fun _ _ => False) w6 w7 := by rw [hw7]; exact Kept.alloc _ _ _
  have hsflt : sf < w7.heap.size := by rw [hw7, hsf]; simp
  have hwlt : G.wb < w6.heap.size := by rw [← R6'.out.nx.wb]; exact R6'.out.wi.e1.lt
  have hsw : sf ≠ G.wb := by omega
  have hbw : b6 ≠ G.wb := fun e => by have := HT6.out; rw [e, ← R6'.out.nx.wb, R6'.out.wi.t1] at this; cases this
  have c36 := R7.out.fld 36 (v := G6.cs 36) (by simp [Gh.free]) (by decide) (by decide)
  have g36 := R7.out.fr 36 (by decide)
  have R8 := Lib.hid (R7.out.set 36 (.pointer (some ⟨sf, 0, none⟩)) (by decide) (by decide) (by decide) (by decide) (by decide) (by decide))
  have D7 := Lib.hid (rd_kept k7 (fun _ _ => id) HB6.out)
  have HSF := Lib.hid hsf
  clear hw7 k7 hsf f0' hv6
  go_upto_region 21 with fail
  have c8 : (w7.setCell ⟨G.wb, 36, none⟩ (.pointer (some ⟨sf, 0, none⟩))).cell? ⟨sf, 0, none⟩ = some (.slice (some ⟨b6, 0, none⟩) N4 cap6) := by
    rw [World.cell?_setCell_other _ _ _ _ (fun e => hsw (by have := congrArg Addr.block e; first | exact this | exact this.symm))]; exact c7
  have k8 : Kept (fun k _ => k = G.wb) w7 (w7.setCell ⟨G.wb, 36, none⟩ (.pointer (some ⟨sf, 0, none⟩))) := Kept.setCell _ _ _ _ rfl
  have D8 := Lib.hid (rd_kept k8 (fun _ _ e => hbw e) D7.out)
  have c36' : (w7.setCell ⟨G.wb, 36, none⟩ (.pointer (some ⟨sf, 0, none⟩))).cell? ⟨G.wb, 36, none⟩ = some (.pointer (some ⟨sf, 0, none⟩)) := World.cell?_setCell_same _ _ _ c36
  have f4 := R8.out.fld 4 (v := .int .u64 p) (by simp [Gh.st, Gh.free, S6.out.cs, H4.out]) (by decide) (by decide)
  have hsf8 : sf < (w7.setCell ⟨G.wb, 36, none⟩ (.pointer (some ⟨sf, 0, none⟩))).heap.size := by simp; exact hsflt
  clear c7 c36 g36 k8 D7 hsflt
  generalize w7.setCell ⟨G.wb, 36, none⟩ (.pointer (some ⟨sf, 0, none⟩)) = w8 at *
  have j1 : (p : Int) + 4 ≤ (p : Int) + 4 + m := by omega
  have j2 : (p : Int) + 4 + m ≤ N4 := by omega
  have j3 : (p : Int) + 4 + m ≤ cap6 := by omega
  have j4 : ¬ cap6 = p + 4 := by omega
  have j5 : (0 : Int) ≤ (p : Int) + 4 + m := by omega
  have j6 : IntKind.u64.wrap ((p : Int) + 4) = (p : Int) + 4 := IntWalk.u64_in _ (by omega)
  have j7 : (p : Int) + 4 ≤ max ((p : Int) + 4 + m) 0 := by omega
  have j8 : ((p : Int) + 4 + m).toNat = p + 4 + m := by omega
  have j9 : ((p : Int) + 4).toNat = p + 4 := by omega
  obtain ⟨BODY, hBODY⟩ : ∃ BODY, BODY = be32 cnt ++ symB ss := ⟨_, rfl⟩
  have hbl : BODY.length = m := by rw [hBODY]; have := HM.out; simp [be32]; omega
  have DB8 : Hid (∀ j u, BODY[j]? = some u → w8.cell? ⟨b6, p + 4 + j, none⟩ = some (bV u)) := Lib.hid (fun j u hj => by
    have := D8.out (p + 4 + j) u (by
      rw [L6.out, show pre ++ ((be32 m ++ be32 cnt) ++ (symB ss ++ hashL)) = (pre ++ be32 m) ++ (BODY ++ hashL) by rw [hBODY]; simp, List.getElem?_append_right (by have := HP.out; simp [be32]; omega)]
      have e : p + 4 + j - (pre ++ be32 m).length = j := by have := HP.out; simp [be32]; omega
      have hj' : j < BODY.length := by
        rcases Nat.lt_or_ge j BODY.length with h | h
        · exact h
        · rw [List.getElem?_eq_none h] at hj; cases hj
      rw [e, List.getElem?_append_left hj']; exact hj)
    rwa [Nat.zero_add] at this)
  have HBO := Lib.hid hBODY
  have HBL := Lib.hid hbl
  clear hBODY hbl
  have hfb : G.fb < w8.heap.size := by rw [← R8.out.nx.fb]; exact R8.out.wi.f.lt
  go_cut [10] from 99 to 113 (fun x wx => x = .int .u32 (crcF cast 0 BODY) ∧ Reach w G wx ((G6.free sf).st 36 (.pointer (some ⟨sf, 0, none⟩))) ∧ Kept (fun _ _ => False) w8 wx)
  case first =>
    go_region_with (first | (go_at_call 129; refine (zzBytes_any sf b6 N4 cap6 w8.drew c8).mono ?_; rintro e w' ⟨rfl, rfl⟩) | (go_at_call 130; refine (castTab_any w8.drew).mono ?_; rintro e w9 ⟨rfl, hw9⟩; have k9 : Kept (fun _ _ => False) w8 w9 := (by rw [hw9]; exact (Kept.drew _ w8).trans (Kept.alloc _ _ _) (fun _ _ _ => id)); have t9 : w9.cell? ⟨w8.drew.heap.size, 0, none⟩ = some (.int .u32 cast) := (by rw [hw9, World.cell?_alloc_new]; rfl); have c36'' := (k9.cell G.wb 36 (World.block_lt_of_cell? _ _ c36') id).trans c36'; have f4' := (k9.cell G.wb 4 (World.block_lt_of_cell? _ _ f4) id).trans f4; have R9 : Hid (Reach w G w9 ((G6.free sf).st 36 (.pointer (some ⟨sf, 0, none⟩)))) := Lib.hid (by rw [hw9]; exact R8.out.drew.alloc _); have T9 := Lib.hid t9; have K9 := Lib.hid k9; clear hw9 t9 k9) | (go_at_call 128; refine (checksum_any _ cast _ _ _ BODY _ (by have := HBL.out; omega) (by omega) T9.out (fun j u hj => ⟨_, rfl, by rw [Addr.add_lit]; exact rd_kept K9.out (fun _ _ => id) DB8.out j u hj⟩)).mono ?_; rintro e w' ⟨rfl, rfl⟩))
    all_goals
      go_wp2_with fail
      go_meet
      exact ⟨rfl, R9.out, K9.out⟩
  case rest =>
    obtain ⟨rfl, r9, k9⟩ := hcut
    have R9 := Lib.hid r9
    have K9 := Lib.hid k9
    clear r9 k9
    obtain ⟨q, hq⟩ : ∃ q : Nat, crcF cast 0 BODY = (q : Int) := ⟨(crcF cast 0 BODY).toNat, by have := crcF_in cast 0 BODY; omega⟩
    have hq32 : q < 4294967296 := by have := crcF_in cast 0 BODY; omega
    rw [hq]
    have HQ := Lib.hid hq
    clear hq
    go_wp2_with fail
    refine (R9.out.wi.reset1 R9.out.nx.wb).mono ?_
    rintro e w10 ⟨rfl, g10, r10⟩
    have R10 := Lib.hid (R9.out.trans r10)
    have P10 := Lib.hid r10
    clear r10
    go_wp2_with fail
    refine (R10.out.wi.be32_1 R10.out.nx.wb q (by simp [Gh.b1]) hq32).mono ?_
    rintro e w11 ⟨rfl, g11, r11⟩
    have R11 := Lib.hid (R10.out.trans r11)
    have P11 := Lib.hid (P10.out.trans r11)
    clear r11
    obtain ⟨ao, nn, cc, HV, hnn⟩ := R11.out.v1
    go_wp2_with (go_at_call 49; refine (get_any G.wb 12 _ w11 HV).mono ?_; rintro e w' ⟨rfl, rfl⟩)
    have hN' : ((p : Int) + 4 + m) = (N : Int) := by omega
    rw [hN']
    clear hN'
    refine (R11.out.wi.writeAt1 R11.out.nx.wb N HV (by simp [Gh.b1, be32]) (by simp [Gh.b1, Gh.free, Gh.st, be32]; rw [HL6.out]; omega) (by simp [Gh.b1, Gh.free, Gh.st]; rw [HL6.out]; omega) (by simp [Gh.b1, Gh.free, Gh.st]; rw [W6.out, HW.out]; omega) (R11.out.nx.zm.trans HFM.out)).mono ?_
    rintro e w12 ⟨rfl, n12, r12⟩
    obtain ⟨G12, R12, S12, W12, L12, Q12, T12, C12⟩ : ∃ G12, Hid (Reach w G w12 G12) ∧ Hid (G12.cs = fun j => if j = 36 then .pointer (some ⟨sf, 0, none⟩) else G.cs j) ∧ Hid (G12.wn = 0) ∧ Hid (G12.lf = pre ++ ((be32 m ++ be32 cnt) ++ (symB ss ++ be32 q))) ∧ Hid (G12.gf = some b6) ∧ Hid (G12.lp = G.lp ∧ G12.lo = G.lo ∧ G12.ns = G.ns ∧ G12.S = G.S ∧ G12.nl = G.nl ∧ G12.L = G.L) ∧ Hid (w12.cell? ⟨sf, 0, none⟩ = some (.slice (some ⟨b6, 0, none⟩) N4 cap6)) := by
      refine ⟨_, Lib.hid (R11.out.trans r12), Lib.hid ?_, Lib.hid ?_, Lib.hid ?_, Lib.hid ?_, Lib.hid ?_, Lib.hid ?_⟩
      · simp only [Gh.ff, Gh.b1, Gh.free, Gh.st, S6.out.cs]
      · simp only [Gh.ff, Gh.b1, Gh.free, Gh.st]; rw [W6.out, HW.out]
      · simp only [Gh.ff, Gh.b1, Gh.free, Gh.st, List.nil_append]
        rw [L6.out, show pre ++ ((be32 m ++ be32 cnt) ++ (symB ss ++ hashL)) = (pre ++ ((be32 m ++ be32 cnt) ++ symB ss)) ++ (hashL ++ []) by simp, spl_mid _ hashL [] (be32 q) N (by have := HP.out; have := HM.out; simp [be32]; omega) rfl]
        simp
      · simp only [Gh.ff, Gh.b1, Gh.free, Gh.st]; exact HG6.out
      · simp only [Gh.ff, Gh.b1, Gh.free, Gh.st]; exact ⟨S6.out.lp, S6.out.lo, S6.out.ns, S6.out.S, S6.out.nl, S6.out.L⟩
      · refine Lib.hid ?_
        have P12 := P11.out.trans r12
        rw [P12.kp.cell sf 0 (Nat.lt_of_lt_of_le hsf8 K9.out.size) (fun h => h (by simp [Gh.st, Gh.free]))]
        exact (K9.out.cell sf 0 hsf8 id).trans c8
    clear R9 K9 R10 R11 P10 P11 HV hnn r12
    go_upto_region 27 with fail
    obtain ⟨b', cap', hv12, hcap12, hg12, hb12, ht12⟩ := R12.out.file (by rw [L12.out]; simp [be32]; omega)
    obtain rfl : b6 = b' := Option.some.inj (Q12.out.symm.trans hg12)
    have HB12 := Lib.hid hb12
    have e1 : G12.lf = pre ++ (be32 m ++ (BODY ++ be32 q)) := by rw [L12.out, HBO.out]; simp
    have h1 := sub_cells (A := pre) (B := be32 m) (C := BODY ++ be32 q) (fun j u hj => HB12.out j u (by rw [e1]; exact hj)) HP.out
    have h2 := sub_cells (A := pre ++ be32 m) (B := BODY) (C := be32 q) (a := p + 4) (fun j u hj => HB12.out j u (by rw [e1]; simpa using hj)) (by have := HP.out; simp [be32]; omega)
    have h3 := sub_cells (A := pre ++ (be32 m ++ BODY)) (B := be32 q) (C := []) (a := p + 4 + m) (fun j u hj => HB12.out j u (by rw [e1]; simpa using hj)) (by have := HP.out; have := HBL.out; simp [be32]; omega)
    have hqn : (crcF cast 0 (be32 ss.length ++ symB ss)).toNat = q := by rw [← HC.out, ← HBO.out, HQ.out]; rfl
    rw [HBO.out, HC.out] at h2
    rw [← hqn] at h3
    have NS := Lib.hid (newSymbols_any b6 N4 cap6 p m ss w12.drew HM.out (by omega) hcap6 (by omega) (by rw [← HC.out]; exact hss) h1 h2 h3 HZ.out)
    rw [← HC.out] at NS
    have f36 := R12.out.fld 36 (v := .pointer (some ⟨sf, 0, none⟩)) (by rw [S12.out]; rfl) (by decide) (by decide)
    have f4' := R12.out.fld 4 (v := .int .u64 p) (by rw [S12.out]; exact H4.out) (by decide) (by decide)
    have f35 := R12.out.fld 35 (v := G12.cs 35) rfl (by decide) (by decide)
    have g35 := R12.out.fr 35 (by decide)
    have hwb12 : G.wb < w12.heap.size := World.block_lt_of_cell? _ _ f35
    have z1 : IntKind.i64.wrap (p : Int) = p := IntWalk.i64_in _ (by omega)
    have Z := C12.out
    have hsf12 : sf < w12.heap.size := World.block_lt_of_cell? _ _ Z
    have HN4 := Lib.hid hN4
    clear hv12 hg12 hb12 ht12 e1 h1 h2 h3 hqn c8 c36' f4 i1 hN4
    go_cut [9] from 133 to 151 (fun x wx => x = .nilIface ∧ ∃ sb, w12.heap.size ≤ sb ∧ Hid (∃ w13, SY (fun k => k ≠ sb ∧ w12.heap.size ≤ k) w13 sb b6 p N4 cap6 ss cnt ∧ Kept (fun k _ => w12.heap.size ≤ k) w12 w13 ∧ wx = w13.setCell ⟨G.wb, 35, none⟩ (.pointer (some ⟨sb, 0, none⟩))))
    case first =>
      go_region_held3 (fun w' => w'.cell? ⟨G.wb, 36, none⟩ = some (.pointer (some ⟨sf, 0, none⟩)) ∧ w'.cell? ⟨G.wb, 4, none⟩ = some (.int .u64 p) ∧ w'.cell? ⟨sf, 0, none⟩ = some (.slice (some ⟨b6, 0, none⟩) N4 cap6)) (first | exact ⟨f36, f4', Z⟩ | exact ⟨y36, y4, ysf⟩ | exact ⟨by rw [World.cell?_setCell_other _ _ _ _ (by simp)]; exact y36, by rw [World.cell?_setCell_other _ _ _ _ (by simp)]; exact y4, by rw [World.cell?_setCell_other _ _ _ _ (by simp)]; exact ysf⟩ | go_keep)
        (first | (go_at_call 129; refine (zzBytes_any sf b6 N4 cap6 w12.drew Z).mono ?_; rintro e w' ⟨rfl, rfl⟩) | (go_at_call 131; refine NS.out.mono ?_; rintro e w13 ⟨sb, rfl, hsb, hsy, hk13⟩; have x35 := (hk13.cell G.wb 35 hwb12 (fun h => by have := hwb12; simp at h; omega)).trans f35; have x35f := (hk13.fr G.wb 35 hwb12).trans g35; have y36 := (hk13.cell G.wb 36 hwb12 (fun h => by have := hwb12; simp at h; omega)).trans f36; have y4 := (hk13.cell G.wb 4 hwb12 (fun h => by have := hwb12; simp at h; omega)).trans f4'; have ysf := (hk13.cell sf 0 hsf12 (fun h => by have := hsf12; simp at h; omega)).trans Z; have HSY := Lib.hid hsy; have HK13 := Lib.hid hk13; have HSBB := Lib.hid hsb; clear hsy hk13 hsb))
      all_goals
        go_wp2_with fail
        go_meet
        exact ⟨rfl, sb, HSBB.out, Lib.hid ⟨w13, HSY.out, (Kept.drew _ w12).trans HK13.out (fun _ _ _ h => h), rfl⟩⟩
    case rest =>
      obtain ⟨rfl, sb, hsb, hw⟩ := hcut
      have HWX := Lib.hid hw
      clear hw
      go_wp2
      go_ret
      obtain ⟨w13, hsy, hk13, hwx⟩ := HWX.out.out
      have r13 := R12.out.trans (R12.out.wi.newsr hk13)
      have r14 := r13.set 35 (.pointer (some ⟨sb, 0, none⟩)) (by decide) (by decide) (by decide) (by decide) (by decide) (by decide)
      have k14 : Kept (fun k _ => k = G.wb) w13 (w13.setCell ⟨G.wb, 35, none⟩ (.pointer (some ⟨sb, 0, none⟩))) := Kept.setCell _ _ _ _ rfl
      have hsw2 : sb ≠ G.wb := by omega
      rw [hwx]
      refine ⟨rfl, _, sb, sf, b6, cap6, q, r14, ?_, ?_, ?_, ?_, ?_, ?_, ?_, ?_, ?_⟩
      · simp only [Gh.st, Gh.news]; rw [S12.out]
      · simp only [Gh.st, Gh.news]; rw [L12.out, HM.out, HC.out]
      · simp only [Gh.st, Gh.news]; exact W12.out
      · simp only [Gh.st, Gh.news]; exact Q12.out
      · simp only [Gh.st, Gh.news]; exact T12.out
      · rw [← HC.out, show p + 8 + (symB ss).length + 4 = N4 by have := HM.out; have := HN4.out; omega]
        exact hsy.kept (P := fun k => k = G.wb) k14 hsw2 (fun k h e => by omega) (fun k h _ => ⟨h.1, by simp only [Gh.st]; exact Gh.news_T _ h.2⟩)
      · simp only [Gh.st]; exact Gh.news_T _ hsb
      · rw [show p + 8 + (symB ss).length + 4 = N4 by have := HM.out; have := HN4.out; omega]; exact hcap6
      · have hws : w.heap.size ≤ w12.heap.size := R12.out.kp.size
        refine ⟨Nat.le_trans hws hsb, fun v k hv hk => ?_⟩
        obtain ⟨v0, h0, _, h2⟩ := hsy.c3
        have hv' : w13.cell? ⟨sb, 3, none⟩ = some v := (World.cell?_of_block (a := ⟨sb, 3, none⟩) (k14.block sb (World.block_lt_of_cell? _ _ hsy.c4) (fun _ => hsw2))).symm.trans hv
        rw [h0] at hv'; cases hv'
        exact Nat.le_trans hws (h2 k hk).2

end Go.Proofs.YtfipfoplmopkaaaGreatDoor
