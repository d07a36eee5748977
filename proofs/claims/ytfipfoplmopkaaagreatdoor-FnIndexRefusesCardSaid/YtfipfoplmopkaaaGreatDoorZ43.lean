/- The Writer at stage 2, between the series. Conditions: bounds on counts. AddSymbol(22) at stage 0; the Writer in the symbols' phase; the first ensureStage(2). Conditions: bounds on counts. The Writer while the symbols are added; the way to the series. Conditions: at most 200 symbols of at most 200 bytes. AddSymbol, ensureStage(2), AddSeries, Close as contracts on the Writer's phases. Conditions: bounds on counts. AddSeries, Close, ZZBytes as contracts on the Writer's phases. Conditions: bounds on counts. Close(25), ZZBytes(26) as contracts on the Writer's phases. No condition. -/
import Derived.Test.YtfipfoplmopkaaaGreatDoorZ29
import Derived.Test.YtfipfoplmopkaaaGreatDoorZ42
import Derived.Test.YtfipfoplmopkaaaGreatDoorZ41

namespace Go.Proofs.YtfipfoplmopkaaaGreatDoor
open Go.RowKit Go.Maps

theorem seN_snoc (SL : List Se) (s : Se) : seN (SL ++ [s]) = seN SL + s.ps.length := by simp [seN]

/-- The Writer between the series: SL written, the last one's labels D0 (the strings fs0), the last references r0, c0. -/
structure P2 (w : World) (G : Gh) (V : Vw) (F : Fx) (pre : List UInt8) (p : Nat) (SL : List Se) (a0 : Nat) (D0 : ByteArray) (fs0 : List (List UInt8)) (r0 c0 : Nat) : Prop where
  p3 : P3 w G V F pre p V.lf.length SL a0
  wn : F.l0.length ≤ V.wn
  h41 : V.cs 41 = .string D0
  ld0 : LD D0 fs0
  h42 : V.cs 42 = .int .u64 (r0 : Int)
  h43 : V.cs 43 = .int .u64 (c0 : Int)
  sn : SN V.S F.ss.length
  nl : V.nl ≤ 10 * SL.length
  sm : seN SL ≤ 10 * SL.length
  lb : V.lf.length ≤ 1000000 + 2000 * SL.length
  sl : SL.length ≤ 20

theorem P2.aq {w : World} {G : Gh} {V : Vw} {F : Fx} {pre : List UInt8} {p : Nat} {SL : List Se} {a0 : Nat} {D0 : ByteArray} {fs0 : List (List UInt8)} {r0 c0 : Nat} (h : P2 w G V F pre p SL a0 D0 fs0 r0 c0) : AQ w G V D0 fs0 r0 c0 F.ss.length SL.length :=
  ⟨h.p3.hG, h.p3.hV, h.p3.zm, h.h41, h.ld0, h.h42, h.h43, by have := h.lb; have := h.sl; omega, by have := h.p3.h.ssl; omega, h.sn, by have := h.sl; omega, h.p3.h.L9, by have := h.nl; have := h.sl; omega⟩

theorem Se.d_len (s : Se) : s.d.length = (Lib.uvarint s.c.length).length + (s.c.length + s.sm.length) := by simp [Se.d]
theorem Se.c_len (s : Se) : s.c.length = (Lib.uvarint s.ps.length).length + ((pairsB s.ps).length + s.tl.length) := by simp [Se.c]

theorem P2.add {w w' : World} {G : Gh} {V : Vw} {F : Fx} {pre : List UInt8} {p : Nat} {SL : List Se} {a0 : Nat} {D0 : ByteArray} {fs0 : List (List UInt8)} {r0 c0 : Nat} (h : P2 w G V F pre p SL a0 D0 fs0 r0 c0) {D : ByteArray} {ls : List Lab} {rf lc : Nat}
    (hD : LD D (fsL ls)) (hl : ls.length ≤ 10) (hs : SL.length < 20) (ha : AddK w G V D ls rf lc F.ss.length SL.length w') : ∃ G' V' F' s, Reach w G w' G' ∧ P2 w' G' V' F' pre p (SL ++ [s]) a0 D (fsL ls) rf lc ∧ V'.cs 36 = V.cs 36 ∧ V'.S = V.S ∧ F'.ss = F.ss ∧ F'.sb = F.sb := by
  obtain ⟨G', s, g, l1, l2, L', r, v, h1, h2, h3, h4, h5⟩ := ha
  obtain ⟨V', hV'⟩ : ∃ V' : Vw, V' = { V with l1 := l1, l2 := l2, gf := g, lf := V.lf ++ (zeros (padN V.lf.length 16) ++ Se.d s), nl := V.nl + ls.length, L := L', cs := upd (upd (upd V.cs 41 (.string D)) 42 (.int .u64 (rf : Int))) 43 (.int .u64 (lc : Int)) } := ⟨_, rfl⟩
  rw [← hV'] at v
  have q := h.p3.h
  have ecs : ∀ i, i ≠ 41 → i ≠ 42 → i ≠ 43 → V'.cs i = V.cs i := fun i e1 e2 e3 => by
    rw [hV']
    exact (upd_other (upd (upd V.cs 41 (.string D)) 42 (.int .u64 (rf : Int))) 43 i (.int .u64 (lc : Int)) e3).trans ((upd_other (upd V.cs 41 (.string D)) 42 i (.int .u64 (rf : Int)) e2).trans (upd_other V.cs 41 i (.string D) e1))
  have elf : V'.lf = V.lf ++ (zeros (padN V.lf.length 16) ++ Se.d s) := by rw [hV']
  have hss : F.ss.length < 100000 := q.ssl
  have hcl : s.c.length ≤ 810 := by
    rw [Se.c_len]
    have u := Lib.uvarint_length64 (x := s.ps.length) (by omega)
    have k := pairsB_len s.ps F.ss.length (by omega) h2
    rw [h1] at k
    omega
  have hdl : s.d.length ≤ 824 := by
    rw [Se.d_len, h5]
    have u := Lib.uvarint_length64 (x := s.c.length) (by omega)
    omega
  have hpd := padN_lt V.lf.length 16 (by decide)
  have hlen : V'.lf.length = V.lf.length + (padN V.lf.length 16 + s.d.length) := by rw [elf]; simp
  have hVlf : V.lf = pre ++ serBs p SL := q.lf
  have hVll : V.lf.length = p + (serBs p SL).length := by rw [hVlf, List.length_append, q.hp]
  have hlb := h.lb
  have hsl := h.sl
  have hwn' : V'.wn = V.wn := by rw [hV']
  have hfl0 : F.b0 < w.heap.size := h.p3.b0
  have hgw : G.wn = V.wn := congrArg Vw.wn h.p3.hV
  have hgb : ∃ b, g = some b := by
    have hf := r.wi.f
    obtain ⟨x, _, hb⟩ := hf.b
    rcases hb.form with ⟨_, _, h0⟩ | ⟨b, cap, _, hg, _⟩
    · have : G'.lf = V'.lf := congrArg Vw.lf v
      rw [this] at h0
      have h0' := congrArg List.length h0
      rw [hlen, List.length_nil] at h0'
      have := Se.d_pos s
      omega
    · exact ⟨b, by rw [← hg]; have : G'.gf = V'.gf := congrArg Vw.gf v; rw [this, hV']⟩
  obtain ⟨b', hb'⟩ := hgb
  have nx := r.nx
  refine ⟨G', V', { F with b := b' }, s, r, ⟨⟨r.wi, v, ?_, ?_, ?_, ?_, ?_, ?_, ?_, h.p3.ha0, ?_, ?_⟩, ?_, ?_, hD, ?_, ?_, ?_, ?_, ?_, ?_, ?_⟩, ecs 36 (by decide) (by decide) (by decide), by rw [hV'], rfl, rfl⟩
  · rw [ecs 10 (by decide) (by decide) (by decide)]; exact h.p3.h10
  · rw [hV']; exact h.p3.zm
  · rw [hV']; exact h.p3.zo
  · refine ⟨?_, q.hp, q.p0, rfl, ?_, ?_, upd_same V'.cs 6 (.int .u64 (V'.lf.length : Int)), ?_, ?_, ?_, ?_, ?_, ?_, ?_, rfl, rfl, ?_, ?_, ?_, ?_, ?_, q.ssl, ?_, ?_, ?_, ?_, ?_, q.hA, q.nc, q.l0l, ?_⟩
    · show V'.lf = _
      rw [elf, serBs_snoc, ← List.append_assoc pre, ← hVlf, hVll]
    · omega
    · exact (upd_other V'.cs 6 5 (.int .u64 (V'.lf.length : Int)) (by decide)).trans ((ecs 5 (by decide) (by decide) (by decide)).trans ((upd_other V.cs 6 5 (.int .u64 (V.lf.length : Int)) (by decide)).symm.trans q.h5))
    · refine (upd_other V'.cs 6 1 (.int .u64 (V'.lf.length : Int)) (by decide)).trans ((ecs 1 (by decide) (by decide) (by decide)).trans ((upd_other V.cs 6 1 (.int .u64 (V.lf.length : Int)) (by decide)).symm.trans ?_))
      rw [show (G'.fz true false).pb = (G.fz true false).pb from nx.pb]; exact q.h1
    · refine (upd_other V'.cs 6 2 (.int .u64 (V'.lf.length : Int)) (by decide)).trans ((ecs 2 (by decide) (by decide) (by decide)).trans ((upd_other V.cs 6 2 (.int .u64 (V.lf.length : Int)) (by decide)).symm.trans ?_))
      rw [show (G'.fz true false).ob = (G.fz true false).ob from nx.ob]; exact q.h2
    · exact (upd_other V'.cs 6 3 (.int .u64 (V'.lf.length : Int)) (by decide)).trans ((ecs 3 (by decide) (by decide) (by decide)).trans ((upd_other V.cs 6 3 (.int .u64 (V.lf.length : Int)) (by decide)).symm.trans q.h3))
    · exact (upd_other V'.cs 6 46 (.int .u64 (V'.lf.length : Int)) (by decide)).trans ((ecs 46 (by decide) (by decide) (by decide)).trans ((upd_other V.cs 6 46 (.int .u64 (V.lf.length : Int)) (by decide)).symm.trans q.h46))
    · exact (upd_other V'.cs 6 35 (.int .u64 (V'.lf.length : Int)) (by decide)).trans ((ecs 35 (by decide) (by decide) (by decide)).trans ((upd_other V.cs 6 35 (.int .u64 (V.lf.length : Int)) (by decide)).symm.trans q.h35))
    · show V'.lo = []
      rw [hV']; exact q.lo
    · show V'.lp = []
      rw [hV']; exact q.lp
    · intro x hx
      rcases List.mem_append.1 hx with hx | hx
      · exact q.ok x hx
      · simp at hx; subst hx; exact ⟨h2, by omega, by omega, h5⟩
    · rw [List.length_append]; simp; omega
    · rw [seN_snoc]; have := h.sm; omega
    · show V'.nl ≤ 200
      rw [hV']; show V.nl + ls.length ≤ 200
      have := h.nl; omega
    · intro l hl'
      have hl2 : Maps.has L' (.string l) = true := by have := hl'; rw [hV'] at this; exact this
      obtain ⟨x1, x2, c, x3, x4⟩ := h3 l hl2
      refine ⟨x1, by show Maps.has V'.S _ = true; rw [hV']; exact x2, c, by rw [List.length_append]; exact x3, fun z => by show V'.L.atKey _ _ = _; rw [hV']; exact x4 z⟩
    · intro x hx
      obtain ⟨x1, x2⟩ := q.ss x hx
      exact ⟨x1, by show Maps.has V'.S _ = true; rw [hV']; exact x2⟩
    · exact q.sy.blocks (KT.block r.kp q.sy.sbl q.tsb) (fun k hk hlt => ⟨KT.block r.kp hlt hk.2.2, Nat.lt_of_lt_of_le hlt r.kp.size, hk.2.1, (nx.T k hlt).trans hk.2.2⟩)
    · exact (nx.T _ q.sy.sbl).trans q.tsb
    · intro j u hj
      have hjl : j < F.l0.length := by
        by_cases hh : j < F.l0.length
        · exact hh
        · have h9 : F.l0[j]? = some u := hj
          rw [List.getElem?_eq_none (by omega)] at h9; cases h9
      exact (r.hp.h F.b0 (0 + j) hfl0 q.t0 (by rw [hgw]; have := h.wn; omega)).trans (q.c0 j u hj)
    · exact (nx.T _ hfl0).trans q.t0
    · show V'.gf = some b'
      rw [hV']; exact hb'
  · exact Nat.lt_of_lt_of_le hfl0 r.kp.size
  · rw [ecs 39 (by decide) (by decide) (by decide)]; exact h.p3.h39
  · rw [ecs 4 (by decide) (by decide) (by decide)]; exact h.p3.h4
  · omega
  · rw [hwn']; have := h.p3.hwn; omega
  · rw [hwn']; exact h.wn
  · rw [hV']
    exact (upd_other (upd (upd V.cs 41 (.string D)) 42 (.int .u64 (rf : Int))) 43 41 (.int .u64 (lc : Int)) (by decide)).trans ((upd_other (upd V.cs 41 (.string D)) 42 41 (.int .u64 (rf : Int)) (by decide)).trans (upd_same V.cs 41 (.string D)))
  · rw [hV']
    exact (upd_other (upd (upd V.cs 41 (.string D)) 42 (.int .u64 (rf : Int))) 43 42 (.int .u64 (lc : Int)) (by decide)).trans (upd_same (upd V.cs 41 (.string D)) 42 (.int .u64 (rf : Int)))
  · rw [hV']; exact upd_same (upd (upd V.cs 41 (.string D)) 42 (.int .u64 (rf : Int))) 43 (.int .u64 (lc : Int))
  · rw [hV']; exact h.sn
  · rw [hV', List.length_append]; show V.nl + ls.length ≤ _; have := h.nl; simp; omega
  · rw [seN_snoc, List.length_append]; have := h.sm; simp; omega
  · rw [hlen, List.length_append]; simp; omega
  · rw [List.length_append]; simp; omega

end Go.Proofs.YtfipfoplmopkaaaGreatDoor

namespace Go.Proofs.YtfipfoplmopkaaaGreatDoor
open Go.RowKit Go.Maps

set_option maxRecDepth 100000 in
set_option maxHeartbeats 1000000 in
/-- AddSymbol where nothing was written yet: G1 is the Writer behind ensureStage(1). -/
theorem addSym_first (w0 : World) (G0 : Gh) (s : ByteArray) (h : WI w0 G0) (hs : G0.cs 10 = .int .u8 0) (hm0 : G0.zm = false) (hl : G0.lf.length < 90000000) (n : Nat) (h0 : ((n : Int) != 0) = false) (hn32 : n < 100000) (hn0 : G0.cs 34 = .int .i64 n) (z : ByteArray) (hz0 : G0.cs 37 = .string z)
    (hss : s.size < 10000) (hns : G0.ns < 100000) :
    Calls Tryz.prog 22 #[.pointer (some ⟨G0.wb, 0, none⟩), .string s] w0 fun e w' => e = .returned .nilIface ∧ ∃ w1 G1, Reach w0 G0 w1 G1 ∧ (G1.lf = G0.lf ++ alenblen ∧ G1.cs = (fun j => if j = 10 then .int .u8 1 else if j = 4 then .int .u64 G0.lf.length else G0.cs j) ∧ G1.lp = G0.lp ∧ G1.lo = G0.lo ∧ G1.ns = G0.ns ∧ G1.S = G0.S ∧ G1.nl = G0.nl ∧ G1.L = G0.L) ∧ Aft w1 G1 w' (AddSymR G1 s n) := by
  have HENS := Lib.hid (ens1_any w0 G0 h hs (by omega) hm0)
  have HNS0 := Lib.hid hns
  have HSS := Lib.hid hss
  have HL0 := Lib.hid hl
  clear h hl hns hss
  go_enter Tryz.func22, Tryz.ntmps22
  go_wp2_with fail
  refine HENS.out.mono ?_
  rintro e w ⟨rfl, G, hr, hlf, hcs, hlp, hlo, hns', hS, hnl, hL⟩
  have hm : G.zm = false := hr.nx.zm.trans hm0
  have hn : G.cs 34 = .int .i64 n := by rw [hcs]; exact hn0
  have hz : G.cs 37 = .string z := by rw [hcs]; exact hz0
  have H := Lib.hid hr.wi
  have hl : G.lf.length < 100000000 := by rw [hlf, List.length_append]; have := HL0.out; simp [alenblen]; omega
  have HL := Lib.hid hl
  have HNS : Hid (G.ns < 100000) := Lib.hid (by rw [hns']; exact HNS0.out)
  have f34 := hr.fld 34 hn (by decide) (by decide)
  have f37 := hr.fld 37 hz (by decide) (by decide)
  have f38 := hr.c38
  have g37 := hr.fr 37 (by decide)
  have g34 := hr.fr 34 (by decide)
  have hwb : G0.wb = G.wb := hr.nx.wb.symm
  have R1 := Lib.hid (hr.wi.setr 37 (.string s) (by decide) (by decide) (by decide) (by decide) (by decide) (by decide))
  have HR0 := Lib.hid (And.intro hr (And.intro hlf (And.intro hcs (And.intro hlp (And.intro hlo (And.intro hns' (And.intro hS (And.intro hnl hL))))))))
  have hsm : G0.sm = G.sm := hr.nx.sm.symm
  rw [hwb] at f34 f37 f38 g37 g34
  rw [hsm] at f38
  simp only [hwb]
  clear hr hlf hcs hlp hlo hns' hS hnl hL hl hwb hsm
  go_wp2
  clear f34 f37 f38 g37 g34
  generalize w.setCell { block := G.wb, off := 37 } (Value.string s) = w1 at R1 ⊢
  have f38' : w1.cell? ⟨G.wb, 38, none⟩ = some (.map (some G.sm)) := R1.out.wi.fld 38 (by decide) (by decide) R1.out.wi.c38
  have f34' : w1.cell? ⟨G.wb, 34, none⟩ = some (.int .i64 n) := R1.out.wi.fld 34 (by decide) (by decide) (v := .int .i64 n) hn
  go_still_tail 10, (by kernel_rfl)
  have R2 := Lib.hid R1.out.drew
  have hwf : (plainElem (H := Unit) Tryz.prog 94) (.int .u32 (IntKind.u32.wrap n)) = some (.lit (.int .u32 n), []) := by
    rw [show IntKind.u32.wrap (n : Int) = n by simp [IntKind.wrap, IntKind.signed, IntKind.bits]; omega]
    exact plainElem_int Tryz.underlying94 (wf_u32 (by omega))
  go_wp2_with (at_mapUpdate; refine wpList_mapUpdate_in _ rfl _ _ _ 114 rfl 9 94 keyS Tryz.underlying114 (plainElem Tryz.prog 94) G.sm G.ns G.S rfl R2.out.wi.s (by have := HNS.out; unfold maxLen; omega) _ _ (.string s.data.toList) rfl rfl (WideMaps.keyOf_string_mk Tryz.underlying9 (by have := HSS.out; unfold maxLen; omega)) (.lit (.int .u32 n)) [] hwf ?_)
  intro w3 ho ht
  have R3 := Lib.hid (R2.out.trans (R2.out.wi.symr ho ht))
  have f34'' : w3.cell? ⟨G.wb, 34, none⟩ = some (.int .i64 n) := R3.out.wi.fld 34 (by decide) (by decide) (v := .int .i64 n) hn
  have g34' : w3.frozen? ⟨G.wb, 34, none⟩ = false := R3.out.wi.fr 34 (by decide)
  have R4 := Lib.hid (R3.out.set 34 (.int .i64 (n + 1)) (by decide) (by decide) (by decide) (by decide) (by decide) (by decide))
  clear ho ht f38' hwf f34'
  go_wp2_with fail
  refine (R4.out.wi.reset1 R4.out.nx.wb).mono ?_
  rintro e w5 ⟨rfl, g5, r5⟩
  have R5 := Lib.hid (R4.out.trans r5)
  clear r5
  go_wp2_with fail
  refine (R5.out.wi.str1 R5.out.nx.wb s (by simp [Gh.b1]) (by have := HSS.out; omega)).mono ?_
  rintro e w6 ⟨rfl, g6, r6⟩
  have R6 := Lib.hid (R5.out.trans r6)
  clear r6
  obtain ⟨ao, m, c, HV, _⟩ := R6.out.v1
  clear f34'' g34'
  go_wp2_with (go_at_call 49; refine (get_any G.wb 12 _ w6 HV).mono ?_; rintro e w' ⟨rfl, rfl⟩)
  have hu := Lib.uvarint_length64 (x := s.size) (by have := HSS.out; omega)
  have HU := Lib.hid hu
  clear hu
  refine (R6.out.wi.write1 R6.out.nx.wb HV ?_ (R6.out.nx.zm.trans hm)).mono ?_
  · have := HL.out; have := HU.out; have := HSS.out
    simp [Gh.b1, Gh.st, Gh.sy]; omega
  rintro e w7 ⟨rfl, g7, n7, r7⟩
  have R7 := Lib.hid (R6.out.trans r7)
  clear r7
  go_wp2
  go_ret
  refine ⟨rfl, w, G, HR0.out.1, HR0.out.2, _, R7.out, ?_⟩
  simp [AddSymR, Gh.ff, Gh.b1, Gh.st, Gh.sy]

end Go.Proofs.YtfipfoplmopkaaaGreatDoor

namespace Go.Proofs.YtfipfoplmopkaaaGreatDoor
open Go.RowKit Go.Maps

/-- 'a <= b' of strings. -/
def leB (a b : ByteArray) : Bool := Op.bytesLess a.toList b.toList || a.toList == b.toList

/-- The Writer with the symbols ss. -/
structure P1 (w : World) (G : Gh) (ss : List ByteArray) : Prop where
  hG : WI w G
  zm : G.zm = false
  zo : G.zo = false
  lp : G.lp = []
  lo : G.lo = []
  nl : G.nl = 0
  L : ∀ l : List UInt8, Maps.has G.L (.string l) = false
  c1 : G.cs 1 = .pointer (some ⟨G.pb, 0, none⟩)
  c2 : G.cs 2 = .pointer (some ⟨G.ob, 0, none⟩)
  c3 : G.cs 3 = .int .u64 ((0 : Nat) : Int)
  c39 : G.cs 39 = .slice none 0 0
  c46 : G.cs 46 = .func (.func 80) #[] #[]
  c41 : G.cs 41 = .string ⟨#[]⟩
  c42 : G.cs 42 = .int .u64 ((0 : Nat) : Int)
  c43 : G.cs 43 = .int .u64 ((0 : Nat) : Int)
  c34 : G.cs 34 = .int .i64 (ss.length : Int)
  wn : G.wn = 0
  ph : ∃ pre : List UInt8, pre.length = 5 ∧ ((ss = [] ∧ G.cs 10 = .int .u8 0 ∧ G.lf = pre ∧ ∃ z, G.cs 37 = .string z) ∨ (G.cs 10 = .int .u8 1 ∧ G.cs 4 = .int .u64 ((5 : Nat) : Int) ∧ G.lf = pre ++ (alenblen ++ symB ss) ∧ ∃ z, G.cs 37 = .string z ∧ ss.getLast? = some z))
  ns : G.ns = ss.length
  s1 : ∀ l : List UInt8, Maps.has G.S (.string l) = true ↔ ∃ s ∈ ss, s.data.toList = l
  s2 : SN G.S ss.length
  n : ss.length ≤ 200
  sz : ∀ s ∈ ss, s.size ≤ 200

theorem symB_snoc (ss : List ByteArray) (s : ByteArray) : symB (ss ++ [s]) = symB ss ++ symE s := by simp [symB]
theorem symB_le (ss : List ByteArray) (h : ∀ s ∈ ss, s.size ≤ 200) : (symB ss).length ≤ 210 * ss.length := by
  induction ss with
  | nil => simp [symB]
  | cons s t ih =>
    have h1 := h s (by simp)
    have h2 := ih (fun x hx => h x (by simp [hx]))
    have e : symB (s :: t) = symE s ++ symB t := by simp [symB]
    have u := Lib.uvarint_length64 (x := (sB s).length) (by simp; omega)
    rw [e, List.length_append]
    simp only [symE, List.length_append, List.length_cons]
    rw [sB_length] at *
    omega

theorem P1.lfl {w : World} {G : Gh} {ss : List ByteArray} (h : P1 w G ss) : 5 ≤ G.lf.length ∧ G.lf.length ≤ 13 + 210 * ss.length := by
  have hs := symB_le ss h.sz
  obtain ⟨pre, hp, ⟨_, _, e, _⟩ | ⟨_, _, e, _⟩⟩ := h.ph
  · rw [e, hp]; omega
  · rw [e]; simp [alenblen]; omega

theorem P1.go {w w' : World} {G G' : Gh} {ss : List ByteArray} (h : P1 w G ss) (r : Reach w G w' G') (v : G'.v = G.v) : P1 w' G' ss := by
  have cs : G'.cs = G.cs := congrArg Vw.cs v
  have S : G'.S = G.S := congrArg Vw.S v
  have L : G'.L = G.L := congrArg Vw.L v
  have lf : G'.lf = G.lf := congrArg Vw.lf v
  exact ⟨r.wi, (congrArg Vw.zm v).trans h.zm, (congrArg Vw.zo v).trans h.zo, (congrArg Vw.lp v).trans h.lp, (congrArg Vw.lo v).trans h.lo, (congrArg Vw.nl v).trans h.nl, by rw [L]; exact h.L,
    by rw [cs, r.nx.pb]; exact h.c1, by rw [cs, r.nx.ob]; exact h.c2, by rw [cs]; exact h.c3, by rw [cs]; exact h.c39, by rw [cs]; exact h.c46, by rw [cs]; exact h.c41, by rw [cs]; exact h.c42, by rw [cs]; exact h.c43, by rw [cs]; exact h.c34,
    (congrArg Vw.wn v).trans h.wn, by rw [cs, lf]; exact h.ph, (congrArg Vw.ns v).trans h.ns, by rw [S]; exact h.s1, by rw [S]; exact h.s2, h.n, h.sz⟩

/-- A symbol more: the facts that do not depend on the stage. -/
theorem P1.step {w w1 w' : World} {G G1 G' : Gh} {ss : List ByteArray} (h : P1 w G ss) {s : ByteArray} (hs : s.size ≤ 200) (hn : ss.length < 200) (r1 : Reach w G w1 G1) (r : Reach w1 G1 w' G') (hR : AddSymR G1 s ss.length G')
    (e1 : G1.lp = G.lp ∧ G1.lo = G.lo ∧ G1.ns = G.ns ∧ G1.S = G.S ∧ G1.nl = G.nl ∧ G1.L = G.L) (hw : G'.wn = 0) (hcs : ∀ j, j ≠ 10 → j ≠ 4 → G1.cs j = G.cs j) (h10 : G1.cs 10 = .int .u8 1) (h4 : G1.cs 4 = .int .u64 ((5 : Nat) : Int)) (pre : List UInt8) (hp : pre.length = 5) (hlf : G1.lf = pre ++ (alenblen ++ symB ss)) : P1 w' G' (ss ++ [s]) := by
  obtain ⟨x1, x2, x3, x4, x5, x6, x7, x8⟩ := hR
  obtain ⟨y1, y2, y3, y4, y5, y6⟩ := e1
  have rr := r1.trans r
  have cs : ∀ j, j ≠ 10 → j ≠ 4 → j ≠ 34 → j ≠ 37 → G'.cs j = G.cs j := fun j a b c d => by
    rw [x2]; show (if j = 34 then _ else if j = 37 then _ else G1.cs j) = _
    rw [if_neg c, if_neg d]; exact hcs j a b
  have hm : IsMap G1.S := r1.wi.s.isMap
  have hSS : ∀ l, Maps.has G'.S (.string l) = true ↔ ∃ t ∈ ss ++ [s], t.data.toList = l := by
    intro l
    rw [x6]
    by_cases e : l = s.data.toList
    · subst e
      rw [has_put_same hm (keyLit _)]
      exact ⟨fun _ => ⟨s, by simp, rfl⟩, fun _ => rfl⟩
    · rw [has_put_other (fun h => e (by injection h)), y4, h.s1 l]
      constructor
      · rintro ⟨t, ht, rfl⟩; exact ⟨t, by simp [ht], rfl⟩
      · rintro ⟨t, ht, rfl⟩
        rcases List.mem_append.1 ht with ht | ht
        · exact ⟨t, ht, rfl⟩
        · simp at ht; subst ht; exact absurd rfl e
  refine ⟨rr.wi, rr.nx.zm.trans h.zm, rr.nx.zo.trans h.zo, by rw [x3, y1, h.lp], by rw [x4, y2, h.lo], by rw [x7, y5, h.nl], by rw [x8, y6]; exact h.L,
    by rw [cs 1 (by decide) (by decide) (by decide) (by decide), rr.nx.pb]; exact h.c1, by rw [cs 2 (by decide) (by decide) (by decide) (by decide), rr.nx.ob]; exact h.c2, by rw [cs 3 (by decide) (by decide) (by decide) (by decide)]; exact h.c3,
    by rw [cs 39 (by decide) (by decide) (by decide) (by decide)]; exact h.c39, by rw [cs 46 (by decide) (by decide) (by decide) (by decide)]; exact h.c46, by rw [cs 41 (by decide) (by decide) (by decide) (by decide)]; exact h.c41, by rw [cs 42 (by decide) (by decide) (by decide) (by decide)]; exact h.c42, by rw [cs 43 (by decide) (by decide) (by decide) (by decide)]; exact h.c43,
    by rw [x2]; simp, hw, ⟨pre, hp, Or.inr ⟨by rw [x2]; exact h10, by rw [x2]; exact h4, ?_, s, by rw [x2]; rfl, by simp⟩⟩, by rw [x5, y3, h.ns]; simp, hSS, ?_, by simp; omega, fun t ht => ?_⟩
  · rw [x1, hlf, symB_snoc]; simp [symE, List.append_assoc]
  · intro l hl
    rw [x6]
    by_cases e : l = s.data.toList
    · subst e
      exact ⟨ss.length, by simp, atKey_put_same hm (keyLit _) _ _⟩
    · have hne : (Lit.string l) ≠ .string s.data.toList := fun h => e (by injection h)
      rw [x6, has_put_other hne, y4] at hl
      obtain ⟨c, hc, ha⟩ := h.s2 l hl
      exact ⟨c, by simp; omega, by rw [atKey_put_other hne, y4]; exact ha⟩
  · rcases List.mem_append.1 ht with ht | ht
    · exact h.sz t ht
    · simp at ht; subst ht; exact hs

end Go.Proofs.YtfipfoplmopkaaaGreatDoor

namespace Go.Proofs.YtfipfoplmopkaaaGreatDoor
open Go.RowKit Go.Maps

theorem addSymbol_any (w : World) (G : Gh) (ss : List ByteArray) (s : ByteArray) (h : P1 w G ss) (hs : s.size ≤ 200) (hn : ss.length < 200) :
    Calls Tryz.prog 22 #[.pointer (some ⟨G.wb, 0, none⟩), .string s] w (fun e w' =>
      ((ss = [] ∨ ∃ z, ss.getLast? = some z ∧ leB s z = false) ∧ e = .returned .nilIface ∧ ∃ G', Reach w G w' G' ∧ P1 w' G' (ss ++ [s])) ∨
      ((∃ z, ss.getLast? = some z ∧ leB s z = true) ∧ (∃ t v, e = .returned (.iface t v)) ∧ Kept (wiP G) w w')) := by
  have hl := h.lfl
  obtain ⟨pre, hp, ⟨he, h10, hlf, z, hz⟩ | ⟨h10, h4, hlf, z, hz, hlast⟩⟩ := h.ph
  · subst he
    refine (addSym_first w G s h.hG h10 h.zm (by omega) 0 (by decide) (by decide) h.c34 z hz (by omega) (by have := h.ns; simp at this; omega)).mono ?_
    rintro e w' ⟨rfl, w1, G1, r1, ⟨e1, e2, e3, e4, e5, e6, e7, e8⟩, G', r, hR⟩
    have hw1 : (G1.hold 0).wn = 0 := rfl
    have r1' := r1.low h.wn
    have r' : Reach w1 (G1.hold 0) w' (G'.hold 0) := by
      have hq := r.wi
      refine ⟨⟨hq.e1, hq.e2, hq.f, hq.p, hq.o, hq.d, hq.s, hq.l, hq.c, hq.fr, hq.t1, hq.t2, hq.t3, hq.t4, hq.t5, hq.t6, hq.t7, hq.t8, hq.t9, hq.t10, hq.t11, hq.t12, hq.t13, hq.c0, hq.c44, hq.c38, hq.c40, Nat.zero_le _⟩,
        ⟨r.nx.T, r.nx.wb, r.nx.fb, r.nx.pb, r.nx.ob, r.nx.dg, r.nx.tb, r.nx.sm, r.nx.lm, Nat.le_refl _, r.nx.zm, r.nx.zo⟩, r.kp, ⟨fun b o hb ht ho => absurd ho (Nat.not_lt_zero _), r.hp.m, r.hp.o⟩⟩
    refine Or.inl ⟨Or.inl rfl, rfl, G'.hold 0, r1'.trans r', h.step hs hn r1' r' hR ⟨e3, e4, e5, e6, e7, e8⟩ rfl (fun j a b => ?_) ?_ ?_ pre hp ?_⟩
    · show G1.cs j = _; rw [e2]; simp only [if_neg a, if_neg b]
    · show G1.cs 10 = _; rw [e2]; rfl
    · show G1.cs 4 = _; rw [e2, hlf, hp]; rfl
    · show G1.lf = _; rw [e1, hlf]; simp [symB]
  · have hne : ss ≠ [] := fun e => by rw [e] at hlast; cases hlast
    have h0 : ((ss.length : Int) != 0) = true := by
      have : 0 < ss.length := List.length_pos_iff.mpr hne
      simp; exact hne
    cases hb : leB s z with
    | false =>
      refine (addSym_good1 w G s h.hG h10 h.zm (by omega) ss.length h.c34 (by omega) z hz (by omega) (by have := h.ns; omega) h0 hb).mono ?_
      rintro e w' ⟨rfl, G', r, hR⟩
      have r' := r.low h.wn
      exact Or.inl ⟨Or.inr ⟨z, hlast, hb⟩, rfl, G'.hold 0, r', h.step hs hn (Reach.refl h.hG) r' hR ⟨rfl, rfl, rfl, rfl, rfl, rfl⟩ rfl (fun _ _ _ => rfl) h10 h4 pre hp hlf⟩
    | true =>
      refine (addSym_bad w G s h.hG h10 ss.length h.c34 z hz h0 hb).mono ?_
      rintro e w' ⟨t, v, rfl, k⟩
      exact Or.inr ⟨⟨z, hlast, hb⟩, ⟨t, v, rfl⟩, k⟩

/-- ensureStage(2) from the symbols' phase. -/
theorem P1.ens {w : World} {G : Gh} {ss : List ByteArray} (h : P1 w G ss) : ∃ pre : List UInt8, pre.length = 5 ∧ Calls Tryz.prog 53 #[.pointer (some ⟨G.wb, 0, none⟩), .int .u8 2] w (Ens2 w G ss pre 5 (.int .u64 ((5 : Nat) : Int))) := by
  have hl := h.lfl
  have hn := h.n
  obtain ⟨pre, hp, ⟨he, h10, hlf, z, hz⟩ | ⟨h10, h4, hlf, z, hz, hlast⟩⟩ := h.ph
  · subst he
    refine ⟨G.lf, by rw [hlf]; exact hp, ens2_0 w G h.hG h10 h.zm 5 (by rw [hlf]; exact hp) h.c34 h.wn (by omega)⟩
  · exact ⟨pre, hp, ens2_1 w G h.hG h10 h.zm ss pre 5 hp hlf h4 h.c34 h.wn (by omega) (by omega) (fun s hs => by have := h.sz s hs; omega)⟩

theorem ld_nil : LD ⟨#[]⟩ [] := ⟨rfl, fun s hs => by simp at hs, by decide⟩

theorem Ens2.p2 {w w' : World} {G : Gh} {ss : List ByteArray} (h : P1 w G ss) {pre : List UInt8} (hp : pre.length = 5) {e : Ending} (he : Ens2 w G ss pre 5 (.int .u64 ((5 : Nat) : Int)) e w') :
    e = .returned .nilIface ∧ ∃ G' V F sf, Reach w G w' G' ∧ P2 w' G' V F V.lf V.lf.length [] 5 ⟨#[]⟩ [] 0 0 ∧ F.ss = ss ∧ V.cs 36 = .pointer (some ⟨sf, 0, none⟩) ∧ V.S = G.S ∧ newRow w.heap.size w' F.sb := by
  obtain ⟨he, G1, sb, sf, b, c, q, r, hcs, hlf, hwn, hgf, ⟨e1, e2, e3, e4, e5, e6⟩, hsy, htsb, hnc, hnr⟩ := he
  have hn := h.n
  have hsb := symB_le ss h.sz
  have hlen : G1.lf.length = 5 + 8 + (symB ss).length + 4 := by rw [hlf]; simp [be32, hp]; omega
  have r2 := r.trans (r.wi.holdr G1.lf.length (by omega) (Nat.le_refl _))
  obtain ⟨V, hV⟩ : ∃ V : Vw, V = (G1.hold G1.lf.length).v := ⟨_, rfl⟩
  have vlf : V.lf = G1.lf := by rw [hV]; rfl
  have vcs : V.cs = G1.cs := by rw [hV]; rfl
  have vS : V.S = G.S := by rw [hV]; exact e4
  have vL : V.L = G.L := by rw [hV]; exact e6
  have vwn : V.wn = G1.lf.length := by rw [hV]; rfl
  obtain ⟨F, hF⟩ : ∃ F : Fx, F = ⟨ss, sb, b, 5, c, pre ++ (be32 (4 + (symB ss).length) ++ be32 ss.length), be32 q, b⟩ := ⟨_, rfl⟩
  have fl0 : F.l0 = G1.lf := by rw [hF, hlf]; simp [Fx.l0, List.append_assoc]
  obtain ⟨x, hx, hb⟩ := r.wi.f.b
  rw [hgf] at hb
  have hcell : ∀ j u, G1.lf[j]? = some u → w'.cell? ⟨b, 0 + j, none⟩ = some (bV u) := fun j u hj => by rw [Nat.zero_add]; exact hb.cells j u hj
  have htb : G1.T b = 11 := r.wi.t11 b hgf
  have hbl : b < w'.heap.size := r.wi.f.gl b hgf
  have c5 : G1.cs 5 = .int .u64 (G1.lf.length : Int) := by rw [hcs]; rfl
  have hG1 : ∀ j, j ≠ 10 → j ≠ 5 → j ≠ 35 → j ≠ 36 → j ≠ 4 → G1.cs j = G.cs j := fun j a1 a2 a3 a4 a5 => by
    rw [hcs]; simp only [if_neg a1, if_neg a2, if_neg a3, if_neg a4, if_neg a5]
  refine ⟨he, G1.hold G1.lf.length, V, F, sf, r2, ⟨⟨r2.wi, hV.symm, ?_, ?_, ?_, ?_, ?_, ?_, ?_, by decide, ?_, ?_⟩, ?_, ?_, ld_nil, ?_, ?_, ?_, ?_, ?_, ?_, ?_⟩, by rw [hF], ?_, vS, by rw [hF]; exact hnr⟩
  · rw [vcs, hcs]; rfl
  · rw [hV]; exact r.nx.zm.trans h.zm
  · rw [hV]; exact r.nx.zo.trans h.zo
  · refine ⟨?_, rfl, ?_, rfl, ?_, ?_, upd_same V.cs 6 (.int .u64 (V.lf.length : Int)), ?_, ?_, ?_, ?_, ?_, ?_, ?_, rfl, rfl, fun x hx => by simp at hx, by decide, by decide, ?_, ?_, ?_, ?_, ?_, ?_, ?_, ?_, ?_, ?_, ?_, ?_⟩
    · show V.lf = V.lf ++ serBs V.lf.length []; simp [serBs]
    · rw [vlf]; omega
    · rw [vlf]; omega
    · refine (upd_other V.cs 6 5 (.int .u64 (V.lf.length : Int)) (by decide)).trans ?_
      rw [vcs, vlf]; exact c5
    · refine (upd_other V.cs 6 1 (.int .u64 (V.lf.length : Int)) (by decide)).trans ?_
      rw [vcs, hG1 1 (by decide) (by decide) (by decide) (by decide) (by decide)]
      exact h.c1.trans (by rw [show ((G1.hold G1.lf.length).fz true false).pb = G.pb from r.nx.pb])
    · refine (upd_other V.cs 6 2 (.int .u64 (V.lf.length : Int)) (by decide)).trans ?_
      rw [vcs, hG1 2 (by decide) (by decide) (by decide) (by decide) (by decide)]
      exact h.c2.trans (by rw [show ((G1.hold G1.lf.length).fz true false).ob = G.ob from r.nx.ob])
    · refine (upd_other V.cs 6 3 (.int .u64 (V.lf.length : Int)) (by decide)).trans ?_
      rw [vcs, hG1 3 (by decide) (by decide) (by decide) (by decide) (by decide)]; exact h.c3
    · refine (upd_other V.cs 6 46 (.int .u64 (V.lf.length : Int)) (by decide)).trans ?_
      rw [vcs, hG1 46 (by decide) (by decide) (by decide) (by decide) (by decide)]; exact h.c46
    · refine (upd_other V.cs 6 35 (.int .u64 (V.lf.length : Int)) (by decide)).trans ?_
      rw [vcs, hcs, hF]; rfl
    · show V.lo = []
      rw [hV]; exact e2.trans h.lo
    · show V.lp = []
      rw [hV]; exact e1.trans h.lp
    · show V.nl ≤ 200
      rw [hV]; show G1.nl ≤ 200; rw [e5, h.nl]; decide
    · intro l hl
      have h1 : Maps.has V.L (.string l) = true := hl
      rw [vL, h.L] at h1; cases h1
    · rw [hF]; show ss.length < 100000; omega
    · intro s hs
      rw [hF] at hs
      refine ⟨by have := h.sz s hs; omega, ?_⟩
      show Maps.has V.S _ = true
      rw [vS]; exact (h.s1 _).2 ⟨s, hs, rfl⟩
    · rw [fl0, hF, hlen]; exact hsy
    · rw [hF]; exact htsb
    · intro j u hj
      rw [fl0] at hj
      rw [hF]; exact hcell j u hj
    · rw [hF]; exact htb
    · rw [hF]; simp [be32, hp]
    · rw [fl0, hF, hlen]; exact hnc
    · rw [fl0]; omega
    · rw [hF, hV]; exact hgf
  · rw [hF]; exact hbl
  · rw [vcs, hG1 39 (by decide) (by decide) (by decide) (by decide) (by decide)]; exact h.c39
  · rw [vcs, hcs]; rfl
  · rw [vlf]; omega
  · rw [vwn, vlf]; exact Nat.le_refl _
  · rw [fl0, vwn]; exact Nat.le_refl _
  · rw [vcs, hG1 41 (by decide) (by decide) (by decide) (by decide) (by decide)]; exact h.c41
  · rw [vcs, hG1 42 (by decide) (by decide) (by decide) (by decide) (by decide)]; exact h.c42
  · rw [vcs, hG1 43 (by decide) (by decide) (by decide) (by decide) (by decide)]; exact h.c43
  · rw [vS, hF]; exact h.s2
  · rw [hV]; show G1.nl ≤ _; rw [e5, h.nl]; decide
  · decide
  · rw [vlf]; simp; omega
  · decide
  · rw [vcs, hcs]; rfl

end Go.Proofs.YtfipfoplmopkaaaGreatDoor

namespace Go.Proofs.YtfipfoplmopkaaaGreatDoor
open Go.RowKit Go.Maps

theorem P2.go {w w' : World} {G G' : Gh} {V : Vw} {F : Fx} {pre : List UInt8} {p : Nat} {SL : List Se} {a0 : Nat} {D0 : ByteArray} {fs0 : List (List UInt8)} {r0 c0 : Nat} (h : P2 w G V F pre p SL a0 D0 fs0 r0 c0) (r : Reach w G w' G') (v : G'.v = V) : P2 w' G' V F pre p SL a0 D0 fs0 r0 c0 := by
  have q := h.p3.h
  have nx := r.nx
  have hgw : G.wn = V.wn := congrArg Vw.wn h.p3.hV
  have hfl0 := h.p3.b0
  refine ⟨⟨r.wi, v, h.p3.h10, h.p3.zm, h.p3.zo, ?_, Nat.lt_of_lt_of_le hfl0 r.kp.size, h.p3.h39, h.p3.h4, h.p3.ha0, h.p3.hL7, h.p3.hwn⟩, h.wn, h.h41, h.ld0, h.h42, h.h43, h.sn, h.nl, h.sm, h.lb, h.sl⟩
  refine ⟨q.lf, q.hp, q.p0, q.hL, q.ll, q.h5, q.h6, ?_, ?_, q.h3, q.h46, q.h35, q.lo, q.lp, rfl, rfl, q.ok, q.sl, q.sn, q.nl, q.L9, q.ssl, q.ss, ?_, (nx.T _ q.sy.sbl).trans q.tsb, ?_, (nx.T _ hfl0).trans q.t0, q.hA, q.nc, q.l0l, q.gf⟩
  · rw [show (G'.fz true false).pb = (G.fz true false).pb from nx.pb]; exact q.h1
  · rw [show (G'.fz true false).ob = (G.fz true false).ob from nx.ob]; exact q.h2
  · exact q.sy.blocks (KT.block r.kp q.sy.sbl q.tsb) (fun k hk hlt => ⟨KT.block r.kp hlt hk.2.2, Nat.lt_of_lt_of_le hlt r.kp.size, hk.2.1, (nx.T k hlt).trans hk.2.2⟩)
  · intro j u hj
    have hjl : j < F.l0.length := by
      by_cases hh : j < F.l0.length
      · exact hh
      · have h9 : F.l0[j]? = some u := hj
        rw [List.getElem?_eq_none (by omega)] at h9; cases h9
    exact (r.hp.h F.b0 (0 + j) hfl0 q.t0 (by rw [hgw]; have := h.wn; omega)).trans (q.c0 j u hj)

theorem SY.nr {A : Nat → Prop} {w : World} {sb b p n c : Nat} {ss : List ByteArray} {j nb : Nat} (h : SY A w sb b p n c ss j) (hn : newRow nb w sb) : SY (fun k => A k ∧ nb ≤ k) w sb b p n c ss j := by
  obtain ⟨v, h1, h2, h3⟩ := h.c3
  exact ⟨h.c0, h.c1, ⟨v, h1, h2, fun k e => ⟨h3 k e, hn.2 v k h1 e⟩⟩, h.c4, h.f3, h.f4, h.c2⟩

/-- A block that is nobody's, and elder than the Writer, is turned. -/
theorem P2.set {w w' : World} {G : Gh} {V : Vw} {F : Fx} {pre : List UInt8} {p : Nat} {SL : List Se} {a0 : Nat} {D0 : ByteArray} {fs0 : List (List UInt8)} {r0 c0 nb k0 : Nat} (h : P2 w G V F pre p SL a0 D0 fs0 r0 c0) (hn : newRow nb w F.sb) (hk : Kept (fun k _ => k = k0) w w') (h0 : k0 < nb) (ht : G.T k0 = 0) : P2 w' G V F pre p SL a0 D0 fs0 r0 c0 := by
  have q := h.p3.h
  have hsl := q.sy.sbl
  refine ⟨⟨h.p3.hG.kept hk (fun k o _ e => by rw [e]; exact ht), h.p3.hV, h.p3.h10, h.p3.zm, h.p3.zo, ?_, Nat.lt_of_lt_of_le h.p3.b0 hk.size, h.p3.h39, h.p3.h4, h.p3.ha0, h.p3.hL7, h.p3.hwn⟩, h.wn, h.h41, h.ld0, h.h42, h.h43, h.sn, h.nl, h.sm, h.lb, h.sl⟩
  refine ⟨q.lf, q.hp, q.p0, q.hL, q.ll, q.h5, q.h6, q.h1, q.h2, q.h3, q.h46, q.h35, q.lo, q.lp, rfl, rfl, q.ok, q.sl, q.sn, q.nl, q.L9, q.ssl, q.ss, ?_, q.tsb, ?_, q.t0, q.hA, q.nc, q.l0l, q.gf⟩
  · exact (q.sy.nr hn).blocks (hk.block _ hsl (fun _ e => by have := hn.1; omega)) (fun k hA hlt => ⟨hk.block k hlt (fun _ e => by have := hA.2; omega), Nat.lt_of_lt_of_le hlt hk.size, hA.1.2⟩)
  · intro j u hj
    refine (hk.cell F.b0 (0 + j) h.p3.b0 (fun e => ?_)).trans (q.c0 j u hj)
    have h11 : G.T F.b0 = 11 := q.t0
    rw [e, ht] at h11
    cases h11

/-- The Writer between the series, whatever lies where. ss: the symbols; n: how many series; nb: a bound from below of the blocks of the table of symbols. -/
def PSr (nb : Nat) (w : World) (G : Gh) (ss : List ByteArray) (n : Nat) (D0 : ByteArray) (fs0 : List (List UInt8)) (r0 c0 : Nat) : Prop :=
  ∃ V F pre p SL a0, P2 w G V F pre p SL a0 D0 fs0 r0 c0 ∧ SL.length = n ∧ F.ss = ss ∧ (∃ sf, V.cs 36 = .pointer (some ⟨sf, 0, none⟩)) ∧ (∀ l : List UInt8, Maps.has V.S (.string l) = true ↔ ∃ s ∈ ss, s.data.toList = l) ∧ newRow nb w F.sb
/-- The Writer in the symbols' phase, or between the series. -/
def PWr (nb : Nat) (w : World) (G : Gh) (ss : List ByteArray) (n : Nat) (D0 : ByteArray) (fs0 : List (List UInt8)) (r0 c0 : Nat) : Prop :=
  (P1 w G ss ∧ n = 0 ∧ D0 = ⟨#[]⟩ ∧ fs0 = [] ∧ r0 = 0 ∧ c0 = 0 ∧ nb ≤ w.heap.size) ∨ PSr nb w G ss n D0 fs0 r0 c0

theorem PSr.go {nb : Nat} {w w' : World} {G G' : Gh} {ss : List ByteArray} {n : Nat} {D0 : ByteArray} {fs0 : List (List UInt8)} {r0 c0 : Nat} (h : PSr nb w G ss n D0 fs0 r0 c0) (r : Reach w G w' G') (v : G'.v = G.v) : PSr nb w' G' ss n D0 fs0 r0 c0 := by
  obtain ⟨V, F, pre, p, SL, a0, h1, h2, h3, h4, h5, h6⟩ := h
  exact ⟨V, F, pre, p, SL, a0, h1.go r (v.trans h1.p3.hV), h2, h3, h4, h5, h6.blk (KT.block r.kp h1.p3.h.sy.sbl h1.p3.h.tsb)⟩
theorem PWr.wi {nb : Nat} {w : World} {G : Gh} {ss : List ByteArray} {n : Nat} {D0 : ByteArray} {fs0 : List (List UInt8)} {r0 c0 : Nat} (h : PWr nb w G ss n D0 fs0 r0 c0) : WI w G := by
  rcases h with ⟨h, _⟩ | ⟨V, F, pre, p, SL, a0, h, _⟩
  · exact h.hG
  · exact h.p3.hG
theorem PWr.go {nb : Nat} {w w' : World} {G G' : Gh} {ss : List ByteArray} {n : Nat} {D0 : ByteArray} {fs0 : List (List UInt8)} {r0 c0 : Nat} (h : PWr nb w G ss n D0 fs0 r0 c0) (r : Reach w G w' G') (v : G'.v = G.v) : PWr nb w' G' ss n D0 fs0 r0 c0 := by
  rcases h with ⟨h, h1, h2, h3, h4, h5, h6⟩ | h
  · exact Or.inl ⟨h.go r v, h1, h2, h3, h4, h5, Nat.le_trans h6 r.kp.size⟩
  · exact Or.inr (h.go r v)
theorem P1.set {w w' : World} {G : Gh} {ss : List ByteArray} {k0 : Nat} (h : P1 w G ss) (hk : Kept (fun k _ => k = k0) w w') (ht : G.T k0 = 0) : P1 w' G ss :=
  ⟨h.hG.kept hk (fun k o _ e => by rw [e]; exact ht), h.zm, h.zo, h.lp, h.lo, h.nl, h.L, h.c1, h.c2, h.c3, h.c39, h.c46, h.c41, h.c42, h.c43, h.c34, h.wn, h.ph, h.ns, h.s1, h.s2, h.n, h.sz⟩
theorem PWr.set {nb : Nat} {w w' : World} {G : Gh} {ss : List ByteArray} {n k0 : Nat} {D0 : ByteArray} {fs0 : List (List UInt8)} {r0 c0 : Nat} (h : PWr nb w G ss n D0 fs0 r0 c0) (hk : Kept (fun k _ => k = k0) w w') (h0 : k0 < nb) (ht : G.T k0 = 0) : PWr nb w' G ss n D0 fs0 r0 c0 := by
  rcases h with ⟨h, h1, h2, h3, h4, h5, h6⟩ | ⟨V, F, pre, p, SL, a0, h1, h2, h3, h4, h5, h6⟩
  · exact Or.inl ⟨h.set hk ht, h1, h2, h3, h4, h5, Nat.le_trans h6 hk.size⟩
  · exact Or.inr ⟨V, F, pre, p, SL, a0, h1.set h6 hk h0 ht, h2, h3, h4, h5, h6.blk (hk.block _ h1.p3.h.sy.sbl (fun _ e => by have := h6.1; omega))⟩

/-- ensureStage(2), from either. -/
theorem PWr.ens {nb : Nat} {w : World} {G : Gh} {ss : List ByteArray} {n : Nat} {D0 : ByteArray} {fs0 : List (List UInt8)} {r0 c0 : Nat} (h : PWr nb w G ss n D0 fs0 r0 c0) :
    Calls Tryz.prog 53 #[.pointer (some ⟨G.wb, 0, none⟩), .int .u8 2] w (fun e w' => e = .returned .nilIface ∧ ∃ G', Reach w G w' G' ∧ PSr nb w' G' ss n D0 fs0 r0 c0) := by
  rcases h with ⟨h, rfl, rfl, rfl, rfl, rfl, hnb⟩ | h
  · obtain ⟨pre, hp, hc⟩ := h.ens
    refine hc.mono fun e w' he => ?_
    obtain ⟨h1, G', V, F, sf, r, h2, h3, h4, h5, h6⟩ := Ens2.p2 h hp he
    exact ⟨h1, G', r, V, F, V.lf, V.lf.length, [], 5, h2, rfl, h3, ⟨sf, h4⟩, by rw [h5]; exact h.s1, h6.le hnb⟩
  · have hh := h
    obtain ⟨V, F, pre, p, SL, a0, h1, _⟩ := h
    refine (ens_same w G.wb 2 ((Reach.refl h1.p3.hG).cv h1.p3.hV 10 h1.p3.h10 (by decide) (by decide))).mono fun e w' ⟨he, hw⟩ => ?_
    subst hw
    exact ⟨he, G, Reach.refl h1.p3.hG, hh⟩

/-- Every word of the labels is among the symbols. -/
def inW (ss : List ByteArray) (ls : List Lab) : Prop := ∀ x ∈ ls, (∃ s ∈ ss, s.data.toList = x.1.data.toList) ∧ ∃ s ∈ ss, s.data.toList = x.2.data.toList

/-- AddSeries. -/
theorem addSeries_any (nb : Nat) (w : World) (G : Gh) (ss : List ByteArray) (n : Nat) (D0 : ByteArray) (fs0 : List (List UInt8)) (r0 c0 : Nat) (h : PWr nb w G ss n D0 fs0 r0 c0) (hn : n < 20) (D : ByteArray) (ls : List Lab) (hD : LD D (fsL ls)) (hl : LOK ls) (hl10 : ls.length ≤ 10) (ha : AscL ls) (rf : Nat)
    (b o cc m : Nat) (cs : List Ck) (ao : Option Addr) (hm : m = cs.length) (hv3 : 0 < m → ao = some ⟨b, o, none⟩ ∧ m ≤ cc ∧ RowC w b o cs ∧ b < w.heap.size ∧ G.T b = 0) (hr : r0 ≤ rf) (hck : CkO c0 cs) :
    Calls Tryz.prog 23 #[.pointer (some ⟨G.wb, 0, none⟩), .int .u64 rf, .agg #[.string D], .slice ao m cc] w (fun e w' =>
      ((cmpF (fsL ls) fs0 ≤ 0 ∨ ¬ inW ss ls) ∧ (∃ t v, e = .returned (.iface t v)) ∧ ∃ G', Reach w G w' G') ∨
      ((0 < cmpF (fsL ls) fs0 ∧ inW ss ls) ∧ e = .returned .nilIface ∧ ∃ G', Reach w G w' G' ∧ PWr nb w' G' ss (n + 1) D (fsL ls) rf (lastR c0 cs))) := by
  have key := addS_any w G G.v h.wi rfl D ls hD hl ha rf b o cc m cs ao hm hv3 D0 fs0 r0 c0 ss.length n hr hck (fun w G V => PSr nb w G ss n D0 fs0 r0 c0 ∧ G.v = V) (fun w G V ⟨hp, hv⟩ => by
      obtain ⟨V', F, pre, p, SL, a0, h1, h2, h3, _⟩ := hp
      have hq := h1.aq
      rw [h2, h3, ← h1.p3.hV, hv] at hq
      exact hq) (fun w1 G1 r1 v1 => by
      have := (h.go r1 v1).ens
      rw [r1.nx.wb] at this
      exact this.mono fun e w' ⟨he, G', r, hp⟩ => ⟨he, G', G'.v, r, hp, rfl⟩)
  refine key.mono ?_
  rintro e w' ⟨w1, G1, V1, r1, ⟨⟨V, F, pre, p, SL, a0, h1, h2, h3, h4, h5, h6⟩, hv⟩, ho⟩
  have eV : V1 = V := hv.symm.trans h1.p3.hV
  subst eV
  have hin : AllS V1.S ls ↔ inW ss ls := by
    unfold AllS inW
    simp only [h5]
  rcases ho with ⟨c1, he, G', r⟩ | ⟨c1, c2, he, G', r⟩ | ⟨c1, c2, he, hk⟩
  · exact Or.inl ⟨Or.inl c1, he, G', r1.trans r⟩
  · exact Or.inl ⟨Or.inr (fun hh => c2 (hin.2 hh)), he, G', r1.trans r⟩
  · refine Or.inr ⟨⟨c1, hin.1 c2⟩, he, ?_⟩
    rw [← h3, ← h2] at hk
    obtain ⟨G', V', F', s, r, p2, e36, eS, eF, eB⟩ := h1.add hD hl10 (by omega) hk
    exact ⟨G', r1.trans r, Or.inr ⟨V', F', pre, p, SL ++ [s], a0, p2, by simp [h2], eF.trans h3, by rw [e36]; exact h4, by rw [eS]; exact h5, by rw [eB]; exact h6.blk (KT.block r.kp h1.p3.h.sy.sbl h1.p3.h.tsb)⟩⟩

end Go.Proofs.YtfipfoplmopkaaaGreatDoor

namespace Go.Proofs.YtfipfoplmopkaaaGreatDoor
open Go.RowKit Go.Maps

theorem closeW_any {nb : Nat} {w : World} {G : Gh} {ss : List ByteArray} {n : Nat} {D0 : ByteArray} {fs0 : List (List UInt8)} {r0 c0 : Nat} (h : PWr nb w G ss n D0 fs0 r0 c0) :
    Calls Tryz.prog 25 #[.pointer (some ⟨G.wb, 0, none⟩)] w (fun e w' => e = .returned .nilIface ∧ ∃ G', Reach w G w' G') := by
  refine close_any w G ?_
  rcases h with ⟨h, _⟩ | ⟨V, F, pre, p, SL, a0, h1, h2, h3, h4, h5, h6⟩
  · have hcall : Calls Tryz.prog 53 #[.pointer (some ⟨G.wb, 0, none⟩), .int .u8 2] w (fun e w' => e = .returned .nilIface ∧ ∃ G' V F pre p L SL a0, Reach w G w' G' ∧ P3 w' G' V F pre p L SL a0 ∧ ∃ sf, V.cs 36 = .pointer (some ⟨sf, 0, none⟩)) := by
      obtain ⟨pre, hp, hc⟩ := h.ens
      refine hc.mono fun e w' he => ?_
      obtain ⟨h1, G', V, F, sf, r, h2, h3, h4, h5, h6⟩ := Ens2.p2 h hp he
      exact ⟨h1, G', V, F, V.lf, V.lf.length, V.lf.length, [], 5, r, h2.p3, sf, h4⟩
    obtain ⟨pre, hp, ⟨_, h10, _⟩ | ⟨h10, _⟩⟩ := h.ph
    · exact ens3_01 w G h.hG 0 (by decide) h10 (fun v => ∃ sf, v = .pointer (some ⟨sf, 0, none⟩)) hcall
    · exact ens3_01 w G h.hG 1 (by decide) h10 (fun v => ∃ sf, v = .pointer (some ⟨sf, 0, none⟩)) hcall
  · exact (ens3_2 w G V F pre p V.lf.length SL a0 h1.p3).mono fun e w' he => ⟨V.cs 36, h4, he⟩

set_option maxHeartbeats 1000000 in
theorem zzBytesW_any (w : World) (G : Gh) (h : WI w G) : Calls Tryz.prog 26 #[.pointer (some ⟨G.wb, 0, none⟩)] w (fun e w' => (∃ ao n c, e = .returned (.slice ao n c)) ∧ w' = w) := by
  obtain ⟨v, hv, hb⟩ := h.f.b
  obtain ⟨ao, c, rfl⟩ := own_slice hb.1
  have f0 := (Reach.refl h).f0
  clear hb h
  go_enter Tryz.func26, Tryz.ntmps26
  go_wp2
  go_ret
  exact ⟨⟨_, _, _, rfl⟩, rfl⟩

end Go.Proofs.YtfipfoplmopkaaaGreatDoor
