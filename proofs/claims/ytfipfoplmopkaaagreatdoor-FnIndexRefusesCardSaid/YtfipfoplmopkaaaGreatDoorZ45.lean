/- (*Writer).Close(25). Condition: what ensureStage(3) leaves. The Writer at stage 2, between the series. Conditions: bounds on counts. AddSymbol(22) at stage 0; the Writer in the symbols' phase; the first ensureStage(2). Conditions: bounds on counts. The Writer while the symbols are added; the way to the series. Conditions: at most 200 symbols of at most 200 bytes. -/
import Derived.Test.YtfipfoplmopkaaaGreatDoorZ44
import Derived.Test.YtfipfoplmopkaaaGreatDoorZ39

namespace Go.Proofs.YtfipfoplmopkaaaGreatDoor
open Go.RowKit

set_option maxRecDepth 100000 in
set_option maxHeartbeats 4000000 in
theorem close_any (w : World) (G : Gh) (he : Calls Tryz.prog 53 #[.pointer (some ⟨G.wb, 0, none⟩), .int .u8 3] w (fun e w' => ∃ c36, (∃ sf, c36 = .pointer (some ⟨sf, 0, none⟩)) ∧ Ens3 w G c36 e w')) :
    Calls Tryz.prog 25 #[.pointer (some ⟨G.wb, 0, none⟩)] w (fun e w' => e = .returned .nilIface ∧ ∃ G', Reach w G w' G') := by
  have HE := Lib.hid he
  clear he
  go_enter Tryz.func25, Tryz.ntmps25
  go_wp2_with fail
  refine HE.out.mono ?_
  rintro e w1 ⟨_, ⟨sf, rfl⟩, rfl, G1, r1, h1, h2, h36⟩
  have R1 := Lib.hid r1
  have f36 := R1.out.fld 36 h36 (by decide) (by decide)
  have f1 := R1.out.fld 1 h1 (by decide) (by decide)
  have f2 := R1.out.fld 2 h2 (by decide) (by decide)
  have f0 := R1.out.f0
  clear r1 h1 h2 h36 HE
  go_wp2_with fail
  refine (zzClose_any _ _).mono ?_
  rintro e w' ⟨rfl, rfl⟩
  go_wp2_with fail
  refine (fwClose_any _ _).mono ?_
  rintro e w' ⟨rfl, rfl⟩
  go_wp2
  go_ret
  exact ⟨rfl, G1, R1.out⟩

end Go.Proofs.YtfipfoplmopkaaaGreatDoor

namespace Go.Proofs.YtfipfoplmopkaaaGreatDoor
open Go.RowKit Go.Maps

theorem seN_snoc (SL : List Se) (s : Se) : seN (SL ++ [s]) = seN SL + s.ps.length := by simp [seN]

/-- The Writer between the series: SL written, the last one's labels D0 (the strings fs0), the last references r0, c0. -/
structure P2 (w : World) (G : Gh) (V : Vw) (F : Fx) (pre : List UInt8) (p : Nat) (SL : List Se) (a0 : Nat) (D0 : ByteArray) (fs0 : List (List UInt8)) (r0 c0 : Nat) : Prop where
  p3 : P3 w G V F pre p V.lf.length SL a0
  wn : F.l0.length ≤ V.wn
  h41 : V.cs 41 = .string D0
  ld0 : LD D0 fs0
  h42 : V.cs 42 = .int .u64 (r0 : Int)
  h43 : V.cs 43 = .int .u64 (c0 : Int)
  sn : SN V.S F.ss.length
  nl : V.nl ≤ 10 * SL.length
  sm : seN SL ≤ 10 * SL.length
  lb : V.lf.length ≤ 1000000 + 2000 * SL.length
  sl : SL.length ≤ 20

theorem P2.aq {w : World} {G : Gh} {V : Vw} {F : Fx} {pre : List UInt8} {p : Nat} {SL : List Se} {a0 : Nat} {D0 : ByteArray} {fs0 : List (List UInt8)} {r0 c0 : Nat} (h : P2 w G V F pre p SL a0 D0 fs0 r0 c0) : AQ w G V D0 fs0 r0 c0 F.ss.length SL.length :=
  ⟨h.p3.hG, h.p3.hV, h.p3.zm, h.h41, h.ld0, h.h42, h.h43, by have := h.lb; have := h.sl; omega, by have := h.p3.h.ssl; omega, h.sn, by have := h.sl; omega, h.p3.h.L9, by have := h.nl; have := h.sl; omega⟩

theorem Se.d_len (s : Se) : s.d.length = (Lib.uvarint s.c.length).length + (s.c.length + s.sm.length) := by simp [Se.d]
theorem Se.c_len (s : Se) : s.c.length = (Lib.uvarint s.ps.length).length + ((pairsB s.ps).length + s.tl.length) := by simp [Se.c]

theorem P2.add {w w' : World} {G : Gh} {V : Vw} {F : Fx} {pre : List UInt8} {p : Nat} {SL : List Se} {a0 : Nat} {D0 : ByteArray} {fs0 : List (List UInt8)} {r0 c0 : Nat} (h : P2 w G V F pre p SL a0 D0 fs0 r0 c0) {D : ByteArray} {ls : List Lab} {rf lc : Nat}
    (hD : LD D (fsL ls)) (hl : ls.length ≤ 10) (hs : SL.length < 20) (ha : AddK w G V D ls rf lc F.ss.length SL.length w') : ∃ G' V' F' s, Reach w G w' G' ∧ P2 w' G' V' F' pre p (SL ++ [s]) a0 D (fsL ls) rf lc ∧ V'.cs 36 = V.cs 36 ∧ V'.S = V.S ∧ F'.ss = F.ss ∧ F'.sb = F.sb := by
  obtain ⟨G', s, g, l1, l2, L', r, v, h1, h2, h3, h4, h5⟩ := ha
  obtain ⟨V', hV'⟩ : ∃ V' : Vw, V' = { V with l1 := l1, l2 := l2, gf := g, lf := V.lf ++ (zeros (padN V.lf.length 16) ++ Se.d s), nl := V.nl + ls.length, L := L', cs := upd (upd (upd V.cs 41 (.string D)) 42 (.int .u64 (rf : Int))) 43 (.int .u64 (lc : Int)) } := ⟨_, rfl⟩
  rw [← hV'] at v
  have q := h.p3.h
  have ecs : ∀ i, i ≠ 41 → i ≠ 42 → i ≠ 43 → V'.cs i = V.cs i := fun i e1 e2 e3 => by
    rw [hV']
    exact (upd_other (upd (upd V.cs 41 (.string D)) 42 (.int .u64 (rf : Int))) 43 i (.int .u64 (lc : Int)) e3).trans ((upd_other (upd V.cs 41 (.string D)) 42 i (.int .u64 (rf : Int)) e2).trans (upd_other V.cs 41 i (.string D) e1))
  have elf : V'.lf = V.lf ++ (zeros (padN V.lf.length 16) ++ Se.d s) := by rw [hV']
  have hss : F.ss.length < 100000 := q.ssl
  have hcl : s.c.length ≤ 810 := by
    rw [Se.c_len]
    have u := Lib.uvarint_length64 (x := s.ps.length) (by omega)
    have k := pairsB_len s.ps F.ss.length (by omega) h2
    rw [h1] at k
    omega
  have hdl : s.d.length ≤ 824 := by
    rw [Se.d_len, h5]
    have u := Lib.uvarint_length64 (x := s.c.length) (by omega)
    omega
  have hpd := padN_lt V.lf.length 16 (by decide)
  have hlen : V'.lf.length = V.lf.length + (padN V.lf.length 16 + s.d.length) := by rw [elf]; simp
  have hVlf : V.lf = pre ++ serBs p SL := q.lf
  have hVll : V.lf.length = p + (serBs p SL).length := by rw [hVlf, List.length_append, q.hp]
  have hlb := h.lb
  have hsl := h.sl
  have hwn' : V'.wn = V.wn := by rw [hV']
  have hfl0 : F.b0 < w.heap.size := h.p3.b0
  have hgw : G.wn = V.wn := congrArg Vw.wn h.p3.hV
  have hgb : ∃ b, g = some b := by
    have hf := r.wi.f
    obtain ⟨x, _, hb⟩ := hf.b
    rcases hb.form with ⟨_, _, h0⟩ | ⟨b, cap, _, hg, _⟩
    · have : G'.lf = V'.lf := congrArg Vw.lf v
      rw [this] at h0
      have h0' := congrArg List.length h0
      rw [hlen, List.length_nil] at h0'
      have := Se.d_pos s
      omega
    · exact ⟨b, by rw [← hg]; have : G'.gf = V'.gf := congrArg Vw.gf v; rw [this, hV']⟩
  obtain ⟨b', hb'⟩ := hgb
  have nx := r.nx
  refine ⟨G', V', { F with b := b' }, s, r, ⟨⟨r.wi, v, ?_, ?_, ?_, ?_, ?_, ?_, ?_, h.p3.ha0, ?_, ?_⟩, ?_, ?_, hD, ?_, ?_, ?_, ?_, ?_, ?_, ?_⟩, ecs 36 (by decide) (by decide) (by decide), by rw [hV'], rfl, rfl⟩
  · rw [ecs 10 (by decide) (by decide) (by decide)]; exact h.p3.h10
  · rw [hV']; exact h.p3.zm
  · rw [hV']; exact h.p3.zo
  · refine ⟨?_, q.hp, q.p0, rfl, ?_, ?_, upd_same V'.cs 6 (.int .u64 (V'.lf.length : Int)), ?_, ?_, ?_, ?_, ?_, ?_, ?_, rfl, rfl, ?_, ?_, ?_, ?_, ?_, q.ssl, ?_, ?_, ?_, ?_, ?_, q.hA, q.nc, q.l0l, ?_⟩
    · show V'.lf = _
      rw [elf, serBs_snoc, ← List.append_assoc pre, ← hVlf, hVll]
    · omega
    · exact (upd_other V'.cs 6 5 (.int .u64 (V'.lf.length : Int)) (by decide)).trans ((ecs 5 (by decide) (by decide) (by decide)).trans ((upd_other V.cs 6 5 (.int .u64 (V.lf.length : Int)) (by decide)).symm.trans q.h5))
    · refine (upd_other V'.cs 6 1 (.int .u64 (V'.lf.length : Int)) (by decide)).trans ((ecs 1 (by decide) (by decide) (by decide)).trans ((upd_other V.cs 6 1 (.int .u64 (V.lf.length : Int)) (by decide)).symm.trans ?_))
      rw [show (G'.fz true false).pb = (G.fz true false).pb from nx.pb]; exact q.h1
    · refine (upd_other V'.cs 6 2 (.int .u64 (V'.lf.length : Int)) (by decide)).trans ((ecs 2 (by decide) (by decide) (by decide)).trans ((upd_other V.cs 6 2 (.int .u64 (V.lf.length : Int)) (by decide)).symm.trans ?_))
      rw [show (G'.fz true false).ob = (G.fz true false).ob from nx.ob]; exact q.h2
    · exact (upd_other V'.cs 6 3 (.int .u64 (V'.lf.length : Int)) (by decide)).trans ((ecs 3 (by decide) (by decide) (by decide)).trans ((upd_other V.cs 6 3 (.int .u64 (V.lf.length : Int)) (by decide)).symm.trans q.h3))
    · exact (upd_other V'.cs 6 46 (.int .u64 (V'.lf.length : Int)) (by decide)).trans ((ecs 46 (by decide) (by decide) (by decide)).trans ((upd_other V.cs 6 46 (.int .u64 (V.lf.length : Int)) (by decide)).symm.trans q.h46))
    · exact (upd_other V'.cs 6 35 (.int .u64 (V'.lf.length : Int)) (by decide)).trans ((ecs 35 (by decide) (by decide) (by decide)).trans ((upd_other V.cs 6 35 (.int .u64 (V.lf.length : Int)) (by decide)).symm.trans q.h35))
    · show V'.lo = []
      rw [hV']; exact q.lo
    · show V'.lp = []
      rw [hV']; exact q.lp
    · intro x hx
      rcases List.mem_append.1 hx with hx | hx
      · exact q.ok x hx
      · simp at hx; subst hx; exact ⟨h2, by omega, by omega, h5⟩
    · rw [List.length_append]; simp; omega
    · rw [seN_snoc]; have := h.sm; omega
    · show V'.nl ≤ 200
      rw [hV']; show V.nl + ls.length ≤ 200
      have := h.nl; omega
    · intro l hl'
      have hl2 : Maps.has L' (.string l) = true := by have := hl'; rw [hV'] at this; exact this
      obtain ⟨x1, x2, c, x3, x4⟩ := h3 l hl2
      refine ⟨x1, by show Maps.has V'.S _ = true; rw [hV']; exact x2, c, by rw [List.length_append]; exact x3, fun z => by show V'.L.atKey _ _ = _; rw [hV']; exact x4 z⟩
    · intro x hx
      obtain ⟨x1, x2⟩ := q.ss x hx
      exact ⟨x1, by show Maps.has V'.S _ = true; rw [hV']; exact x2⟩
    · exact q.sy.blocks (KT.block r.kp q.sy.sbl q.tsb) (fun k hk hlt => ⟨KT.block r.kp hlt hk.2.2, Nat.lt_of_lt_of_le hlt r.kp.size, hk.2.1, (nx.T k hlt).trans hk.2.2⟩)
    · exact (nx.T _ q.sy.sbl).trans q.tsb
    · intro j u hj
      have hjl : j < F.l0.length := by
        by_cases hh : j < F.l0.length
        · exact hh
        · have h9 : F.l0[j]? = some u := hj
          rw [List.getElem?_eq_none (by omega)] at h9; cases h9
      exact (r.hp.h F.b0 (0 + j) hfl0 q.t0 (by rw [hgw]; have := h.wn; omega)).trans (q.c0 j u hj)
    · exact (nx.T _ hfl0).trans q.t0
    · show V'.gf = some b'
      rw [hV']; exact hb'
  · exact Nat.lt_of_lt_of_le hfl0 r.kp.size
  · rw [ecs 39 (by decide) (by decide) (by decide)]; exact h.p3.h39
  · rw [ecs 4 (by decide) (by decide) (by decide)]; exact h.p3.h4
  · omega
  · rw [hwn']; have := h.p3.hwn; omega
  · rw [hwn']; exact h.wn
  · rw [hV']
    exact (upd_other (upd (upd V.cs 41 (.string D)) 42 (.int .u64 (rf : Int))) 43 41 (.int .u64 (lc : Int)) (by decide)).trans ((upd_other (upd V.cs 41 (.string D)) 42 41 (.int .u64 (rf : Int)) (by decide)).trans (upd_same V.cs 41 (.string D)))
  · rw [hV']
    exact (upd_other (upd (upd V.cs 41 (.string D)) 42 (.int .u64 (rf : Int))) 43 42 (.int .u64 (lc : Int)) (by decide)).trans (upd_same (upd V.cs 41 (.string D)) 42 (.int .u64 (rf : Int)))
  · rw [hV']; exact upd_same (upd (upd V.cs 41 (.string D)) 42 (.int .u64 (rf : Int))) 43 (.int .u64 (lc : Int))
  · rw [hV']; exact h.sn
  · rw [hV', List.length_append]; show V.nl + ls.length ≤ _; have := h.nl; simp; omega
  · rw [seN_snoc, List.length_append]; have := h.sm; simp; omega
  · rw [hlen, List.length_append]; simp; omega
  · rw [List.length_append]; simp; omega

end Go.Proofs.YtfipfoplmopkaaaGreatDoor

namespace Go.Proofs.YtfipfoplmopkaaaGreatDoor
open Go.RowKit Go.Maps

set_option maxRecDepth 100000 in
set_option maxHeartbeats 1000000 in
/-- AddSymbol where nothing was written yet: G1 is the Writer behind ensureStage(1). -/
theorem addSym_first (w0 : World) (G0 : Gh) (s : ByteArray) (h : WI w0 G0) (hs : G0.cs 10 = .int .u8 0) (hm0 : G0.zm = false) (hl : G0.lf.length < 90000000) (n : Nat) (h0 : ((n : Int) != 0) = false) (hn32 : n < 100000) (hn0 : G0.cs 34 = .int .i64 n) (z : ByteArray) (hz0 : G0.cs 37 = .string z)
    (hss : s.size < 10000) (hns : G0.ns < 100000) :
    Calls Tryz.prog 22 #[.pointer (some ⟨G0.wb, 0, none⟩), .string s] w0 fun e w' => e = .returned .nilIface ∧ ∃ w1 G1, Reach w0 G0 w1 G1 ∧ (G1.lf = G0.lf ++ alenblen ∧ G1.cs = (fun j => if j = 10 then .int .u8 1 else if j = 4 then .int .u64 G0.lf.length else G0.cs j) ∧ G1.lp = G0.lp ∧ G1.lo = G0.lo ∧ G1.ns = G0.ns ∧ G1.S = G0.S ∧ G1.nl = G0.nl ∧ G1.L = G0.L) ∧ Aft w1 G1 w' (AddSymR G1 s n) := by
  have HENS := Lib.hid (ens1_any w0 G0 h hs (by omega) hm0)
  have HNS0 := Lib.hid hns
  have HSS := Lib.hid hss
  have HL0 := Lib.hid hl
  clear h hl hns hss
  go_enter Tryz.func22, Tryz.ntmps22
  go_wp2_with fail
  refine HENS.out.mono ?_
  rintro e w ⟨rfl, G, hr, hlf, hcs, hlp, hlo, hns', hS, hnl, hL⟩
  have hm : G.zm = false := hr.nx.zm.trans hm0
  have hn : G.cs 34 = .int .i64 n := by rw [hcs]; exact hn0
  have hz : G.cs 37 = .string z := by rw [hcs]; exact hz0
  have H := Lib.hid hr.wi
  have hl : G.lf.length < 100000000 := by rw [hlf, List.length_append]; have := HL0.out; simp [alenblen]; omega
  have HL := Lib.hid hl
  have HNS : Hid (G.ns < 100000) := Lib.hid (by rw [hns']; exact HNS0.out)
  have f34 := hr.fld 34 hn (by decide) (by decide)
  have f37 := hr.fld 37 hz (by decide) (by decide)
  have f38 := hr.c38
  have g37 := hr.fr 37 (by decide)
  have g34 := hr.fr 34 (by decide)
  have hwb : G0.wb = G.wb := hr.nx.wb.symm
  have R1 := Lib.hid (hr.wi.setr 37 (.string s) (by decide) (by decide) (by decide) (by decide) (by decide) (by decide))
  have HR0 := Lib.hid (And.intro hr (And.intro hlf (And.intro hcs (And.intro hlp (And.intro hlo (And.intro hns' (And.intro hS (And.intro hnl hL))))))))
  have hsm : G0.sm = G.sm := hr.nx.sm.symm
  rw [hwb] at f34 f37 f38 g37 g34
  rw [hsm] at f38
  simp only [hwb]
  clear hr hlf hcs hlp hlo hns' hS hnl hL hl hwb hsm
  go_wp2
  clear f34 f37 f38 g37 g34
  generalize w.setCell { block := G.wb, off := 37 } (Value.string s) = w1 at R1 ⊢
  have f38' : w1.cell? ⟨G.wb, 38, none⟩ = some (.map (some G.sm)) := R1.out.wi.fld 38 (by decide) (by decide) R1.out.wi.c38
  have f34' : w1.cell? ⟨G.wb, 34, none⟩ = some (.int .i64 n) := R1.out.wi.fld 34 (by decide) (by decide) (v := .int .i64 n) hn
  go_still_tail 10, (by kernel_rfl)
  have R2 := Lib.hid R1.out.drew
  have hwf : (plainElem (H := Unit) Tryz.prog 94) (.int .u32 (IntKind.u32.wrap n)) = some (.lit (.int .u32 n), []) := by
    rw [show IntKind.u32.wrap (n : Int) = n by simp [IntKind.wrap, IntKind.signed, IntKind.bits]; omega]
    exact plainElem_int Tryz.underlying94 (wf_u32 (by omega))
  go_wp2_with (at_mapUpdate; refine wpList_mapUpdate_in _ rfl _ _ _ 114 rfl 9 94 keyS Tryz.underlying114 (plainElem Tryz.prog 94) G.sm G.ns G.S rfl R2.out.wi.s (by have := HNS.out; unfold maxLen; omega) _ _ (.string s.data.toList) rfl rfl (WideMaps.keyOf_string_mk Tryz.underlying9 (by have := HSS.out; unfold maxLen; omega)) (.lit (.int .u32 n)) [] hwf ?_)
  intro w3 ho ht
  have R3 := Lib.hid (R2.out.trans (R2.out.wi.symr ho ht))
  have f34'' : w3.cell? ⟨G.wb, 34, none⟩ = some (.int .i64 n) := R3.out.wi.fld 34 (by decide) (by decide) (v := .int .i64 n) hn
  have g34' : w3.frozen? ⟨G.wb, 34, none⟩ = false := R3.out.wi.fr 34 (by decide)
  have R4 := Lib.hid (R3.out.set 34 (.int .i64 (n + 1)) (by decide) (by decide) (by decide) (by decide) (by decide) (by decide))
  clear ho ht f38' hwf f34'
  go_wp2_with fail
  refine (R4.out.wi.reset1 R4.out.nx.wb).mono ?_
  rintro e w5 ⟨rfl, g5, r5⟩
  have R5 := Lib.hid (R4.out.trans r5)
  clear r5
  go_wp2_with fail
  refine (R5.out.wi.str1 R5.out.nx.wb s (by simp [Gh.b1]) (by have := HSS.out; omega)).mono ?_
  rintro e w6 ⟨rfl, g6, r6⟩
  have R6 := Lib.hid (R5.out.trans r6)
  clear r6
  obtain ⟨ao, m, c, HV, _⟩ := R6.out.v1
  clear f34'' g34'
  go_wp2_with (go_at_call 49; refine (get_any G.wb 12 _ w6 HV).mono ?_; rintro e w' ⟨rfl, rfl⟩)
  have hu := Lib.uvarint_length64 (x := s.size) (by have := HSS.out; omega)
  have HU := Lib.hid hu
  clear hu
  refine (R6.out.wi.write1 R6.out.nx.wb HV ?_ (R6.out.nx.zm.trans hm)).mono ?_
  · have := HL.out; have := HU.out; have := HSS.out
    simp [Gh.b1, Gh.st, Gh.sy]; omega
  rintro e w7 ⟨rfl, g7, n7, r7⟩
  have R7 := Lib.hid (R6.out.trans r7)
  clear r7
  go_wp2
  go_ret
  refine ⟨rfl, w, G, HR0.out.1, HR0.out.2, _, R7.out, ?_⟩
  simp [AddSymR, Gh.ff, Gh.b1, Gh.st, Gh.sy]

end Go.Proofs.YtfipfoplmopkaaaGreatDoor

namespace Go.Proofs.YtfipfoplmopkaaaGreatDoor
open Go.RowKit Go.Maps

/-- 'a <= b' of strings. -/
def leB (a b : ByteArray) : Bool := Op.bytesLess a.toList b.toList || a.toList == b.toList

/-- The Writer with the symbols ss. -/
structure P1 (w : World) (G : Gh) (ss : List ByteArray) : Prop where
  hG : WI w G
  zm : G.zm = false
  zo : G.zo = false
  lp : G.lp = []
  lo : G.lo = []
  nl : G.nl = 0
  L : ∀ l : List UInt8, Maps.has G.L (.string l) = false
  c1 : G.cs 1 = .pointer (some ⟨G.pb, 0, none⟩)
  c2 : G.cs 2 = .pointer (some ⟨G.ob, 0, none⟩)
  c3 : G.cs 3 = .int .u64 ((0 : Nat) : Int)
  c39 : G.cs 39 = .slice none 0 0
  c46 : G.cs 46 = .func (.func 80) #[] #[]
  c41 : G.cs 41 = .string ⟨#[]⟩
  c42 : G.cs 42 = .int .u64 ((0 : Nat) : Int)
  c43 : G.cs 43 = .int .u64 ((0 : Nat) : Int)
  c34 : G.cs 34 = .int .i64 (ss.length : Int)
  wn : G.wn = 0
  ph : ∃ pre : List UInt8, pre.length = 5 ∧ ((ss = [] ∧ G.cs 10 = .int .u8 0 ∧ G.lf = pre ∧ ∃ z, G.cs 37 = .string z) ∨ (G.cs 10 = .int .u8 1 ∧ G.cs 4 = .int .u64 ((5 : Nat) : Int) ∧ G.lf = pre ++ (alenblen ++ symB ss) ∧ ∃ z, G.cs 37 = .string z ∧ ss.getLast? = some z))
  ns : G.ns = ss.length
  s1 : ∀ l : List UInt8, Maps.has G.S (.string l) = true ↔ ∃ s ∈ ss, s.data.toList = l
  s2 : SN G.S ss.length
  n : ss.length ≤ 200
  sz : ∀ s ∈ ss, s.size ≤ 200

theorem symB_snoc (ss : List ByteArray) (s : ByteArray) : symB (ss ++ [s]) = symB ss ++ symE s := by simp [symB]
theorem symB_le (ss : List ByteArray) (h : ∀ s ∈ ss, s.size ≤ 200) : (symB ss).length ≤ 210 * ss.length := by
  induction ss with
  | nil => simp [symB]
  | cons s t ih =>
    have h1 := h s (by simp)
    have h2 := ih (fun x hx => h x (by simp [hx]))
    have e : symB (s :: t) = symE s ++ symB t := by simp [symB]
    have u := Lib.uvarint_length64 (x := (sB s).length) (by simp; omega)
    rw [e, List.length_append]
    simp only [symE, List.length_append, List.length_cons]
    rw [sB_length] at *
    omega

theorem P1.lfl {w : World} {G : Gh} {ss : List ByteArray} (h : P1 w G ss) : 5 ≤ G.lf.length ∧ G.lf.length ≤ 13 + 210 * ss.length := by
  have hs := symB_le ss h.sz
  obtain ⟨pre, hp, ⟨_, _, e, _⟩ | ⟨_, _, e, _⟩⟩ := h.ph
  · rw [e, hp]; omega
  · rw [e]; simp [alenblen]; omega

theorem P1.go {w w' : World} {G G' : Gh} {ss : List ByteArray} (h : P1 w G ss) (r : Reach w G w' G') (v : G'.v = G.v) : P1 w' G' ss := by
  have cs : G'.cs = G.cs := congrArg Vw.cs v
  have S : G'.S = G.S := congrArg Vw.S v
  have L : G'.L = G.L := congrArg Vw.L v
  have lf : G'.lf = G.lf := congrArg Vw.lf v
  exact ⟨r.wi, (congrArg Vw.zm v).trans h.zm, (congrArg Vw.zo v).trans h.zo, (congrArg Vw.lp v).trans h.lp, (congrArg Vw.lo v).trans h.lo, (congrArg Vw.nl v).trans h.nl, by rw [L]; exact h.L,
    by rw [cs, r.nx.pb]; exact h.c1, by rw [cs, r.nx.ob]; exact h.c2, by rw [cs]; exact h.c3, by rw [cs]; exact h.c39, by rw [cs]; exact h.c46, by rw [cs]; exact h.c41, by rw [cs]; exact h.c42, by rw [cs]; exact h.c43, by rw [cs]; exact h.c34,
    (congrArg Vw.wn v).trans h.wn, by rw [cs, lf]; exact h.ph, (congrArg Vw.ns v).trans h.ns, by rw [S]; exact h.s1, by rw [S]; exact h.s2, h.n, h.sz⟩

/-- A symbol more: the facts that do not depend on the stage. -/
theorem P1.step {w w1 w' : World} {G G1 G' : Gh} {ss : List ByteArray} (h : P1 w G ss) {s : ByteArray} (hs : s.size ≤ 200) (hn : ss.length < 200) (r1 : Reach w G w1 G1) (r : Reach w1 G1 w' G') (hR : AddSymR G1 s ss.length G')
    (e1 : G1.lp = G.lp ∧ G1.lo = G.lo ∧ G1.ns = G.ns ∧ G1.S = G.S ∧ G1.nl = G.nl ∧ G1.L = G.L) (hw : G'.wn = 0) (hcs : ∀ j, j ≠ 10 → j ≠ 4 → G1.cs j = G.cs j) (h10 : G1.cs 10 = .int .u8 1) (h4 : G1.cs 4 = .int .u64 ((5 : Nat) : Int)) (pre : List UInt8) (hp : pre.length = 5) (hlf : G1.lf = pre ++ (alenblen ++ symB ss)) : P1 w' G' (ss ++ [s]) := by
  obtain ⟨x1, x2, x3, x4, x5, x6, x7, x8⟩ := hR
  obtain ⟨y1, y2, y3, y4, y5, y6⟩ := e1
  have rr := r1.trans r
  have cs : ∀ j, j ≠ 10 → j ≠ 4 → j ≠ 34 → j ≠ 37 → G'.cs j = G.cs j := fun j a b c d => by
    rw [x2]; show (if j = 34 then _ else if j = 37 then _ else G1.cs j) = _
    rw [if_neg c, if_neg d]; exact hcs j a b
  have hm : IsMap G1.S := r1.wi.s.isMap
  have hSS : ∀ l, Maps.has G'.S (.string l) = true ↔ ∃ t ∈ ss ++ [s], t.data.toList = l := by
    intro l
    rw [x6]
    by_cases e : l = s.data.toList
    · subst e
      rw [has_put_same hm (keyLit _)]
      exact ⟨fun _ => ⟨s, by simp, rfl⟩, fun _ => rfl⟩
    · rw [has_put_other (fun h => e (by injection h)), y4, h.s1 l]
      constructor
      · rintro ⟨t, ht, rfl⟩; exact ⟨t, by simp [ht], rfl⟩
      · rintro ⟨t, ht, rfl⟩
        rcases List.mem_append.1 ht with ht | ht
        · exact ⟨t, ht, rfl⟩
        · simp at ht; subst ht; exact absurd rfl e
  refine ⟨rr.wi, rr.nx.zm.trans h.zm, rr.nx.zo.trans h.zo, by rw [x3, y1, h.lp], by rw [x4, y2, h.lo], by rw [x7, y5, h.nl], by rw [x8, y6]; exact h.L,
    by rw [cs 1 (by decide) (by decide) (by decide) (by decide), rr.nx.pb]; exact h.c1, by rw [cs 2 (by decide) (by decide) (by decide) (by decide), rr.nx.ob]; exact h.c2, by rw [cs 3 (by decide) (by decide) (by decide) (by decide)]; exact h.c3,
    by rw [cs 39 (by decide) (by decide) (by decide) (by decide)]; exact h.c39, by rw [cs 46 (by decide) (by decide) (by decide) (by decide)]; exact h.c46, by rw [cs 41 (by decide) (by decide) (by decide) (by decide)]; exact h.c41, by rw [cs 42 (by decide) (by decide) (by decide) (by decide)]; exact h.c42, by rw [cs 43 (by decide) (by decide) (by decide) (by decide)]; exact h.c43,
    by rw [x2]; simp, hw, ⟨pre, hp, Or.inr ⟨by rw [x2]; exact h10, by rw [x2]; exact h4, ?_, s, by rw [x2]; rfl, by simp⟩⟩, by rw [x5, y3, h.ns]; simp, hSS, ?_, by simp; omega, fun t ht => ?_⟩
  · rw [x1, hlf, symB_snoc]; simp [symE, List.append_assoc]
  · intro l hl
    rw [x6]
    by_cases e : l = s.data.toList
    · subst e
      exact ⟨ss.length, by simp, atKey_put_same hm (keyLit _) _ _⟩
    · have hne : (Lit.string l) ≠ .string s.data.toList := fun h => e (by injection h)
      rw [x6, has_put_other hne, y4] at hl
      obtain ⟨c, hc, ha⟩ := h.s2 l hl
      exact ⟨c, by simp; omega, by rw [atKey_put_other hne, y4]; exact ha⟩
  · rcases List.mem_append.1 ht with ht | ht
    · exact h.sz t ht
    · simp at ht; subst ht; exact hs

end Go.Proofs.YtfipfoplmopkaaaGreatDoor
