/- AddSymbol, ensureStage(2), AddSeries, Close as contracts on the Writer's phases. Conditions: bounds on counts. AddSeries, Close, ZZBytes as contracts on the Writer's phases. Conditions: bounds on counts. Close(25), ZZBytes(26) as contracts on the Writer's phases. No condition. A new Writer: ZZWriter(21) and what it calls. No condition. A new Writer in memory: NewWriterWithEncoder(92), NewWriter(51), ZZWriter(21). No condition. -/
import Derived.Test.YtfipfoplmopkaaaGreatDoorZ45
import Derived.Test.YtfipfoplmopkaaaGreatDoorZ38

namespace Go.Proofs.YtfipfoplmopkaaaGreatDoor
open Go.RowKit Go.Maps

theorem addSymbol_any (w : World) (G : Gh) (ss : List ByteArray) (s : ByteArray) (h : P1 w G ss) (hs : s.size ≤ 200) (hn : ss.length < 200) :
    Calls Tryz.prog 22 #[.pointer (some ⟨G.wb, 0, none⟩), .string s] w (fun e w' =>
      ((ss = [] ∨ ∃ z, ss.getLast? = some z ∧ leB s z = false) ∧ e = .returned .nilIface ∧ ∃ G', Reach w G w' G' ∧ P1 w' G' (ss ++ [s])) ∨
      ((∃ z, ss.getLast? = some z ∧ leB s z = true) ∧ (∃ t v, e = .returned (.iface t v)) ∧ Kept (wiP G) w w')) := by
  have hl := h.lfl
  obtain ⟨pre, hp, ⟨he, h10, hlf, z, hz⟩ | ⟨h10, h4, hlf, z, hz, hlast⟩⟩ := h.ph
  · subst he
    refine (addSym_first w G s h.hG h10 h.zm (by omega) 0 (by decide) (by decide) h.c34 z hz (by omega) (by have := h.ns; simp at this; omega)).mono ?_
    rintro e w' ⟨rfl, w1, G1, r1, ⟨e1, e2, e3, e4, e5, e6, e7, e8⟩, G', r, hR⟩
    have hw1 : (G1.hold 0).wn = 0 := rfl
    have r1' := r1.low h.wn
    have r' : Reach w1 (G1.hold 0) w' (G'.hold 0) := by
      have hq := r.wi
      refine ⟨⟨hq.e1, hq.e2, hq.f, hq.p, hq.o, hq.d, hq.s, hq.l, hq.c, hq.fr, hq.t1, hq.t2, hq.t3, hq.t4, hq.t5, hq.t6, hq.t7, hq.t8, hq.t9, hq.t10, hq.t11, hq.t12, hq.t13, hq.c0, hq.c44, hq.c38, hq.c40, Nat.zero_le _⟩,
        ⟨r.nx.T, r.nx.wb, r.nx.fb, r.nx.pb, r.nx.ob, r.nx.dg, r.nx.tb, r.nx.sm, r.nx.lm, Nat.le_refl _, r.nx.zm, r.nx.zo⟩, r.kp, ⟨fun b o hb ht ho => absurd ho (Nat.not_lt_zero _), r.hp.m, r.hp.o⟩⟩
    refine Or.inl ⟨Or.inl rfl, rfl, G'.hold 0, r1'.trans r', h.step hs hn r1' r' hR ⟨e3, e4, e5, e6, e7, e8⟩ rfl (fun j a b => ?_) ?_ ?_ pre hp ?_⟩
    · show G1.cs j = _; rw [e2]; simp only [if_neg a, if_neg b]
    · show G1.cs 10 = _; rw [e2]; rfl
    · show G1.cs 4 = _; rw [e2, hlf, hp]; rfl
    · show G1.lf = _; rw [e1, hlf]; simp [symB]
  · have hne : ss ≠ [] := fun e => by rw [e] at hlast; cases hlast
    have h0 : ((ss.length : Int) != 0) = true := by
      have : 0 < ss.length := List.length_pos_iff.mpr hne
      simp; exact hne
    cases hb : leB s z with
    | false =>
      refine (addSym_good1 w G s h.hG h10 h.zm (by omega) ss.length h.c34 (by omega) z hz (by omega) (by have := h.ns; omega) h0 hb).mono ?_
      rintro e w' ⟨rfl, G', r, hR⟩
      have r' := r.low h.wn
      exact Or.inl ⟨Or.inr ⟨z, hlast, hb⟩, rfl, G'.hold 0, r', h.step hs hn (Reach.refl h.hG) r' hR ⟨rfl, rfl, rfl, rfl, rfl, rfl⟩ rfl (fun _ _ _ => rfl) h10 h4 pre hp hlf⟩
    | true =>
      refine (addSym_bad w G s h.hG h10 ss.length h.c34 z hz h0 hb).mono ?_
      rintro e w' ⟨t, v, rfl, k⟩
      exact Or.inr ⟨⟨z, hlast, hb⟩, ⟨t, v, rfl⟩, k⟩

/-- ensureStage(2) from the symbols' phase. -/
theorem P1.ens {w : World} {G : Gh} {ss : List ByteArray} (h : P1 w G ss) : ∃ pre : List UInt8, pre.length = 5 ∧ Calls Tryz.prog 53 #[.pointer (some ⟨G.wb, 0, none⟩), .int .u8 2] w (Ens2 w G ss pre 5 (.int .u64 ((5 : Nat) : Int))) := by
  have hl := h.lfl
  have hn := h.n
  obtain ⟨pre, hp, ⟨he, h10, hlf, z, hz⟩ | ⟨h10, h4, hlf, z, hz, hlast⟩⟩ := h.ph
  · subst he
    refine ⟨G.lf, by rw [hlf]; exact hp, ens2_0 w G h.hG h10 h.zm 5 (by rw [hlf]; exact hp) h.c34 h.wn (by omega)⟩
  · exact ⟨pre, hp, ens2_1 w G h.hG h10 h.zm ss pre 5 hp hlf h4 h.c34 h.wn (by omega) (by omega) (fun s hs => by have := h.sz s hs; omega)⟩

theorem ld_nil : LD ⟨#[]⟩ [] := ⟨rfl, fun s hs => by simp at hs, by decide⟩

theorem Ens2.p2 {w w' : World} {G : Gh} {ss : List ByteArray} (h : P1 w G ss) {pre : List UInt8} (hp : pre.length = 5) {e : Ending} (he : Ens2 w G ss pre 5 (.int .u64 ((5 : Nat) : Int)) e w') :
    e = .returned .nilIface ∧ ∃ G' V F sf, Reach w G w' G' ∧ P2 w' G' V F V.lf V.lf.length [] 5 ⟨#[]⟩ [] 0 0 ∧ F.ss = ss ∧ V.cs 36 = .pointer (some ⟨sf, 0, none⟩) ∧ V.S = G.S ∧ newRow w.heap.size w' F.sb := by
  obtain ⟨he, G1, sb, sf, b, c, q, r, hcs, hlf, hwn, hgf, ⟨e1, e2, e3, e4, e5, e6⟩, hsy, htsb, hnc, hnr⟩ := he
  have hn := h.n
  have hsb := symB_le ss h.sz
  have hlen : G1.lf.length = 5 + 8 + (symB ss).length + 4 := by rw [hlf]; simp [be32, hp]; omega
  have r2 := r.trans (r.wi.holdr G1.lf.length (by omega) (Nat.le_refl _))
  obtain ⟨V, hV⟩ : ∃ V : Vw, V = (G1.hold G1.lf.length).v := ⟨_, rfl⟩
  have vlf : V.lf = G1.lf := by rw [hV]; rfl
  have vcs : V.cs = G1.cs := by rw [hV]; rfl
  have vS : V.S = G.S := by rw [hV]; exact e4
  have vL : V.L = G.L := by rw [hV]; exact e6
  have vwn : V.wn = G1.lf.length := by rw [hV]; rfl
  obtain ⟨F, hF⟩ : ∃ F : Fx, F = ⟨ss, sb, b, 5, c, pre ++ (be32 (4 + (symB ss).length) ++ be32 ss.length), be32 q, b⟩ := ⟨_, rfl⟩
  have fl0 : F.l0 = G1.lf := by rw [hF, hlf]; simp [Fx.l0, List.append_assoc]
  obtain ⟨x, hx, hb⟩ := r.wi.f.b
  rw [hgf] at hb
  have hcell : ∀ j u, G1.lf[j]? = some u → w'.cell? ⟨b, 0 + j, none⟩ = some (bV u) := fun j u hj => by rw [Nat.zero_add]; exact hb.cells j u hj
  have htb : G1.T b = 11 := r.wi.t11 b hgf
  have hbl : b < w'.heap.size := r.wi.f.gl b hgf
  have c5 : G1.cs 5 = .int .u64 (G1.lf.length : Int) := by rw [hcs]; rfl
  have hG1 : ∀ j, j ≠ 10 → j ≠ 5 → j ≠ 35 → j ≠ 36 → j ≠ 4 → G1.cs j = G.cs j := fun j a1 a2 a3 a4 a5 => by
    rw [hcs]; simp only [if_neg a1, if_neg a2, if_neg a3, if_neg a4, if_neg a5]
  refine ⟨he, G1.hold G1.lf.length, V, F, sf, r2, ⟨⟨r2.wi, hV.symm, ?_, ?_, ?_, ?_, ?_, ?_, ?_, by decide, ?_, ?_⟩, ?_, ?_, ld_nil, ?_, ?_, ?_, ?_, ?_, ?_, ?_⟩, by rw [hF], ?_, vS, by rw [hF]; exact hnr⟩
  · rw [vcs, hcs]; rfl
  · rw [hV]; exact r.nx.zm.trans h.zm
  · rw [hV]; exact r.nx.zo.trans h.zo
  · refine ⟨?_, rfl, ?_, rfl, ?_, ?_, upd_same V.cs 6 (.int .u64 (V.lf.length : Int)), ?_, ?_, ?_, ?_, ?_, ?_, ?_, rfl, rfl, fun x hx => by simp at hx, by decide, by decide, ?_, ?_, ?_, ?_, ?_, ?_, ?_, ?_, ?_, ?_, ?_, ?_⟩
    · show V.lf = V.lf ++ serBs V.lf.length []; simp [serBs]
    · rw [vlf]; omega
    · rw [vlf]; omega
    · refine (upd_other V.cs 6 5 (.int .u64 (V.lf.length : Int)) (by decide)).trans ?_
      rw [vcs, vlf]; exact c5
    · refine (upd_other V.cs 6 1 (.int .u64 (V.lf.length : Int)) (by decide)).trans ?_
      rw [vcs, hG1 1 (by decide) (by decide) (by decide) (by decide) (by decide)]
      exact h.c1.trans (by rw [show ((G1.hold G1.lf.length).fz true false).pb = G.pb from r.nx.pb])
    · refine (upd_other V.cs 6 2 (.int .u64 (V.lf.length : Int)) (by decide)).trans ?_
      rw [vcs, hG1 2 (by decide) (by decide) (by decide) (by decide) (by decide)]
      exact h.c2.trans (by rw [show ((G1.hold G1.lf.length).fz true false).ob = G.ob from r.nx.ob])
    · refine (upd_other V.cs 6 3 (.int .u64 (V.lf.length : Int)) (by decide)).trans ?_
      rw [vcs, hG1 3 (by decide) (by decide) (by decide) (by decide) (by decide)]; exact h.c3
    · refine (upd_other V.cs 6 46 (.int .u64 (V.lf.length : Int)) (by decide)).trans ?_
      rw [vcs, hG1 46 (by decide) (by decide) (by decide) (by decide) (by decide)]; exact h.c46
    · refine (upd_other V.cs 6 35 (.int .u64 (V.lf.length : Int)) (by decide)).trans ?_
      rw [vcs, hcs, hF]; rfl
    · show V.lo = []
      rw [hV]; exact e2.trans h.lo
    · show V.lp = []
      rw [hV]; exact e1.trans h.lp
    · show V.nl ≤ 200
      rw [hV]; show G1.nl ≤ 200; rw [e5, h.nl]; decide
    · intro l hl
      have h1 : Maps.has V.L (.string l) = true := hl
      rw [vL, h.L] at h1; cases h1
    · rw [hF]; show ss.length < 100000; omega
    · intro s hs
      rw [hF] at hs
      refine ⟨by have := h.sz s hs; omega, ?_⟩
      show Maps.has V.S _ = true
      rw [vS]; exact (h.s1 _).2 ⟨s, hs, rfl⟩
    · rw [fl0, hF, hlen]; exact hsy
    · rw [hF]; exact htsb
    · intro j u hj
      rw [fl0] at hj
      rw [hF]; exact hcell j u hj
    · rw [hF]; exact htb
    · rw [hF]; simp [be32, hp]
    · rw [fl0, hF, hlen]; exact hnc
    · rw [fl0]; omega
    · rw [hF, hV]; exact hgf
  · rw [hF]; exact hbl
  · rw [vcs, hG1 39 (by decide) (by decide) (by decide) (by decide) (by decide)]; exact h.c39
  · rw [vcs, hcs]; rfl
  · rw [vlf]; omega
  · rw [vwn, vlf]; exact Nat.le_refl _
  · rw [fl0, vwn]; exact Nat.le_refl _
  · rw [vcs, hG1 41 (by decide) (by decide) (by decide) (by decide) (by decide)]; exact h.c41
  · rw [vcs, hG1 42 (by decide) (by decide) (by decide) (by decide) (by decide)]; exact h.c42
  · rw [vcs, hG1 43 (by decide) (by decide) (by decide) (by decide) (by decide)]; exact h.c43
  · rw [vS, hF]; exact h.s2
  · rw [hV]; show G1.nl ≤ _; rw [e5, h.nl]; decide
  · decide
  · rw [vlf]; simp; omega
  · decide
  · rw [vcs, hcs]; rfl

end Go.Proofs.YtfipfoplmopkaaaGreatDoor

namespace Go.Proofs.YtfipfoplmopkaaaGreatDoor
open Go.RowKit Go.Maps

theorem P2.go {w w' : World} {G G' : Gh} {V : Vw} {F : Fx} {pre : List UInt8} {p : Nat} {SL : List Se} {a0 : Nat} {D0 : ByteArray} {fs0 : List (List UInt8)} {r0 c0 : Nat} (h : P2 w G V F pre p SL a0 D0 fs0 r0 c0) (r : Reach w G w' G') (v : G'.v = V) : P2 w' G' V F pre p SL a0 D0 fs0 r0 c0 := by
  have q := h.p3.h
  have nx := r.nx
  have hgw : G.wn = V.wn := congrArg Vw.wn h.p3.hV
  have hfl0 := h.p3.b0
  refine ⟨⟨r.wi, v, h.p3.h10, h.p3.zm, h.p3.zo, ?_, Nat.lt_of_lt_of_le hfl0 r.kp.size, h.p3.h39, h.p3.h4, h.p3.ha0, h.p3.hL7, h.p3.hwn⟩, h.wn, h.h41, h.ld0, h.h42, h.h43, h.sn, h.nl, h.sm, h.lb, h.sl⟩
  refine ⟨q.lf, q.hp, q.p0, q.hL, q.ll, q.h5, q.h6, ?_, ?_, q.h3, q.h46, q.h35, q.lo, q.lp, rfl, rfl, q.ok, q.sl, q.sn, q.nl, q.L9, q.ssl, q.ss, ?_, (nx.T _ q.sy.sbl).trans q.tsb, ?_, (nx.T _ hfl0).trans q.t0, q.hA, q.nc, q.l0l, q.gf⟩
  · rw [show (G'.fz true false).pb = (G.fz true false).pb from nx.pb]; exact q.h1
  · rw [show (G'.fz true false).ob = (G.fz true false).ob from nx.ob]; exact q.h2
  · exact q.sy.blocks (KT.block r.kp q.sy.sbl q.tsb) (fun k hk hlt => ⟨KT.block r.kp hlt hk.2.2, Nat.lt_of_lt_of_le hlt r.kp.size, hk.2.1, (nx.T k hlt).trans hk.2.2⟩)
  · intro j u hj
    have hjl : j < F.l0.length := by
      by_cases hh : j < F.l0.length
      · exact hh
      · have h9 : F.l0[j]? = some u := hj
        rw [List.getElem?_eq_none (by omega)] at h9; cases h9
    exact (r.hp.h F.b0 (0 + j) hfl0 q.t0 (by rw [hgw]; have := h.wn; omega)).trans (q.c0 j u hj)

theorem SY.nr {A : Nat → Prop} {w : World} {sb b p n c : Nat} {ss : List ByteArray} {j nb : Nat} (h : SY A w sb b p n c ss j) (hn : newRow nb w sb) : SY (fun k => A k ∧ nb ≤ k) w sb b p n c ss j := by
  obtain ⟨v, h1, h2, h3⟩ := h.c3
  exact ⟨h.c0, h.c1, ⟨v, h1, h2, fun k e => ⟨h3 k e, hn.2 v k h1 e⟩⟩, h.c4, h.f3, h.f4, h.c2⟩

/-- A block that is nobody's, and elder than the Writer, is turned. -/
theorem P2.set {w w' : World} {G : Gh} {V : Vw} {F : Fx} {pre : List UInt8} {p : Nat} {SL : List Se} {a0 : Nat} {D0 : ByteArray} {fs0 : List (List UInt8)} {r0 c0 nb k0 : Nat} (h : P2 w G V F pre p SL a0 D0 fs0 r0 c0) (hn : newRow nb w F.sb) (hk : Kept (fun k _ => k = k0) w w') (h0 : k0 < nb) (ht : G.T k0 = 0) : P2 w' G V F pre p SL a0 D0 fs0 r0 c0 := by
  have q := h.p3.h
  have hsl := q.sy.sbl
  refine ⟨⟨h.p3.hG.kept hk (fun k o _ e => by rw [e]; exact ht), h.p3.hV, h.p3.h10, h.p3.zm, h.p3.zo, ?_, Nat.lt_of_lt_of_le h.p3.b0 hk.size, h.p3.h39, h.p3.h4, h.p3.ha0, h.p3.hL7, h.p3.hwn⟩, h.wn, h.h41, h.ld0, h.h42, h.h43, h.sn, h.nl, h.sm, h.lb, h.sl⟩
  refine ⟨q.lf, q.hp, q.p0, q.hL, q.ll, q.h5, q.h6, q.h1, q.h2, q.h3, q.h46, q.h35, q.lo, q.lp, rfl, rfl, q.ok, q.sl, q.sn, q.nl, q.L9, q.ssl, q.ss, ?_, q.tsb, ?_, q.t0, q.hA, q.nc, q.l0l, q.gf⟩
  · exact (q.sy.nr hn).blocks (hk.block _ hsl (fun _ e => by have := hn.1; omega)) (fun k hA hlt => ⟨hk.block k hlt (fun _ e => by have := hA.2; omega), Nat.lt_of_lt_of_le hlt hk.size, hA.1.2⟩)
  · intro j u hj
    refine (hk.cell F.b0 (0 + j) h.p3.b0 (fun e => ?_)).trans (q.c0 j u hj)
    have h11 : G.T F.b0 = 11 := q.t0
    rw [e, ht] at h11
    cases h11

/-- The Writer between the series, whatever lies where. ss: the symbols; n: how many series; nb: a bound from below of the blocks of the table of symbols. -/
def PSr (nb : Nat) (w : World) (G : Gh) (ss : List ByteArray) (n : Nat) (D0 : ByteArray) (fs0 : List (List UInt8)) (r0 c0 : Nat) : Prop :=
  ∃ V F pre p SL a0, P2 w G V F pre p SL a0 D0 fs0 r0 c0 ∧ SL.length = n ∧ F.ss = ss ∧ (∃ sf, V.cs 36 = .pointer (some ⟨sf, 0, none⟩)) ∧ (∀ l : List UInt8, Maps.has V.S (.string l) = true ↔ ∃ s ∈ ss, s.data.toList = l) ∧ newRow nb w F.sb
/-- The Writer in the symbols' phase, or between the series. -/
def PWr (nb : Nat) (w : World) (G : Gh) (ss : List ByteArray) (n : Nat) (D0 : ByteArray) (fs0 : List (List UInt8)) (r0 c0 : Nat) : Prop :=
  (P1 w G ss ∧ n = 0 ∧ D0 = ⟨#[]⟩ ∧ fs0 = [] ∧ r0 = 0 ∧ c0 = 0 ∧ nb ≤ w.heap.size) ∨ PSr nb w G ss n D0 fs0 r0 c0

theorem PSr.go {nb : Nat} {w w' : World} {G G' : Gh} {ss : List ByteArray} {n : Nat} {D0 : ByteArray} {fs0 : List (List UInt8)} {r0 c0 : Nat} (h : PSr nb w G ss n D0 fs0 r0 c0) (r : Reach w G w' G') (v : G'.v = G.v) : PSr nb w' G' ss n D0 fs0 r0 c0 := by
  obtain ⟨V, F, pre, p, SL, a0, h1, h2, h3, h4, h5, h6⟩ := h
  exact ⟨V, F, pre, p, SL, a0, h1.go r (v.trans h1.p3.hV), h2, h3, h4, h5, h6.blk (KT.block r.kp h1.p3.h.sy.sbl h1.p3.h.tsb)⟩
theorem PWr.wi {nb : Nat} {w : World} {G : Gh} {ss : List ByteArray} {n : Nat} {D0 : ByteArray} {fs0 : List (List UInt8)} {r0 c0 : Nat} (h : PWr nb w G ss n D0 fs0 r0 c0) : WI w G := by
  rcases h with ⟨h, _⟩ | ⟨V, F, pre, p, SL, a0, h, _⟩
  · exact h.hG
  · exact h.p3.hG
theorem PWr.go {nb : Nat} {w w' : World} {G G' : Gh} {ss : List ByteArray} {n : Nat} {D0 : ByteArray} {fs0 : List (List UInt8)} {r0 c0 : Nat} (h : PWr nb w G ss n D0 fs0 r0 c0) (r : Reach w G w' G') (v : G'.v = G.v) : PWr nb w' G' ss n D0 fs0 r0 c0 := by
  rcases h with ⟨h, h1, h2, h3, h4, h5, h6⟩ | h
  · exact Or.inl ⟨h.go r v, h1, h2, h3, h4, h5, Nat.le_trans h6 r.kp.size⟩
  · exact Or.inr (h.go r v)
theorem P1.set {w w' : World} {G : Gh} {ss : List ByteArray} {k0 : Nat} (h : P1 w G ss) (hk : Kept (fun k _ => k = k0) w w') (ht : G.T k0 = 0) : P1 w' G ss :=
  ⟨h.hG.kept hk (fun k o _ e => by rw [e]; exact ht), h.zm, h.zo, h.lp, h.lo, h.nl, h.L, h.c1, h.c2, h.c3, h.c39, h.c46, h.c41, h.c42, h.c43, h.c34, h.wn, h.ph, h.ns, h.s1, h.s2, h.n, h.sz⟩
theorem PWr.set {nb : Nat} {w w' : World} {G : Gh} {ss : List ByteArray} {n k0 : Nat} {D0 : ByteArray} {fs0 : List (List UInt8)} {r0 c0 : Nat} (h : PWr nb w G ss n D0 fs0 r0 c0) (hk : Kept (fun k _ => k = k0) w w') (h0 : k0 < nb) (ht : G.T k0 = 0) : PWr nb w' G ss n D0 fs0 r0 c0 := by
  rcases h with ⟨h, h1, h2, h3, h4, h5, h6⟩ | ⟨V, F, pre, p, SL, a0, h1, h2, h3, h4, h5, h6⟩
  · exact Or.inl ⟨h.set hk ht, h1, h2, h3, h4, h5, Nat.le_trans h6 hk.size⟩
  · exact Or.inr ⟨V, F, pre, p, SL, a0, h1.set h6 hk h0 ht, h2, h3, h4, h5, h6.blk (hk.block _ h1.p3.h.sy.sbl (fun _ e => by have := h6.1; omega))⟩

/-- ensureStage(2), from either. -/
theorem PWr.ens {nb : Nat} {w : World} {G : Gh} {ss : List ByteArray} {n : Nat} {D0 : ByteArray} {fs0 : List (List UInt8)} {r0 c0 : Nat} (h : PWr nb w G ss n D0 fs0 r0 c0) :
    Calls Tryz.prog 53 #[.pointer (some ⟨G.wb, 0, none⟩), .int .u8 2] w (fun e w' => e = .returned .nilIface ∧ ∃ G', Reach w G w' G' ∧ PSr nb w' G' ss n D0 fs0 r0 c0) := by
  rcases h with ⟨h, rfl, rfl, rfl, rfl, rfl, hnb⟩ | h
  · obtain ⟨pre, hp, hc⟩ := h.ens
    refine hc.mono fun e w' he => ?_
    obtain ⟨h1, G', V, F, sf, r, h2, h3, h4, h5, h6⟩ := Ens2.p2 h hp he
    exact ⟨h1, G', r, V, F, V.lf, V.lf.length, [], 5, h2, rfl, h3, ⟨sf, h4⟩, by rw [h5]; exact h.s1, h6.le hnb⟩
  · have hh := h
    obtain ⟨V, F, pre, p, SL, a0, h1, _⟩ := h
    refine (ens_same w G.wb 2 ((Reach.refl h1.p3.hG).cv h1.p3.hV 10 h1.p3.h10 (by decide) (by decide))).mono fun e w' ⟨he, hw⟩ => ?_
    subst hw
    exact ⟨he, G, Reach.refl h1.p3.hG, hh⟩

/-- Every word of the labels is among the symbols. -/
def inW (ss : List ByteArray) (ls : List Lab) : Prop := ∀ x ∈ ls, (∃ s ∈ ss, s.data.toList = x.1.data.toList) ∧ ∃ s ∈ ss, s.data.toList = x.2.data.toList

/-- AddSeries. -/
theorem addSeries_any (nb : Nat) (w : World) (G : Gh) (ss : List ByteArray) (n : Nat) (D0 : ByteArray) (fs0 : List (List UInt8)) (r0 c0 : Nat) (h : PWr nb w G ss n D0 fs0 r0 c0) (hn : n < 20) (D : ByteArray) (ls : List Lab) (hD : LD D (fsL ls)) (hl : LOK ls) (hl10 : ls.length ≤ 10) (ha : AscL ls) (rf : Nat)
    (b o cc m : Nat) (cs : List Ck) (ao : Option Addr) (hm : m = cs.length) (hv3 : 0 < m → ao = some ⟨b, o, none⟩ ∧ m ≤ cc ∧ RowC w b o cs ∧ b < w.heap.size ∧ G.T b = 0) (hr : r0 ≤ rf) (hck : CkO c0 cs) :
    Calls Tryz.prog 23 #[.pointer (some ⟨G.wb, 0, none⟩), .int .u64 rf, .agg #[.string D], .slice ao m cc] w (fun e w' =>
      ((cmpF (fsL ls) fs0 ≤ 0 ∨ ¬ inW ss ls) ∧ (∃ t v, e = .returned (.iface t v)) ∧ ∃ G', Reach w G w' G') ∨
      ((0 < cmpF (fsL ls) fs0 ∧ inW ss ls) ∧ e = .returned .nilIface ∧ ∃ G', Reach w G w' G' ∧ PWr nb w' G' ss (n + 1) D (fsL ls) rf (lastR c0 cs))) := by
  have key := addS_any w G G.v h.wi rfl D ls hD hl ha rf b o cc m cs ao hm hv3 D0 fs0 r0 c0 ss.length n hr hck (fun w G V => PSr nb w G ss n D0 fs0 r0 c0 ∧ G.v = V) (fun w G V ⟨hp, hv⟩ => by
      obtain ⟨V', F, pre, p, SL, a0, h1, h2, h3, _⟩ := hp
      have hq := h1.aq
      rw [h2, h3, ← h1.p3.hV, hv] at hq
      exact hq) (fun w1 G1 r1 v1 => by
      have := (h.go r1 v1).ens
      rw [r1.nx.wb] at this
      exact this.mono fun e w' ⟨he, G', r, hp⟩ => ⟨he, G', G'.v, r, hp, rfl⟩)
  refine key.mono ?_
  rintro e w' ⟨w1, G1, V1, r1, ⟨⟨V, F, pre, p, SL, a0, h1, h2, h3, h4, h5, h6⟩, hv⟩, ho⟩
  have eV : V1 = V := hv.symm.trans h1.p3.hV
  subst eV
  have hin : AllS V1.S ls ↔ inW ss ls := by
    unfold AllS inW
    simp only [h5]
  rcases ho with ⟨c1, he, G', r⟩ | ⟨c1, c2, he, G', r⟩ | ⟨c1, c2, he, hk⟩
  · exact Or.inl ⟨Or.inl c1, he, G', r1.trans r⟩
  · exact Or.inl ⟨Or.inr (fun hh => c2 (hin.2 hh)), he, G', r1.trans r⟩
  · refine Or.inr ⟨⟨c1, hin.1 c2⟩, he, ?_⟩
    rw [← h3, ← h2] at hk
    obtain ⟨G', V', F', s, r, p2, e36, eS, eF, eB⟩ := h1.add hD hl10 (by omega) hk
    exact ⟨G', r1.trans r, Or.inr ⟨V', F', pre, p, SL ++ [s], a0, p2, by simp [h2], eF.trans h3, by rw [e36]; exact h4, by rw [eS]; exact h5, by rw [eB]; exact h6.blk (KT.block r.kp h1.p3.h.sy.sbl h1.p3.h.tsb)⟩⟩

end Go.Proofs.YtfipfoplmopkaaaGreatDoor

namespace Go.Proofs.YtfipfoplmopkaaaGreatDoor
open Go.RowKit Go.Maps

theorem closeW_any {nb : Nat} {w : World} {G : Gh} {ss : List ByteArray} {n : Nat} {D0 : ByteArray} {fs0 : List (List UInt8)} {r0 c0 : Nat} (h : PWr nb w G ss n D0 fs0 r0 c0) :
    Calls Tryz.prog 25 #[.pointer (some ⟨G.wb, 0, none⟩)] w (fun e w' => e = .returned .nilIface ∧ ∃ G', Reach w G w' G') := by
  refine close_any w G ?_
  rcases h with ⟨h, _⟩ | ⟨V, F, pre, p, SL, a0, h1, h2, h3, h4, h5, h6⟩
  · have hcall : Calls Tryz.prog 53 #[.pointer (some ⟨G.wb, 0, none⟩), .int .u8 2] w (fun e w' => e = .returned .nilIface ∧ ∃ G' V F pre p L SL a0, Reach w G w' G' ∧ P3 w' G' V F pre p L SL a0 ∧ ∃ sf, V.cs 36 = .pointer (some ⟨sf, 0, none⟩)) := by
      obtain ⟨pre, hp, hc⟩ := h.ens
      refine hc.mono fun e w' he => ?_
      obtain ⟨h1, G', V, F, sf, r, h2, h3, h4, h5, h6⟩ := Ens2.p2 h hp he
      exact ⟨h1, G', V, F, V.lf, V.lf.length, V.lf.length, [], 5, r, h2.p3, sf, h4⟩
    obtain ⟨pre, hp, ⟨_, h10, _⟩ | ⟨h10, _⟩⟩ := h.ph
    · exact ens3_01 w G h.hG 0 (by decide) h10 (fun v => ∃ sf, v = .pointer (some ⟨sf, 0, none⟩)) hcall
    · exact ens3_01 w G h.hG 1 (by decide) h10 (fun v => ∃ sf, v = .pointer (some ⟨sf, 0, none⟩)) hcall
  · exact (ens3_2 w G V F pre p V.lf.length SL a0 h1.p3).mono fun e w' he => ⟨V.cs 36, h4, he⟩

set_option maxHeartbeats 1000000 in
theorem zzBytesW_any (w : World) (G : Gh) (h : WI w G) : Calls Tryz.prog 26 #[.pointer (some ⟨G.wb, 0, none⟩)] w (fun e w' => (∃ ao n c, e = .returned (.slice ao n c)) ∧ w' = w) := by
  obtain ⟨v, hv, hb⟩ := h.f.b
  obtain ⟨ao, c, rfl⟩ := own_slice hb.1
  have f0 := (Reach.refl h).f0
  clear hb h
  go_enter Tryz.func26, Tryz.ntmps26
  go_wp2
  go_ret
  exact ⟨⟨_, _, _, rfl⟩, rfl⟩

end Go.Proofs.YtfipfoplmopkaaaGreatDoor

namespace Go.Proofs.YtfipfoplmopkaaaGreatDoor
open Go.RowKit Go.Maps

set_option maxHeartbeats 1000000 in
theorem background_any (w : World) : Calls Tryz.prog 52 #[] w fun e w' => e = .returned (.agg #[]) ∧ w' = w.alloc (.cells #[] 105) := by
  go_enter Tryz.func52, Tryz.ntmps52
  go_wp2
  refine bodyPost_ret (v := .agg #[]) ?_ rfl ⟨rfl, rfl⟩
  have hres : Tryz.f52.results = #[.cell 0 105] := by kernel_rfl
  simp only [results, hres]
  go_simp

set_option maxHeartbeats 1000000 in
theorem newFW_any (s : ByteArray) (w : World) : Calls Tryz.prog 123 #[.string s] w fun e w' => e = .returned (.tuple #[.pointer (some ⟨w.heap.size, 0, none⟩), .nilIface]) ∧ w' = w.alloc (.cells #[.slice none 0 0, .int .u64 0, .string s] 127) := by
  go_enter Tryz.func123, Tryz.ntmps123
  go_wp2
  go_ret2
  exact ⟨rfl, rfl⟩

set_option maxHeartbeats 1000000 in
theorem crcNew_any (tb : Nat) (w : World) : Calls Tryz.prog 157 #[.pointer (some ⟨tb, 0, none⟩)] w fun e w' => e = .returned (.iface 284 (.pointer (some ⟨w.heap.size, 0, none⟩))) ∧ w' = w.alloc (.cells #[.int .u32 0, .pointer (some ⟨tb, 0, none⟩)] 286) := by
  go_enter Tryz.func157, Tryz.ntmps157
  go_wp2
  go_ret
  exact ⟨rfl, rfl⟩

set_option maxHeartbeats 1000000 in
theorem newCRC_any (w : World) : Calls Tryz.prog 124 #[] w fun e w' => e = .returned (.iface 284 (.pointer (some ⟨w.heap.size + 1, 0, none⟩))) ∧ w' = (w.alloc (.cells #[.int .u32 cast] 288)).alloc (.cells #[.int .u32 0, .pointer (some ⟨w.heap.size, 0, none⟩)] 286) := by
  have h1 := Lib.hid (castTab_any w)
  have h2 := Lib.hid (crcNew_any w.heap.size (w.alloc (.cells #[.int .u32 cast] 288)))
  go_enter Tryz.func124, Tryz.ntmps124
  go_wp2_with fail
  (with_reducible refine h1.out.mono ?_)
  rintro e w' ⟨rfl, rfl⟩
  go_wp2_with fail
  refine h2.out.mono ?_
  rintro e w' ⟨rfl, rfl⟩
  go_wp2_with fail
  go_ret
  exact ⟨by simp, rfl⟩

def encZ : Array Value := #[.slice none 0 0, .int .u8 0, .int .u8 0, .int .u8 0, .int .u8 0, .int .u8 0, .int .u8 0, .int .u8 0, .int .u8 0, .int .u8 0, .int .u8 0]
/-- A new Writer's cells. -/
def newC (f p o m1 m2 d : Nat) : Array Value := #[.pointer (some ⟨f, 0, none⟩), .pointer (some ⟨p, 0, none⟩), .pointer (some ⟨o, 0, none⟩), .int .u64 0,
  .int .u64 0, .int .u64 0, .int .u64 0, .int .u64 0, .int .u64 0, .int .u64 0, .int .u8 0, .int .u64 0,
  .slice none 0 0, .int .u8 0, .int .u8 0, .int .u8 0, .int .u8 0, .int .u8 0, .int .u8 0, .int .u8 0, .int .u8 0, .int .u8 0, .int .u8 0,
  .slice none 0 0, .int .u8 0, .int .u8 0, .int .u8 0, .int .u8 0, .int .u8 0, .int .u8 0, .int .u8 0, .int .u8 0, .int .u8 0, .int .u8 0,
  .int .i64 0, .pointer none, .pointer none, .string ⟨#[]⟩, .map (some m1), .slice none 0 0, .map (some m2), .string ⟨#[]⟩, .int .u64 0, .int .u64 0, .iface 284 (.pointer (some ⟨d, 0, none⟩)), .int .i64 0, .func (.func 80) #[] #[]]

end Go.Proofs.YtfipfoplmopkaaaGreatDoor

namespace Go.Proofs.YtfipfoplmopkaaaGreatDoor
open Go.RowKit Go.Maps

theorem heap_cell {w : World} {b : Nat} {cs : Array Value} {t : TypeId} {fr : Nat × Nat} (h : w.heap[b]? = some (.cells cs t fr)) (i : Nat) : w.cell? ⟨b, i, none⟩ = cs[i]? := by simp [World.cell?, h]
theorem heap_frz {w : World} {b : Nat} {cs : Array Value} {t : TypeId} (h : w.heap[b]? = some (.cells cs t)) (i : Nat) : w.frozen? ⟨b, i, none⟩ = false := by simp [World.frozen?, h]

/-- Where a new Writer's blocks lie. -/
structure NW (w : World) (fb pb ob m1 m2 tb dg wb : Nat) : Prop where
  hf : ∃ s, w.heap[fb]? = some (.cells #[.slice none 0 0, .int .u64 0, .string s] 127)
  hp : ∃ s, w.heap[pb]? = some (.cells #[.slice none 0 0, .int .u64 0, .string s] 127)
  ho : ∃ s, w.heap[ob]? = some (.cells #[.slice none 0 0, .int .u64 0, .string s] 127)
  h1 : w.heap[m1]? = some (.map #[] 0)
  h2 : w.heap[m2]? = some (.map #[] 0)
  ht : w.heap[tb]? = some (.cells #[.int .u32 cast] 288)
  hd : w.heap[dg]? = some (.cells #[.int .u32 0, .pointer (some ⟨tb, 0, none⟩)] 286)
  hw : w.heap[wb]? = some (.cells (newC fb pb ob m1 m2 dg) 122)
  ne : [fb, pb, ob, m1, m2, tb, dg, wb].Nodup

def newT (fb pb ob m1 m2 tb dg wb k : Nat) : Nat :=
  if k = wb then 1 else if k = fb then 2 else if k = pb then 3 else if k = ob then 4 else if k = dg then 5 else if k = tb then 6 else if k = m1 then 7 else if k = m2 then 8 else 0
def newG (fb pb ob m1 m2 tb dg wb : Nat) : Gh :=
  { wb := wb, fb := fb, pb := pb, ob := ob, dg := dg, tb := tb, sm := m1, lm := m2, g1 := none, g2 := none, gf := none, gp := none, go := none, l1 := [], l2 := [], lf := [], lp := [], lo := [],
    cs := fun i => ((newC fb pb ob m1 m2 dg)[i]?).getD .nilIface, ns := 0, S := .map [], nl := 0, L := .map [], T := newT fb pb ob m1 m2 tb dg wb, wn := 0, zm := false, zo := false }

theorem newFWl {w : World} {fb : Nat} (h : ∃ s, w.heap[fb]? = some (.cells #[.slice none 0 0, .int .u64 0, .string s] 127)) : FW w fb none [] := by
  obtain ⟨s, h⟩ := h
  exact ⟨⟨_, by rw [heap_cell h]; rfl, Bf.nil w⟩, by rw [heap_cell h]; rfl, heap_frz h 0, heap_frz h 1, by simp⟩

theorem newMap {w : World} {b : Nat} (h : w.heap[b]? = some (.map #[] 0)) (e : TypeId) : w.ownsMap Tryz.prog 9 (plainElem Tryz.prog e) b 0 (.map [] : DataW Unit) :=
  ⟨#[], 0, h, ⟨by simp, Go.MapKept.stamped_empty 0, by simp⟩, Nat.le_refl _, rfl⟩

theorem newWI {w : World} {fb pb ob m1 m2 tb dg wb : Nat} (h : NW w fb pb ob m1 m2 tb dg wb) : WI w (newG fb pb ob m1 m2 tb dg wb) := by
  have hc := heap_cell h.hw
  have hlt : wb < w.heap.size := World.block_lt_of_cell? w ⟨wb, 0, none⟩ (u := .pointer (some ⟨fb, 0, none⟩)) ((hc 0).trans rfl)
  have hne := h.ne
  simp only [List.nodup_cons, List.mem_cons, not_or, List.not_mem_nil] at hne
  obtain ⟨⟨n12, n13, n14, n15, n16, n17, n18, _⟩, ⟨n23, n24, n25, n26, n27, n28, _⟩, ⟨n34, n35, n36, n37, n38, _⟩, ⟨n45, n46, n47, n48, _⟩, ⟨n56, n57, n58, _⟩, ⟨n67, n68, _⟩, ⟨n78, _⟩, _⟩ := hne
  refine ⟨⟨hlt, ⟨.slice none 0 0, (hc 12).trans rfl, Bf.nil w⟩, fun j _ => heap_frz h.hw _, fun j hj => ⟨0, ?_⟩, by simp [newG]⟩, ⟨hlt, ⟨.slice none 0 0, (hc 23).trans rfl, Bf.nil w⟩, fun j _ => heap_frz h.hw _, fun j hj => ⟨0, ?_⟩, by simp [newG]⟩,
    newFWl h.hf, newFWl h.hp, newFWl h.ho, ⟨⟨0, (heap_cell h.hd 0).trans rfl, by decide, by decide⟩, (heap_cell h.hd 1).trans rfl, heap_frz h.hd 0, ⟨_, (heap_cell h.ht 0).trans rfl⟩, n67⟩, newMap h.h1 _, newMap h.h2 _, ?_, fun i _ => heap_frz h.hw i, ?_, ?_, ?_, ?_, ?_, ?_, ?_, ?_, ?_, ?_, ?_, ?_, ?_, rfl, rfl, rfl, rfl, Nat.le_refl _⟩
  · refine (hc _).trans ?_
    rcases j with _ | _ | _ | _ | _ | _ | _ | _ | _ | _ | j
    all_goals first | rfl | omega
  · refine (hc _).trans ?_
    rcases j with _ | _ | _ | _ | _ | _ | _ | _ | _ | _ | j
    all_goals first | rfl | omega
  · intro i hi _
    refine (hc i).trans ?_
    have hi' : i < (newC fb pb ob m1 m2 dg).size := hi
    show _ = some (((newC fb pb ob m1 m2 dg)[i]?).getD .nilIface)
    rw [Array.getElem?_eq_getElem hi']; rfl
  · show newT fb pb ob m1 m2 tb dg wb wb = 1
    simp [newT]
  · show newT fb pb ob m1 m2 tb dg wb fb = 2
    simp [newT, n18]
  · show newT fb pb ob m1 m2 tb dg wb pb = 3
    simp [newT, n28, Ne.symm n12]
  · show newT fb pb ob m1 m2 tb dg wb ob = 4
    simp [newT, n38, Ne.symm n13, Ne.symm n23]
  · show newT fb pb ob m1 m2 tb dg wb dg = 5
    simp [newT, n78, Ne.symm n17, Ne.symm n27, Ne.symm n37]
  · show newT fb pb ob m1 m2 tb dg wb tb = 6
    simp [newT, n68, n67, Ne.symm n16, Ne.symm n26, Ne.symm n36]
  · show newT fb pb ob m1 m2 tb dg wb m1 = 7
    simp [newT, n48, n47, n46, Ne.symm n14, Ne.symm n24, Ne.symm n34]
  · show newT fb pb ob m1 m2 tb dg wb m2 = 8
    simp [newT, n58, n57, n56, Ne.symm n45, Ne.symm n15, Ne.symm n25, Ne.symm n35]
  · intro k hk; cases hk
  · intro k hk; cases hk
  · intro k hk; cases hk
  · intro k hk; cases hk
  · intro k hk; cases hk

/-- A Writer that was laid behind the world w. -/
theorem newP1 {w' : World} {fb pb ob m1 m2 tb dg wb : Nat} {G' : Gh} {w2 : World} (r : Reach w' (newG fb pb ob m1 m2 tb dg wb) w2 G') (he : G'.lf = [] ++ magic ∧ G'.cs = (newG fb pb ob m1 m2 tb dg wb).cs ∧ G'.lp = [] ∧ G'.lo = [] ∧ G'.ns = 0 ∧ G'.S = .map [] ∧ G'.nl = 0 ∧ G'.L = .map []) : P1 w2 (G'.hold 0) [] := by
  obtain ⟨e1, e2, e3, e4, e5, e6, e7, e8⟩ := he
  have r' := r.low rfl
  have hno : ∀ l : List UInt8, Maps.has (DataW.map [] : DataW Unit) (.string l) = false := fun l => rfl
  have cs : ∀ j, (G'.hold 0).cs j = (newG fb pb ob m1 m2 tb dg wb).cs j := fun j => congrFun e2 j
  have hs1 : ∀ l : List UInt8, Maps.has (G'.hold 0).S (.string l) = false := fun l => by show Maps.has G'.S _ = false; rw [e6]; rfl
  exact {
    hG := r'.wi, zm := r.nx.zm, zo := r.nx.zo, lp := e3, lo := e4, nl := e7,
    L := fun l => by show Maps.has G'.L _ = false; rw [e8]; exact hno l,
    c1 := by rw [cs]; show _ = Value.pointer (some ⟨G'.pb, 0, none⟩); rw [r.nx.pb]; rfl,
    c2 := by rw [cs]; show _ = Value.pointer (some ⟨G'.ob, 0, none⟩); rw [r.nx.ob]; rfl,
    c3 := (cs 3).trans rfl, c39 := (cs 39).trans rfl, c46 := (cs 46).trans rfl, c41 := (cs 41).trans rfl, c42 := (cs 42).trans rfl, c43 := (cs 43).trans rfl, c34 := (cs 34).trans rfl,
    wn := rfl,
    ph := ⟨magic, rfl, Or.inl ⟨rfl, (cs 10).trans rfl, e1, ⟨#[]⟩, (cs 37).trans rfl⟩⟩,
    ns := e5,
    s1 := fun l => by rw [hs1 l]; simp,
    s2 := fun l hl => (by rw [hs1 l] at hl; exact absurd hl (by decide)),
    n := by decide,
    sz := fun s hs => by simp at hs }

theorem a5 (w : World) (o1 o2 o3 o4 o5 : Obj) :
    let w5 := ((((w.alloc o1).alloc o2).alloc o3).alloc o4).alloc o5
    w5.heap[w.heap.size]? = some o1 ∧ w5.heap[w.heap.size + 1]? = some o2 ∧ w5.heap[w.heap.size + 1 + 1]? = some o3 ∧ w5.heap[w.heap.size + 1 + 1 + 1]? = some o4 ∧ w5.heap[w.heap.size + 1 + 1 + 1 + 1]? = some o5 ∧ ∀ k, k < w.heap.size → w5.heap[k]? = w.heap[k]? := by
  refine ⟨?_, ?_, ?_, ?_, ?_, fun k hk => ?_⟩
  all_goals
    show (((((w.heap.push o1).push o2).push o3).push o4).push o5)[_]? = _
    simp only [Array.getElem?_push, Array.size_push]
  · rw [if_neg (by omega), if_neg (by omega), if_neg (by omega), if_neg (by omega), if_pos trivial]
  · rw [if_neg (by omega), if_neg (by omega), if_neg (by omega), if_pos trivial]
  · rw [if_neg (by omega), if_neg (by omega), if_pos trivial]
  · rw [if_neg (by omega), if_pos trivial]
  · rw [if_pos trivial]
  · rw [if_neg (by omega), if_neg (by omega), if_neg (by omega), if_neg (by omega), if_neg (by omega)]

/-- The three files, ahead of the rest. -/
structure NF (w : World) (n : Nat) : Prop where
  hf : ∃ s, w.heap[n + 1]? = some (.cells #[.slice none 0 0, .int .u64 0, .string s] 127)
  hp : ∃ s, w.heap[n + 1 + 1]? = some (.cells #[.slice none 0 0, .int .u64 0, .string s] 127)
  ho : ∃ s, w.heap[n + 1 + 1 + 1]? = some (.cells #[.slice none 0 0, .int .u64 0, .string s] 127)
  sz : w.heap.size = n + 4

def dgO (tb : Nat) : Obj := .cells #[.int .u32 0, .pointer (some ⟨tb, 0, none⟩)] 286
def tbO : Obj := .cells #[.int .u32 cast] 288
def mpO : Obj := .map #[] 0

theorem NF.nw {w w5 : World} {n m1 m2 tb dg : Nat} (h : NF w n) (hold : ∀ k, k < w.heap.size → w5.heap[k]? = w.heap[k]?) (h1 : w5.heap[m1]? = some mpO) (h2 : w5.heap[m2]? = some mpO) (ht : w5.heap[tb]? = some tbO) (hd : w5.heap[dg]? = some (dgO tb)) (hw : w5.heap[w.heap.size + 1 + 1 + 1 + 1]? = some (.cells (newC (n + 1) (n + 1 + 1) (n + 1 + 1 + 1) m1 m2 dg) 122))
    (hne : m1 ≠ m2 ∧ m1 ≠ tb ∧ m1 ≠ dg ∧ m2 ≠ tb ∧ m2 ≠ dg ∧ tb ≠ dg) (b1 : w.heap.size ≤ m1 ∧ m1 < w.heap.size + 4) (b2 : w.heap.size ≤ m2 ∧ m2 < w.heap.size + 4) (b3 : w.heap.size ≤ tb ∧ tb < w.heap.size + 4) (b4 : w.heap.size ≤ dg ∧ dg < w.heap.size + 4) :
    NW w5 (n + 1) (n + 1 + 1) (n + 1 + 1 + 1) m1 m2 tb dg (w.heap.size + 1 + 1 + 1 + 1) := by
  have hs := h.sz
  obtain ⟨s1, f⟩ := h.hf
  obtain ⟨s2, p⟩ := h.hp
  obtain ⟨s3, o⟩ := h.ho
  refine ⟨⟨s1, (hold _ (by omega)).trans f⟩, ⟨s2, (hold _ (by omega)).trans p⟩, ⟨s3, (hold _ (by omega)).trans o⟩, h1, h2, ht, hd, hw, ?_⟩
  obtain ⟨c1, c2, c3, c4, c5, c6⟩ := hne
  simp only [List.nodup_cons, List.mem_cons, not_or, List.not_mem_nil, List.nodup_nil, and_true, not_false_eq_true]
  omega

/-- writeMeta of a Writer that was just laid. -/
theorem NW.meta1 {w : World} {fb pb ob m1 m2 tb dg wb : Nat} (h : NW w fb pb ob m1 m2 tb dg wb) : Calls Tryz.prog 125 #[.pointer (some ⟨wb, 0, none⟩)] w (fun e w' => e = .returned .nilIface ∧ ∃ G, G.wb = wb ∧ P1 w' G [] ∧ Kept (fun k _ => newT fb pb ob m1 m2 tb dg wb k ≠ 0) w w' ∧ ∀ k, k < w.heap.size → G.T k = newT fb pb ob m1 m2 tb dg wb k) := by
  refine (writeMeta_any w _ (newWI h) (Nat.zero_lt_succ _) rfl).mono ?_
  rintro e w' ⟨he, G', r, hR⟩
  exact ⟨he, G'.hold 0, r.nx.wb, newP1 r hR, r.kp, r.nx.T⟩

section
variable {w : World} {n m1 m2 : Nat}
theorem nwMMTD (h : NF w n) (hm : m1 = w.heap.size ∧ m2 = w.heap.size + 1 ∨ m1 = w.heap.size + 1 ∧ m2 = w.heap.size) :
    NW (((((w.alloc mpO).alloc mpO).alloc tbO).alloc (dgO (w.heap.size + 1 + 1))).alloc (.cells (newC (n + 1) (n + 1 + 1) (n + 1 + 1 + 1) m1 m2 (w.heap.size + 1 + 1 + 1)) 122)) (n + 1) (n + 1 + 1) (n + 1 + 1 + 1) m1 m2 (w.heap.size + 1 + 1) (w.heap.size + 1 + 1 + 1) (w.heap.size + 1 + 1 + 1 + 1) := by
  obtain ⟨a1, a2, a3, a4, a5', a6⟩ := a5 w mpO mpO tbO (dgO (w.heap.size + 1 + 1)) (.cells (newC (n + 1) (n + 1 + 1) (n + 1 + 1 + 1) m1 m2 (w.heap.size + 1 + 1 + 1)) 122)
  rcases hm with ⟨rfl, rfl⟩ | ⟨rfl, rfl⟩
  · exact h.nw a6 a1 a2 a3 a4 a5' (by omega) (by omega) (by omega) (by omega) (by omega)
  · exact h.nw a6 a2 a1 a3 a4 a5' (by omega) (by omega) (by omega) (by omega) (by omega)
theorem nwMTDM (h : NF w n) (hm : m1 = w.heap.size ∧ m2 = w.heap.size + 1 + 1 + 1 ∨ m1 = w.heap.size + 1 + 1 + 1 ∧ m2 = w.heap.size) :
    NW (((((w.alloc mpO).alloc tbO).alloc (dgO (w.heap.size + 1))).alloc mpO).alloc (.cells (newC (n + 1) (n + 1 + 1) (n + 1 + 1 + 1) m1 m2 (w.heap.size + 1 + 1)) 122)) (n + 1) (n + 1 + 1) (n + 1 + 1 + 1) m1 m2 (w.heap.size + 1) (w.heap.size + 1 + 1) (w.heap.size + 1 + 1 + 1 + 1) := by
  obtain ⟨a1, a2, a3, a4, a5', a6⟩ := a5 w mpO tbO (dgO (w.heap.size + 1)) mpO (.cells (newC (n + 1) (n + 1 + 1) (n + 1 + 1 + 1) m1 m2 (w.heap.size + 1 + 1)) 122)
  rcases hm with ⟨rfl, rfl⟩ | ⟨rfl, rfl⟩
  · exact h.nw a6 a1 a4 a2 a3 a5' (by omega) (by omega) (by omega) (by omega) (by omega)
  · exact h.nw a6 a4 a1 a2 a3 a5' (by omega) (by omega) (by omega) (by omega) (by omega)
theorem nwTDMM (h : NF w n) (hm : m1 = w.heap.size + 1 + 1 ∧ m2 = w.heap.size + 1 + 1 + 1 ∨ m1 = w.heap.size + 1 + 1 + 1 ∧ m2 = w.heap.size + 1 + 1) :
    NW (((((w.alloc tbO).alloc (dgO w.heap.size)).alloc mpO).alloc mpO).alloc (.cells (newC (n + 1) (n + 1 + 1) (n + 1 + 1 + 1) m1 m2 (w.heap.size + 1)) 122)) (n + 1) (n + 1 + 1) (n + 1 + 1 + 1) m1 m2 w.heap.size (w.heap.size + 1) (w.heap.size + 1 + 1 + 1 + 1) := by
  obtain ⟨a1, a2, a3, a4, a5', a6⟩ := a5 w tbO (dgO w.heap.size) mpO mpO (.cells (newC (n + 1) (n + 1 + 1) (n + 1 + 1 + 1) m1 m2 (w.heap.size + 1)) 122)
  rcases hm with ⟨rfl, rfl⟩ | ⟨rfl, rfl⟩
  · exact h.nw a6 a3 a4 a1 a2 a5' (by omega) (by omega) (by omega) (by omega) (by omega)
  · exact h.nw a6 a4 a3 a1 a2 a5' (by omega) (by omega) (by omega) (by omega) (by omega)
end
theorem kept5 (w : World) (o1 o2 o3 o4 o5 : Obj) : Kept (fun _ _ => False) w (((((w.alloc o1).alloc o2).alloc o3).alloc o4).alloc o5) :=
  ((((Kept.alloc _ _ _).trans (Kept.alloc _ _ _) (fun _ _ _ => id)).trans (Kept.alloc _ _ _) (fun _ _ _ => id)).trans (Kept.alloc _ _ _) (fun _ _ _ => id)).trans (Kept.alloc _ _ _) (fun _ _ _ => id)

end Go.Proofs.YtfipfoplmopkaaaGreatDoor
