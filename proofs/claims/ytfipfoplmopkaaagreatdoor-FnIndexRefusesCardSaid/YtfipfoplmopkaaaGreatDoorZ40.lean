/- Writer.writePostings. Conditions: bounds on lengths. Writer.writeLabelIndexesOffsetTable. Conditions: bounds on lengths. Writer.writePostingsOffsetTable. Conditions: what is read is there; bounds on lengths. -/
import Derived.Test.YtfipfoplmopkaaaGreatDoorZ24
import Derived.Test.YtfipfoplmopkaaaGreatDoorZ25
import Derived.Test.YtfipfoplmopkaaaGreatDoorZ26
import Derived.Deep.CutRange
import Derived.Deep.RegionLaw

namespace Go.Proofs.YtfipfoplmopkaaaGreatDoor
open Go.RowKit Go.Maps

theorem App.undrew {w w' : World} {e size : Nat} {v v' : Value} {n : Nat} {xs : List Value} (h : App w.drew w' e size v v' n xs) : App w w' e size v v' n xs :=
  ⟨h.own, h.lies.imp (fun ⟨a, b⟩ => ⟨a, ⟨b.os, b.tape, b.output, b.size, b.block⟩⟩) (fun ⟨g, a, b, c⟩ => ⟨g, a, b, ⟨c.os, c.tape, c.output, c.size, c.block⟩⟩)⟩

/-- What writePostings leaves. -/
def WPs (w : World) (G : Gh) (V : Vw) (N : Nat) (e : Ending) (w' : World) : Prop :=
  ∃ g, StE w G { V with gf := g, lf := V.lf ++ (zeros (padN V.lf.length 4) ++ V.lp), cs := upd (upd V.cs 11 (.int .u64 N)) 1 (.pointer none) } e w'

set_option maxRecDepth 100000 in
set_option maxHeartbeats 4000000 in
theorem writePostings_any (w : World) (G : Gh) (V : Vw) (hG : WI w G) (hV : G.v = V) (h1 : V.cs 1 = .pointer (some ⟨G.pb, 0, none⟩)) (N : Nat) (hN : N = V.lf.length + padN V.lf.length 4) (hl : V.lf.length < 90000000) (hlp : V.lp.length < 90000000) (hm : V.zm = false) :
    Calls Tryz.prog 97 #[.pointer (some ⟨G.wb, 0, none⟩)] w (WPs w G V N) := by
  have R0 := Lib.hid (Reach.refl hG)
  have V0 := Lib.hid hV
  have H1 := Lib.hid h1
  have HN := Lib.hid hN
  have hN9 : N < 90000004 := by have := padN_lt V.lf.length 4 (by decide); omega
  have f0 := R0.out.f0
  clear hG hV h1 hN
  go_enter Tryz.func97, Tryz.ntmps97
  go_wp2_with fail
  refine (R0.out.padF V0.out 4 (by decide) (by decide) (by omega) hm).mono ?_
  rintro e w1 ⟨g1, rfl, G1, r1, v1⟩
  obtain ⟨lf1, hlf1⟩ : ∃ lf1, lf1 = V.lf ++ zeros (padN V.lf.length 4) := ⟨_, rfl⟩
  have hln : lf1.length = N := by rw [hlf1, HN.out]; simp
  have R1 := Lib.hid r1
  have V1 : Hid (G1.v = { V with lf := lf1, gf := g1 }) := Lib.hid (by rw [v1, hlf1])
  have HLF := Lib.hid hlf1
  have HLN := Lib.hid hln
  clear r1 v1 hlf1 hln f0
  have f0 := R1.out.f0
  have fp := R1.out.posv V1.out (n := N) HLN.out
  have f11 := R1.out.cv V1.out 11 rfl (by decide) (by decide)
  have g11 := R1.out.fr 11 (by decide)
  obtain ⟨G2, r2, v2⟩ := R1.out.stv V1.out 11 (.int .u64 N) (by decide) (by decide) (by decide) (by decide) (by decide) (by decide)
  obtain ⟨w2, hw2⟩ : ∃ w2, w2 = w1.setCell ⟨G.wb, 11, none⟩ (.int .u64 N) := ⟨_, rfl⟩
  rw [← hw2] at r2
  have R2 := Lib.hid r2
  have V2 := Lib.hid v2
  have HW2 := Lib.hid hw2
  have f1 : w2.cell? ⟨G.wb, 1, none⟩ = some (.pointer (some ⟨G.pb, 0, none⟩)) := r2.cv v2 1 ((upd_other V.cs 11 1 (.int .u64 N) (by decide)).trans H1.out) (by decide) (by decide)
  clear r2 v2 hw2
  go_upto_region 5 with fail
  rw [← HW2.out]
  clear f0 fp f11 g11
  go_wp2_with fail
  refine (flush_any _ _).mono ?_
  rintro e w' ⟨rfl, rfl⟩
  have f0 := R2.out.f0
  obtain ⟨vf, hvf, hbf⟩ := R2.out.wi.f.b
  obtain ⟨aof, cf, rfl⟩ := own_slice hbf.1
  obtain ⟨vp, hvp, hbp⟩ := R2.out.wi.p.b
  obtain ⟨aop, cp, rfl⟩ := own_slice hbp.1
  have hlf2 : G2.lf = lf1 := congrArg Vw.lf V2.out
  have hlp2 : G2.lp = V.lp := congrArg Vw.lp V2.out
  have hgf2 : G2.gf = g1 := congrArg Vw.gf V2.out
  rw [hlf2, hgf2, HLN.out] at hbf
  rw [hlf2, HLN.out] at hvf
  rw [hlp2] at hbp hvp
  obtain ⟨np, hnp⟩ : ∃ np, np = V.lp.length := ⟨_, rfl⟩
  rw [← hnp] at hbp hvp hlp
  rw [R2.out.nx.fb] at hvf
  rw [R2.out.nx.pb] at hvp
  have fpp := R2.out.pospv V2.out (n := np) hnp.symm
  have fpos := R2.out.posv V2.out (n := N) HLN.out
  have HNP := Lib.hid hnp
  have BF := Lib.hid hbf
  have BP := Lib.hid hbp
  have HF := Lib.hid (show FW w2 G.fb g1 lf1 by rw [← R2.out.nx.fb, ← hgf2, ← hlf2]; exact R2.out.wi.f)
  clear hbf hbp hlf2 hlp2 hgf2 hnp
  go_upto_region 8 with fail
  have hfb : G.fb < w2.heap.size := World.block_lt_of_cell? _ _ hvf
  have hwb : G.wb < w2.heap.size := World.block_lt_of_cell? _ _ f1
  have hpb : G.pb < w2.heap.size := World.block_lt_of_cell? _ _ hvp
  have hfr0 := HF.out.f0
  have hnfb : (Value.slice aof N cf).ownBlock ≠ some G.fb := by rw [BF.out.2]; exact HF.out.ne
  have hnT : ∀ k, (Value.slice aof N cf).ownBlock = some k → G2.T k = 11 := fun k e => by
    have h := R2.out.wi.t11 k
    rw [show G2.gf = g1 from congrArg Vw.gf V2.out, ← BF.out.2] at h
    exact h e
  have hnwb : (Value.slice aof N cf).ownBlock ≠ some G.wb := fun e => by have := hnT _ e; rw [← R2.out.nx.wb, R2.out.wi.t1] at this; cases this
  have hnpb : (Value.slice aof N cf).ownBlock ≠ some G.pb := fun e => by have := hnT _ e; rw [← R2.out.nx.pb, R2.out.wi.t3] at this; cases this
  have hfp1 : G.fb ≠ G.wb := fun e => by have := R2.out.wi.t2; rw [R2.out.nx.fb, e, ← R2.out.nx.wb, R2.out.wi.t1] at this; cases this
  have hfp2 : G.fb ≠ G.pb := fun e => by have := R2.out.wi.t2; rw [R2.out.nx.fb, e, ← R2.out.nx.pb, R2.out.wi.t3] at this; cases this
  go_cut [] from 34 to 54 (fun wx => ∃ v' w3, App w2 w3 5 1 (.slice aof N cf) v' (N + np) (bVs lf1 ++ bVs V.lp) ∧ wx = w3.setCell ⟨G.fb, 0, none⟩ v')
  case first =>
    have HB := Lib.hid (show Bf w2.drew (.slice aof N cf) g1 lf1 from BF.out)
    have S1 : Hid (aop = none → np = 0 ∧ cp = 0) := Lib.hid (fun e => by
      rcases BP.out.form with ⟨h, _, h2⟩ | ⟨b, cap, h, _⟩
      · cases h; exact ⟨by rw [HNP.out, h2]; try rfl, rfl⟩
      · rw [e] at h; cases h)
    have S2 : Hid (∀ ad, aop = some ad → ∀ (j : Nat) u, V.lp[j]? = some u → w2.drew.cell? (ad.add j) = some (bV u)) := Lib.hid (fun ad e j u hj => by
      obtain ⟨ad', e', hc⟩ := BP.out.src.2 j u hj
      rw [e] at e'; cases e'; exact hc)
    go_region_law ((refine step_appB w2.drew rfl _ _ rfl (.slice aof N cf) g1 lf1 V.lp rfl HB.out aop np cp rfl HNP.out.symm S1.out S2.out (by rw [HLN.out]; omega) (fun v' w3 ha => ?_)); have hka := ha.kept (w := w2.drew) HB.out.1; have x0 : w3.cell? ⟨G.fb, 0, none⟩ = some (.slice aof N cf) := (hka.cell G.fb 0 hfb hnfb).trans hvf; have y0 : w3.cell? ⟨G.wb, 0, none⟩ = some (.pointer (some ⟨G.fb, 0, none⟩)) := (hka.cell G.wb 0 hwb hnwb).trans f0; have x0f : w3.frozen? ⟨G.fb, 0, none⟩ = false := (hka.fr G.fb 0 hfb).trans hfr0; (rw [HLN.out, ← HNP.out] at ha); obtain ⟨ao3, c3, rfl⟩ := own_slice ha.own; have HA := Lib.hid ha; clear ha hka)
    all_goals
      go_wp2_with fail
      go_meet
      exact ⟨_, _, HA.out.undrew, rfl⟩
  case rest =>
    obtain ⟨v', w3, ha, hwc⟩ := hcut
    subst hwc
    obtain ⟨ao3, c3, hv'⟩ := own_slice ha.own
    subst hv'
    have hka := ha.kept (w := w2) (by have := BF.out.1; rw [HLN.out] at this; exact this)
    have k3 : Kept (fun k _ => k = G.fb) w3 (w3.setCell ⟨G.fb, 0, none⟩ (.slice ao3 (N + np) c3)) := Kept.setCell _ _ _ _ rfl
    have hfb3 := Nat.lt_of_lt_of_le hfb hka.size
    have e1 : (w3.setCell ⟨G.fb, 0, none⟩ (.slice ao3 (N + np) c3)).cell? ⟨G.wb, 1, none⟩ = some (.pointer (some ⟨G.pb, 0, none⟩)) := (k3.cell _ _ (Nat.lt_of_lt_of_le hwb hka.size) (fun e => hfp1 e.symm)).trans ((hka.cell _ _ hwb hnwb).trans f1)
    have e0 : (w3.setCell ⟨G.fb, 0, none⟩ (.slice ao3 (N + np) c3)).cell? ⟨G.wb, 0, none⟩ = some (.pointer (some ⟨G.fb, 0, none⟩)) := (k3.cell _ _ (Nat.lt_of_lt_of_le hwb hka.size) (fun e => hfp1 e.symm)).trans ((hka.cell _ _ hwb hnwb).trans f0)
    have ep0 : (w3.setCell ⟨G.fb, 0, none⟩ (.slice ao3 (N + np) c3)).cell? ⟨G.pb, 0, none⟩ = some (.slice aop np cp) := (k3.cell _ _ (Nat.lt_of_lt_of_le hpb hka.size) (fun e => hfp2 e.symm)).trans ((hka.cell _ _ hpb hnpb).trans hvp)
    have ep1 : (w3.setCell ⟨G.fb, 0, none⟩ (.slice ao3 (N + np) c3)).cell? ⟨G.pb, 1, none⟩ = some (.int .u64 np) := (k3.cell _ _ (Nat.lt_of_lt_of_le hpb hka.size) (fun e => hfp2 e.symm)).trans ((hka.cell _ _ hpb hnpb).trans fpp)
    have ef1 : (w3.setCell ⟨G.fb, 0, none⟩ (.slice ao3 (N + np) c3)).cell? ⟨G.fb, 1, none⟩ = some (.int .u64 N) := by
      rw [World.cell?_setCell_other _ _ _ _ (by simp)]; exact (hka.cell _ _ hfb hnfb).trans fpos
    have ef1f : (w3.setCell ⟨G.fb, 0, none⟩ (.slice ao3 (N + np) c3)).frozen? ⟨G.fb, 1, none⟩ = false := by
      rw [World.frozen?_setCell]; exact (hka.fr _ _ hfb).trans HF.out.f1
    have hput := FW.put (k := V.lp) HF.out (by rw [hvf]) (by rw [HLN.out, ← HNP.out]; exact ha)
    have hlen : ((lf1 ++ V.lp).length : Nat) = N + np := by simp; rw [HLN.out, ← HNP.out]
    rw [hlen] at hput
    have hwr : Wr w2 G.fb g1 lf1.length (lf1 ++ V.lp) ((w3.setCell ⟨G.fb, 0, none⟩ (.slice ao3 (N + np) c3)).setCell ⟨G.fb, 1, none⟩ (.int .u64 ((N + np : Nat) : Int))) :=
      ⟨_, hput.2.1, hput.1, hput.2.2.1, hput.2.2.2, fun b hb => by
        rcases hput.2.1 with h | ⟨b', h, hb'⟩
        · exact .inl (h.symm.trans hb)
        · exact .inr (by cases h.symm.trans hb; exact hb')⟩
    have hr3 : ∃ G3, Reach w G ((w3.setCell ⟨G.fb, 0, none⟩ (.slice ao3 (N + np) c3)).setCell ⟨G.fb, 1, none⟩ (.int .u64 ((N + np : Nat) : Int))) G3 ∧ ∃ g, G3.v = { V with gf := g, lf := lf1 ++ V.lp, cs := upd V.cs 11 (.int .u64 N) } := by
      rw [← R2.out.nx.fb, ← (show G2.gf = g1 from congrArg Vw.gf V2.out), ← (show G2.lf = lf1 from congrArg Vw.lf V2.out)] at hwr
      obtain ⟨g, r⟩ := R2.out.wi.wrfr hwr ((congrArg Vw.zm V2.out).trans hm)
      rw [R2.out.nx.fb] at r
      refine ⟨_, R2.out.trans r, g, ?_⟩
      have h2 : (G2.ff g (G2.lf ++ V.lp) w2.heap.size).v = { G2.v with gf := g, lf := G2.lf ++ V.lp } := rfl
      rw [h2, V2.out, show G2.lf = lf1 from congrArg Vw.lf V2.out]
    obtain ⟨G3, r3, g3, v3⟩ := hr3
    have R3 := Lib.hid r3
    have V3 := Lib.hid v3
    clear r3 v3 hwr hput hlen k3 hka ha HF BF BP
    go_upto_region 13 with fail
    rw [show ((N : Int) + (np : Int)) = ((N + np : Nat) : Int) by simp]
    clear e1 e0 ep0 ep1 ef1 ef1f
    generalize (w3.setCell ⟨G.fb, 0, none⟩ (.slice ao3 (N + np) c3)).setCell ⟨G.fb, 1, none⟩ (.int .u64 ((N + np : Nat) : Int)) = w4 at R3 ⊢
    have e1 := R3.out.cv V3.out 1 ((upd_other V.cs 11 1 (.int .u64 N) (by decide)).trans H1.out) (by decide) (by decide)
    have e1f := R3.out.fr 1 (by decide)
    go_wp2_with fail
    refine (fwClose_any _ _).mono ?_
    rintro e w' ⟨rfl, rfl⟩
    go_wp2_with fail
    refine (fwRemove_any _ _).mono ?_
    rintro e w' ⟨rfl, rfl⟩
    obtain ⟨G5, r5, v5⟩ := R3.out.stv V3.out 1 (.pointer none) (by decide) (by decide) (by decide) (by decide) (by decide) (by decide)
    have R5 := Lib.hid r5
    have V5 := Lib.hid v5
    clear r5 v5
    go_wp2
    go_ret
    refine ⟨g3, rfl, G5, R5.out, ?_⟩
    rw [V5.out, HLF.out]
    simp

end Go.Proofs.YtfipfoplmopkaaaGreatDoor

namespace Go.Proofs.YtfipfoplmopkaaaGreatDoor
open Go.RowKit Go.Maps

/-- What writeLabelIndexesOffsetTable leaves. -/
def WLOT (w : World) (G : Gh) (V : Vw) (ne : Nat) (e : Ending) (w' : World) : Prop :=
  ∃ l1 g k, k.length ≤ 12 + 290 * ne ∧ StE w G { V with l1 := l1, gf := g, lf := V.lf ++ k } e w'

set_option maxRecDepth 100000 in
set_option maxHeartbeats 4000000 in
theorem writeLOT_any (w : World) (G : Gh) (V : Vw) (hG : WI w G) (hV : G.v = V) (es : List (Nat × ByteArray × Nat)) (hLI : LI (fun i => G.T i = 0) w (V.cs 39) es) (ne : Nat) (hne : ne = es.length) (hne9 : ne < 100000) (hl : V.lf.length + 290 * ne < 80000000) (hwn : V.wn ≤ V.lf.length) (hm : V.zm = false) :
    Calls Tryz.prog 98 #[.pointer (some ⟨G.wb, 0, none⟩)] w (WLOT w G V ne) := by
  have R0 := Lib.hid (Reach.refl hG)
  have V0 := Lib.hid hV
  have HL := Lib.hid hLI
  have HE := Lib.hid hne
  have HW := Lib.hid hwn
  have f0 := R0.out.f0
  obtain ⟨p, hp⟩ : ∃ p, p = V.lf.length := ⟨_, rfl⟩
  rw [← hp] at hl
  have fp := R0.out.posv V0.out (n := p) hp.symm
  have HP := Lib.hid hp
  obtain ⟨ao9, c9, h39⟩ := own_slice hLI.row
  rw [← hne] at h39
  have H39 := Lib.hid h39
  clear hG hV hLI hne hp hwn h39
  have hcv := fun (w : World) (C : Array Value) (n c : Nat) => Lib.run_convert_bytes_const (P := Tryz.prog) w 27 5 C n c Tryz.underlying27 Tryz.underlying5
  have mr1 := method_reset
  have mr2 := ahead_reset
  go_enter Tryz.func98, Tryz.ntmps98
  go_wp2_with fail
  have hwl := R0.out.writeLit V0.out alenL (4, 5) (by simp [alenL]; have := HP.out; omega) hm
  rw [show (bVs alenL).toArray = #[.int .u8 97, .int .u8 108, .int .u8 101, .int .u8 110] from rfl, show alenL.length = 4 from rfl] at hwl
  refine hwl.mono ?_
  clear hwl
  rintro e w1 ⟨g1, rfl, G1, r1, v1⟩
  have R1 := Lib.hid r1
  have V1 := Lib.hid v1
  clear r1 v1 f0 fp
  have f44 := R1.out.c44
  go_wp2_with fail
  refine (R1.out.dreset V1.out).mono ?_
  rintro e w2 ⟨rfl, G2, r2, v2⟩
  have R2 := Lib.hid r2
  have V2 := Lib.hid v2
  clear r2 v2 f44
  go_wp2_with fail
  refine (R2.out.reset1 V2.out).mono ?_
  rintro e w3 ⟨rfl, G3, r3, v3⟩
  have R3 := Lib.hid r3
  have V3 := Lib.hid v3
  clear r3 v3
  have f39 := R3.out.cv V3.out 39 H39.out (by decide) (by decide)
  go_wp2_with fail
  go_still_tail 8, (by kernel_rfl)
  go_wp2_with fail
  refine (R3.out.drew.be32i_1 V3.out ne (by simp) (by omega)).mono ?_
  rintro e w4 ⟨rfl, G4, r4, v4⟩
  have R4 := Lib.hid r4
  have V4 := Lib.hid v4
  clear r4 v4 f39
  have f44 := R4.out.c44
  go_wp2_with fail
  go_still_tail 7, (by kernel_rfl)
  go_wp2_with fail
  refine (R4.out.drew.wth1 V4.out (by simp [be32])).mono ?_
  rintro e w5 ⟨rfl, G5, r5, v5⟩
  have R5 := Lib.hid r5
  have V5 := Lib.hid v5
  clear r5 v5 f44
  obtain ⟨ao1, m1, c1, HV1, _⟩ := R5.out.v1
  go_wp2_with (go_at_call 49; refine (get_any G.wb 12 _ w5 HV1).mono ?_; rintro e w' ⟨rfl, rfl⟩)
  refine (R5.out.write1 V5.out HV1 (by simp [be32, alenL]; have := HP.out; omega) hm).mono ?_
  rintro e w6 ⟨g6, rfl, G6, r6, v6⟩
  have R6 := Lib.hid r6
  have v6' : G6.v = { V with l1 := be32 ne, gf := g6, lf := V.lf ++ (alenL ++ (be32 ne ++ [])) } := by rw [v6]; simp
  have V6 := Lib.hid v6'
  clear r6 v6 v6' HV1
  have f39 := R6.out.cv V6.out 39 H39.out (by decide) (by decide)
  go_wp2_with fail
  clear f39
  go_loopw [68] (fun i wr => ∃ j : Nat, j ≤ ne ∧ i = .int .i64 j ∧ Hid (∃ Gr l g k, k.length ≤ 290 * j ∧ Reach w G wr Gr ∧ Gr.v = { V with l1 := l, gf := g, lf := V.lf ++ (alenL ++ (be32 ne ++ k)) })) (fun i _ => ne - (intOf i).toNat)
  case atStart => exact ⟨0, Nat.zero_le _, rfl, Lib.hid ⟨_, _, _, [], Nat.le_refl _, R6.out, V6.out⟩⟩
  case round =>
    obtain ⟨j, hj, rfl, HR⟩ := hrel
    obtain ⟨Gr, lr, gr, kr, hkr, rr, vr⟩ := HR.out
    have RR := Lib.hid rr
    have VR := Lib.hid vr
    have HKR := Lib.hid hkr
    clear rr vr HR hkr R6 V6
    by_cases hlt : j < ne
    · have hjl : j < es.length := by rw [← HE.out]; exact hlt
      obtain ⟨kb, ky, off, he⟩ : ∃ kb ky off, es[j] = (kb, ky, off) := ⟨_, _, _, rfl⟩
      have hmem : (kb, ky, off) ∈ es := by rw [← he]; exact List.getElem_mem _
      obtain ⟨hkT, hkc, hks, hoff⟩ : G.T kb = 0 ∧ w.cell? ⟨kb, 0, none⟩ = some (.string ky) ∧ ky.size < 256 ∧ off < 100000000 := HL.out.key _ hmem
      have hkc' := (KT.cell RR.out.kp (World.block_lt_of_cell? _ _ hkc) hkT 0).trans hkc
      have hkT' := (RR.out.nx.T kb (World.block_lt_of_cell? _ _ hkc)).trans hkT
      have hrow := HL.out.row
      have hnx : ∀ i u, (liVs es)[i]? = some u → ∃ g9, ao9 = some ⟨g9, 0, none⟩ ∧ wr.cell? ⟨g9, i, none⟩ = some u := fun i u hu => by
        rcases hrow.2 with ⟨hq, h0⟩ | ⟨g9, cap, cur, hq, _⟩
        · rw [← HE.out] at h0; omega
        · rw [H39.out] at hq
          have hao : ao9 = some ⟨g9, 0, none⟩ := by cases hq; rfl
          have hob : (V.cs 39).ownBlock = some g9 := by rw [H39.out, hao]; rfl
          have hc := hrow.cells hob i u hu
          rw [Addr.add_lit, Nat.zero_add] at hc
          exact ⟨g9, hao, (KT.cell RR.out.kp (World.block_lt_of_cell? _ _ hc) (HL.out.blk g9 hob) i).trans hc⟩
      have hli : (liVs es)[j * 2]? = some (.slice (some ⟨kb, 0, none⟩) 1 1) ∧ (liVs es)[j * 2 + 1]? = some (.int .u64 off) := by
        have h1 : liVs es = liVs (es.take j) ++ (liV es[j] ++ liVs (es.drop (j + 1))) := by
          unfold liVs
          rw [← List.flatten_cons, ← List.map_cons, ← List.flatten_append, ← List.map_append, ← List.drop_eq_getElem_cons hjl, List.take_append_drop]
        have h2 : (liVs (es.take j)).length = j * 2 := by rw [liVs_len]; simp; omega
        rw [h1, he]
        constructor
        · rw [List.getElem?_append_right (by omega), h2, Nat.sub_self]; rfl
        · rw [List.getElem?_append_right (by omega), h2, show j * 2 + 1 - j * 2 = 1 by omega]; rfl
      obtain ⟨g9, hao, hca⟩ := hnx _ _ hli.1
      obtain ⟨g9', hao', hcb⟩ := hnx _ _ hli.2
      obtain rfl : g9' = g9 := by rw [hao] at hao'; cases hao'; rfl
      subst hao
      have HKC := Lib.hid hkc'
      have HKCW := Lib.hid hkc
      clear hnx hli hrow hkc hkc' he hmem hao'
      obtain ⟨Ga, ra, va, ta, _⟩ := RR.out.newv VR.out (.cells #[.slice (some ⟨kb, 0, none⟩) 1 1, .int .u64 off] 224)
      obtain ⟨eb, heb⟩ : ∃ eb, eb = wr.heap.size := ⟨_, rfl⟩
      obtain ⟨wa, hwa⟩ : ∃ wa, wa = wr.alloc (.cells #[.slice (some ⟨kb, 0, none⟩) 1 1, .int .u64 off] 224) := ⟨_, rfl⟩
      have ca0 : wa.cell? ⟨eb, 0, none⟩ = some (.slice (some ⟨kb, 0, none⟩) 1 1) := by rw [hwa, heb, World.cell?_alloc_new]; rfl
      have ca1 : wa.cell? ⟨eb, 1, none⟩ = some (.int .u64 off) := by rw [hwa, heb, World.cell?_alloc_new]; rfl
      have hebl : eb < wa.heap.size := World.block_lt_of_cell? _ _ ca0
      rw [← heb] at ta
      rw [← hwa] at ra
      have RA := Lib.hid ra
      have VA := Lib.hid va
      have TA := Lib.hid ta
      have HWA := Lib.hid hwa
      have HEB := Lib.hid heb
      clear ra va ta hwa heb
      go_wp2_with fail
      rw [← HWA.out, ← HEB.out]
      clear hca hcb
      refine (RA.out.reset1s VA.out).mono ?_
      rintro e wb ⟨rfl, Gb, rb, vb, sb⟩
      have RB := Lib.hid rb
      have VB := Lib.hid vb
      have SB := Lib.hid sb
      have cb0 := (KT.cell sb.kp hebl TA.out 0).trans ca0
      clear rb vb sb
      go_wp2_with fail
      go_still_tail 6, (by kernel_rfl)
      go_wp2_with fail
      refine (RB.out.drew.uv1s VB.out 1 (by simp) (by decide)).mono ?_
      rintro e wd ⟨rfl, Gd, rd, vd, sd⟩
      have RD := Lib.hid rd
      have VD := Lib.hid vd
      have SD := Lib.hid (SB.out.drew.trans sd)
      clear rd vd sd cb0
      have cd0 := (KT.cell SD.out.kp hebl TA.out 0).trans ca0
      go_wp2_with fail
      clear cd0
      have u1 := Lib.hid (uv_len 1 (by decide))
      have u2 := Lib.hid (uv_len ky.size (by omega))
      go_loopw [86] (fun i wx => ∃ q : Nat, q ≤ 1 ∧ i = .int .i64 q ∧ Hid (∃ Gx l, l.length ≤ 10 + 266 * q ∧ Reach w G wx Gx ∧ Reach wa Ga wx Gx ∧ Gx.v = { V with l1 := l, gf := gr, lf := V.lf ++ (alenL ++ (be32 ne ++ kr)) })) (fun i _ => 1 - (intOf i).toNat)
      case atStart => exact ⟨0, by omega, rfl, Lib.hid ⟨_, _, by have := u1.out; simp; omega, RD.out, SD.out, VD.out⟩⟩
      case round =>
        obtain ⟨q, hq, rfl, HQ⟩ := hrel
        obtain ⟨Gx, lx, hlx, rx, sx, vx⟩ := HQ.out
        have RX := Lib.hid rx
        have SX := Lib.hid sx
        have VX := Lib.hid vx
        have HLX := Lib.hid hlx
        clear rx sx vx hlx HQ RD SD VD
        by_cases hq0 : q = 0
        · subst hq0
          have hkl := World.block_lt_of_cell? _ _ HKC.out
          have cx := (KT.cell RX.out.kp (World.block_lt_of_cell? _ _ HKCW.out) hkT 0).trans HKCW.out
          go_wp2_with fail
          refine (RX.out.str1s VX.out ky (by have := HLX.out; simp; omega) (by omega)).mono ?_
          rintro e wy ⟨rfl, Gy, ry, vy, sy⟩
          have RY := Lib.hid ry
          have VY := Lib.hid vy
          have SY := Lib.hid (SX.out.trans sy)
          clear ry vy sy cx
          go_wp2
          go_roundw
          case rel => exact ⟨1, Nat.le_refl _, by go_num, Lib.hid ⟨_, _, by have := HLX.out; have := u2.out; simp [symE]; omega, RY.out, SY.out, VY.out⟩⟩
          case measure => simp [intOf]
        · obtain rfl : q = 1 := by omega
          have cx1 := (KT.cell SX.out.kp hebl TA.out 1).trans ca1
          go_wp2_with fail
          go_still_tail 5, (by kernel_rfl)
          go_wp2_with fail
          refine (RX.out.drew.u64_1s VX.out off (by have := HLX.out; simp; omega) (by omega)).mono ?_
          rintro e wy ⟨rfl, Gy, ry, vy, sy⟩
          have RY := Lib.hid ry
          have VY := Lib.hid vy
          clear ry vy sy cx1
          have f44 := RY.out.c44
          have u3 := Lib.hid (uv_len off (by omega))
          go_wp2_with fail
          go_still_tail 7, (by kernel_rfl)
          go_wp2_with fail
          refine (RY.out.drew.wth1 VY.out (by have := HLX.out; have := u3.out; simp; omega)).mono ?_
          rintro e wz ⟨rfl, Gz, rz, vz⟩
          have RZ := Lib.hid rz
          have VZ := Lib.hid vz
          clear rz vz f44
          obtain ⟨ao1, m1, c1, HV1, _⟩ := RZ.out.v1
          go_wp2_with (go_at_call 49; refine (get_any G.wb 12 _ wz HV1).mono ?_; rintro e w' ⟨rfl, rfl⟩)
          refine (RZ.out.write1 VZ.out HV1 (by have := HLX.out; have := u3.out; have := HKR.out; simp [be32, alenL]; have := HP.out; omega) hm).mono ?_
          rintro e wq ⟨gq, rfl, Gq, rq, vq⟩
          have RQ := Lib.hid rq
          have VQ := Lib.hid vq
          clear rq vq HV1
          go_wp2
          go_roundw
          case rel => exact ⟨j + 1, by omega, by go_num, Lib.hid ⟨Gq, lx ++ Lib.uvarint off, gq, kr ++ (lx ++ Lib.uvarint off), by have := HLX.out; have := u3.out; have := HKR.out; simp; omega, RQ.out, by rw [VQ.out]; simp⟩⟩
          case measure => simp [intOf]; omega
    · obtain rfl : j = ne := by omega
      obtain ⟨m, hm2⟩ : ∃ m, m = 4 + kr.length := ⟨_, rfl⟩
      have hmb : m < 80000000 := by have := HKR.out; omega
      have HM := Lib.hid hm2
      clear hm2
      have HLH := Lib.hid (writeLH_any wr Gr _ RR.out.wi VR.out p m (by simp [alenL, be32]; have := HP.out; have := HM.out; omega) (by have := HKR.out; have := HM.out; omega) (by have := HW.out; have := HP.out; simp; omega) hm)
      rw [RR.out.nx.wb] at HLH
      go_wp2_with fail
      refine HLH.out.mono ?_
      rintro e w7 ⟨l7, g7, k7, hk7, rfl, G7, r7, v7⟩
      have R7 := Lib.hid (RR.out.trans r7)
      have V7 := Lib.hid v7
      clear r7 v7 HLH
      go_wp2
      go_ret
      refine ⟨l7, g7, be32 m ++ ((be32 j ++ kr) ++ k7), ?_, rfl, G7, R7.out, ?_⟩
      · simp [be32, hk7]; have := HKR.out; omega
      · rw [V7.out]
        rw [spl_mid V.lf alenL (be32 j ++ kr) (be32 m) p HP.out.symm rfl]
        simp

end Go.Proofs.YtfipfoplmopkaaaGreatDoor

namespace Go.Proofs.YtfipfoplmopkaaaGreatDoor
open Go.RowKit Go.Maps

/-- The Writer beside a Decbuf over the offsets' bytes and a variable that holds a file. -/
structure S9 (w0 : World) (G0 : Gh) (b db fx sf : Nat) (wr : World) (Gr : Gh) (V : Vw) (l : List UInt8) : Prop where
  R : Reach w0 G0 wr Gr
  v : Gr.v = V
  d : DB wr db b l
  tdb : Gr.T db = 0
  tb : Gr.T b = 13
  fc : wr.cell? ⟨fx, 0, none⟩ = some (.pointer (some ⟨sf, 0, none⟩))
  ff : wr.frozen? ⟨fx, 0, none⟩ = false
  tf : Gr.T fx = 0
  ne : fx ≠ db
  wd : w0.heap.size ≤ db
  wf : w0.heap.size ≤ fx
  bl : b < wr.heap.size
  zo : V.zo = true
theorem S9.db {w0 : World} {G0 : Gh} {b db fx sf : Nat} {wr w' : World} {Gr : Gh} {V : Vw} {l l' : List UInt8} (q : S9 w0 G0 b db fx sf wr Gr V l) (hk : Kept (dbP db) wr w') (hd : DB w' db b l') : ∃ G', S9 w0 G0 b db fx sf w' G' V l' := by
  obtain ⟨G', r', v', tn, tO⟩ := q.R.locv q.v hk (fun k o hk' hp => by unfold dbP at hp; subst hp; exact ⟨q.wd, q.tdb⟩)
  have hfl := World.block_lt_of_cell? _ _ q.fc
  exact ⟨G', r', v', hd, (tO db q.d.lt).trans q.tdb, (tO b q.bl).trans q.tb, (hk.cell _ _ hfl q.ne).trans q.fc, (hk.fr _ _ hfl).trans q.ff, (tO fx hfl).trans q.tf, q.ne, q.wd, q.wf, Nat.lt_of_lt_of_le q.bl hk.size, q.zo⟩
theorem S9.st {w0 : World} {G0 : Gh} {b db fx sf : Nat} {wr w' : World} {Gr G' : Gh} {V V' : Vw} {l : List UInt8} (q : S9 w0 G0 b db fx sf wr Gr V l) (r : Reach w0 G0 w' G') (v : G'.v = V') (s : Reach wr Gr w' G') (hz : V'.zo = true) : S9 w0 G0 b db fx sf w' G' V' l := by
  have hfl := World.block_lt_of_cell? _ _ q.fc
  exact ⟨r, v, q.d.reach13 s q.tdb q.tb ((congrArg Vw.zo q.v).trans q.zo), (s.nx.T db q.d.lt).trans q.tdb, (s.nx.T b q.bl).trans q.tb, (KT.cell s.kp hfl q.tf 0).trans q.fc, (s.kp.fr _ _ hfl).trans q.ff, (s.nx.T fx hfl).trans q.tf, q.ne, q.wd, q.wf, Nat.lt_of_lt_of_le q.bl s.kp.size, hz⟩
theorem S9.drew {w0 : World} {G0 : Gh} {b db fx sf : Nat} {wr : World} {Gr : Gh} {V : Vw} {l : List UInt8} (q : S9 w0 G0 b db fx sf wr Gr V l) : S9 w0 G0 b db fx sf wr.drew Gr V l :=
  ⟨q.R.drew, q.v, q.d.kept (Kept.drew (fun _ _ => False) _) (fun _ => id) (fun _ _ => id), q.tdb, q.tb, q.fc, q.ff, q.tf, q.ne, q.wd, q.wf, q.bl, q.zo⟩

/-- yoloString. -/
theorem yolo_any (v : Value) (s : ByteArray) (w : World) (h : (convert 27 9 v).run Tryz.prog w = .ok (.string s) w) : Calls Tryz.prog 148 #[v] w fun e w' => e = .returned (.string s) ∧ w = w' := by
  go_enter Tryz.func148, Tryz.ntmps148
  go_wp2
  go_ret
  exact ⟨rfl, rfl⟩

/-- The closure that is deferred: the file is let go already. -/
theorem pot1_d (fx : Nat) (u : FrameMode) (w : World) (h : w.cell? ⟨fx, 0, none⟩ = some (.pointer none)) : CallsD Tryz.prog 147 #[.pointer (some ⟨fx, 0, none⟩)] u w fun e u' w' => u' = u ∧ (e = .returned (.tuple #[]) ∧ w' = w) := by
  go_enter_d Tryz.func147, Tryz.ntmps147
  go_wp2
  go_end0
  exact ⟨rfl, rfl⟩

end Go.Proofs.YtfipfoplmopkaaaGreatDoor
