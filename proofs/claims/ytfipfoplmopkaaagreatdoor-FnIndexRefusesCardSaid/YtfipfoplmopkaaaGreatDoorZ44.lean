/- writePostingsToTmpFiles, whole: the main file's blocks stay whole while it runs. Conditions: as writePTT_in. ensureStage(53) at 3, from stage 2. Conditions: bounds on lengths. ensureStage(53) at 3, from stages 0 and 1. Conditions: bounds on lengths. -/
import Derived.Test.YtfipfoplmopkaaaGreatDoorZ42
import Derived.Test.YtfipfoplmopkaaaGreatDoorZ37
import Derived.Test.YtfipfoplmopkaaaGreatDoorZ26
import Derived.Test.YtfipfoplmopkaaaGreatDoorZ40
import Derived.Test.YtfipfoplmopkaaaGreatDoorZ43
import Derived.Test.YtfipfoplmopkaaaGreatDoorZ38
import Derived.Deep.Light

namespace Go.Proofs.YtfipfoplmopkaaaGreatDoor
open Go.RowKit

theorem writePTT_any (w : World) (G : Gh) (V : Vw) (hG : WI w G) (hV : G.v = V) (hzm : V.zm = false) (hzo : V.zo = false) (F : Fx) (pre : List UInt8) (p L : Nat) (SL : List Se) (h : PH w (G.fz true false) { V with zm := true, zo := false } F pre p L SL) :
    Calls Tryz.prog 95 #[.pointer (some ⟨G.wb, 0, none⟩)] w (WPTT w G V) := by
  refine (writePTT_in w (G.fz true false) { V with zm := true, zo := false } (hG.fz _ _) (Gh.fz_v hV _ _) F pre p L SL h).mono ?_
  rintro e w' ⟨he, G', PL, l1, l2, lp, go, r, v, h1, h2, h3, h4⟩
  have hm : G.zm = false := (congrArg Vw.zm hV).trans hzm
  have ho : G.zo = false := (congrArg Vw.zo hV).trans hzo
  refine ⟨he, G'.fz false false, PL, l1, l2, lp, go, r.unfz hm ho, ?_, h1, h2, h3, h4⟩
  rw [Gh.fz_v v]
  cases V
  simp only at hzm hzo
  subst hzm hzo
  rfl

end Go.Proofs.YtfipfoplmopkaaaGreatDoor

namespace Go.Proofs.YtfipfoplmopkaaaGreatDoor
open Go.RowKit

/-- What ensureStage(3) leaves. -/
def Ens3 (w : World) (G : Gh) (c36 : Value) (e : Ending) (w' : World) : Prop :=
  e = .returned .nilIface ∧ ∃ G', Reach w G w' G' ∧ G'.cs 1 = .pointer none ∧ G'.cs 2 = .pointer none ∧ G'.cs 36 = c36

/-- What ensureStage(3) wants of the Writer at stage 2. -/
structure P3 (w : World) (G : Gh) (V : Vw) (F : Fx) (pre : List UInt8) (p L : Nat) (SL : List Se) (a0 : Nat) : Prop where
  hG : WI w G
  hV : G.v = V
  h10 : V.cs 10 = .int .u8 2
  zm : V.zm = false
  zo : V.zo = false
  h : PH w (G.fz true false) { V with zm := true, zo := false, cs := upd V.cs 6 (.int .u64 L) } F pre p L SL
  b0 : F.b0 < w.heap.size
  h39 : V.cs 39 = .slice none 0 0
  h4 : V.cs 4 = .int .u64 a0
  ha0 : a0 < 100000000
  hL7 : L < 7000000
  hwn : V.wn ≤ L

set_option maxRecDepth 100000 in
set_option maxHeartbeats 8000000 in
theorem ens3_2 (w : World) (G : Gh) (V : Vw) (F : Fx) (pre : List UInt8) (p L : Nat) (SL : List Se) (a0 : Nat) (hp3 : P3 w G V F pre p L SL a0) :
    Calls Tryz.prog 53 #[.pointer (some ⟨G.wb, 0, none⟩), .int .u8 3] w (Ens3 w G (V.cs 36)) := by
  obtain ⟨hG, hV, h10, hzm, hzo, h, hb0, h39, h4, ha0, hL7, hwn⟩ := hp3
  have R0 := Lib.hid (Reach.refl hG)
  have V0 := Lib.hid hV
  have hL : V.lf.length = L := h.hL.symm
  have f0 := R0.out.f0
  have f10 := R0.out.cv V0.out 10 h10 (by decide) (by decide)
  have fp := R0.out.posv V0.out hL
  have f6 := R0.out.cv V0.out 6 rfl (by decide) (by decide)
  have fr6 := R0.out.fr 6 (by decide)
  obtain ⟨G1, r1, v1, rs1, t1⟩ := R0.out.stvs V0.out 6 (.int .u64 L) (by decide) (by decide) (by decide) (by decide) (by decide) (by decide)
  obtain ⟨w1, hw1⟩ : ∃ w1, w1 = w.setCell ⟨G.wb, 6, none⟩ (.int .u64 L) := ⟨_, rfl⟩
  rw [← hw1] at r1 rs1
  have hPH : PH w1 (G1.fz true false) { V with zm := true, zo := false, cs := upd V.cs 6 (.int .u64 L) } F pre p L SL := h.go rs1.nx rs1.kp.size (fun k hk hT => by
    rw [hw1]; exact heap_setCell_other _ _ _ k (fun e => hT (by rw [e]; exact hG.t1))) hb0
  have hptt := writePTT_any w1 G1 { V with cs := upd V.cs 6 (.int .u64 L) } r1.wi v1 hzm hzo F pre p L SL hPH
  rw [r1.nx.wb] at hptt
  have PTTc := Lib.hid hptt
  have H := Lib.hid h
  have R1 := Lib.hid r1
  have RS1 := Lib.hid rs1
  have HW1 := Lib.hid hw1
  have HL := Lib.hid hL
  have H39 := Lib.hid h39
  have H4 := Lib.hid h4
  have H10 := Lib.hid h10
  have HZM := Lib.hid hzm
  have HZO := Lib.hid hzo
  clear hG hV h10 hzm hzo h hb0 h39 h4 r1 v1 rs1 t1 hw1 hPH hptt hL
  go_enter Tryz.func53, Tryz.ntmps53
  go_wp2_with fail
  rw [← HW1.out]
  refine PTTc.out.mono ?_
  rintro e w2 ⟨rfl, G2, PL, l1, l2, lp, go, r2, v2, hlp, hok, hPL0, hPL⟩
  have hPL0' := hlp
  have R2 := Lib.hid (R1.out.trans r2)
  have S2 := Lib.hid (RS1.out.trans r2)
  obtain ⟨N, hN⟩ : ∃ N, N = PL.length := ⟨_, rfl⟩
  obtain ⟨VP, hVP⟩ : ∃ VP, VP = ptV { V with cs := upd V.cs 6 (.int .u64 L) } PL l1 l2 lp go := ⟨_, rfl⟩
  have e2 : VP.cs 2 = .pointer (some ⟨G2.ob, 0, none⟩) := by
    rw [hVP, ptV_cs _ PL l1 l2 lp go 2 (by decide), S2.out.nx.ob]; exact H.out.h2
  have e1 : VP.cs 1 = .pointer (some ⟨G2.pb, 0, none⟩) := by
    rw [hVP, ptV_cs _ PL l1 l2 lp go 1 (by decide), S2.out.nx.pb]; exact H.out.h1
  have e3 : VP.cs 3 = .int .u64 N := by rw [hVP, hN]; exact ptV_3 _ PL l1 l2 lp go
  have e39 : VP.cs 39 = .slice none 0 0 := by
    rw [hVP, ptV_cs _ PL l1 l2 lp go 39 (by decide)]; exact (upd_other V.cs 6 39 (.int .u64 (L : Int)) (by decide)).trans H39.out
  have elf : VP.lf = V.lf := by rw [hVP]; rfl
  have elo : VP.lo = pEs PL := by rw [hVP]; rfl
  have eS : VP.S = V.S := by rw [hVP]; rfl
  have ezm : VP.zm = false := by rw [hVP]; exact HZM.out
  have ezo : VP.zo = false := by rw [hVP]; exact HZO.out
  have ewn : VP.wn = V.wn := by rw [hVP]; rfl
  have elp : VP.lp = lp := by rw [hVP]; rfl
  have e10 : VP.cs 10 = .int .u8 2 := by
    rw [hVP, ptV_cs _ PL l1 l2 lp go 10 (by decide)]; exact (upd_other V.cs 6 10 (.int .u64 (L : Int)) (by decide)).trans H10.out
  have hlo1 := pEs_len V.S PL hok
  have hlo0 : 0 < (pEs PL).length := by
    cases PL with
    | nil => simp at hPL0
    | cons a b => have := Lib.uvarint_pos 2; simp [pEs, pE, postE]; omega
  rw [← hVP] at v2
  have hli := writeLIs_any w2 G2 VP r2.wi v2 PL elo e2 N hN e3 e39 (fun e he => ⟨(hok e he).1, (hok e he).2.1, (hok e he).2.2.1⟩) (fun e he => by rw [eS]; exact (hok e he).2.2.2) (by omega) (by rw [elf, HL.out]; omega) (by rw [elo]; omega) (by rw [elo]; exact hlo0) ezm ezo (by rw [ewn, elf, HL.out]; exact hwn)
  rw [R2.out.nx.wb] at hli
  have LIc := Lib.hid hli
  clear hli
  go_wp2_with fail
  refine LIc.out.mono ?_
  rintro e w3 ⟨rfl, G3, l3, g3, v39, es, K, r3, v3, hK, hLI, hes⟩
  have R3 := Lib.hid (R2.out.trans r3)
  obtain ⟨VL, hVL⟩ : ∃ VL, VL = { VP with l1 := l3, gf := g3, lf := VP.lf ++ K, cs := upd VP.cs 39 v39 } := ⟨_, rfl⟩
  rw [← hVL] at v3
  have a1 : VL.cs 1 = .pointer (some ⟨G3.pb, 0, none⟩) := by rw [hVL, r3.nx.pb]; exact (upd_other VP.cs 39 1 v39 (by decide)).trans e1
  have a2 : VL.cs 2 = .pointer (some ⟨G3.ob, 0, none⟩) := by rw [hVL, r3.nx.ob]; exact (upd_other VP.cs 39 2 v39 (by decide)).trans e2
  have a3 : VL.cs 3 = .int .u64 N := by rw [hVL]; exact (upd_other VP.cs 39 3 v39 (by decide)).trans e3
  have a10 : VL.cs 10 = .int .u8 2 := by rw [hVL]; exact (upd_other VP.cs 39 10 v39 (by decide)).trans e10
  have a39 : VL.cs 39 = v39 := by rw [hVL]; exact upd_same VP.cs 39 v39
  have alf : VL.lf = V.lf ++ K := by rw [hVL, ← elf]
  have alo : VL.lo = pEs PL := by rw [hVL]; exact elo
  have azm : VL.zm = false := by rw [hVL]; exact ezm
  have azo : VL.zo = false := by rw [hVL]; exact ezo
  have awn : VL.wn = V.wn := by rw [hVL]; exact ewn
  have alp : VL.lp = lp := by rw [hVL]; exact elp
  obtain ⟨n3, hn3⟩ : ∃ n3, VL.lf.length = n3 := ⟨_, rfl⟩
  have hn3v : n3 = L + K.length := by rw [← hn3, alf, List.length_append, HL.out]
  have f03 := R3.out.f0
  have fp3 := R3.out.posv v3 hn3
  have f8 := R3.out.cv v3 8 rfl (by decide) (by decide)
  have fr8 := R3.out.fr 8 (by decide)
  obtain ⟨G4, r4, v4, rs4, t4⟩ := R3.out.stvs v3 8 (.int .u64 n3) (by decide) (by decide) (by decide) (by decide) (by decide) (by decide)
  obtain ⟨w4, hw4⟩ : ∃ w4, w4 = w3.setCell ⟨G.wb, 8, none⟩ (.int .u64 n3) := ⟨_, rfl⟩
  rw [← hw4] at r4 rs4
  obtain ⟨N4, hN4⟩ : ∃ N4, N4 = n3 + padN n3 4 := ⟨_, rfl⟩
  have hps := writePostings_any w4 G4 { VL with cs := upd VL.cs 8 (.int .u64 n3) } r4.wi v4 (by rw [rs4.nx.pb]; exact (upd_other VL.cs 8 1 (.int .u64 (n3 : Int)) (by decide)).trans a1) N4 (by rw [hN4, ← hn3]) (by show VL.lf.length < _; rw [hn3]; omega) (by show VL.lp.length < _; rw [alp]; omega) azm
  rw [r4.nx.wb] at hps
  have PSc := Lib.hid hps
  have HW4 := Lib.hid hw4
  have HN3V := Lib.hid hn3v
  clear hps hw4 hn3v
  go_wp2_with fail
  rw [← HW4.out]
  refine PSc.out.mono ?_
  rintro e w5 ⟨g5, rfl, G5, r5, v5⟩
  have R5 := Lib.hid (r4.trans r5)
  have hLI5 : LI (fun i => G5.T i = 0) w5 v39 es := hLI.kept (P := fun k => G3.T k ≠ 0) (rs4.trans r5).kp (fun k _ hk hn => hn hk.2) (fun k hk h => ((rs4.trans r5).nx.T k hk).trans h.2)
  have e25 : G5.ob = G3.ob := (rs4.trans r5).nx.ob
  obtain ⟨VM, hVM⟩ : ∃ VM : Vw, VM = { VL with cs := upd (upd (upd VL.cs 8 (.int .u64 (n3 : Int))) 11 (.int .u64 (N4 : Int))) 1 (.pointer none), gf := g5, lf := VL.lf ++ (zeros (padN VL.lf.length 4) ++ VL.lp) } := ⟨_, rfl⟩
  have v5' : G5.v = VM := by rw [hVM]; exact v5
  have bcs : ∀ i, i ≠ 1 → i ≠ 11 → i ≠ 8 → VM.cs i = VL.cs i := by
    intro i h1 h11 h8; rw [hVM]
    exact (upd_other (upd (upd VL.cs 8 (.int .u64 (n3 : Int))) 11 (.int .u64 (N4 : Int))) 1 i (.pointer none) h1).trans ((upd_other (upd VL.cs 8 (.int .u64 (n3 : Int))) 11 i (.int .u64 (N4 : Int)) h11).trans (upd_other VL.cs 8 i (.int .u64 (n3 : Int)) h8))
  have b1 : VM.cs 1 = .pointer none := by rw [hVM]; exact upd_same (upd (upd VL.cs 8 (.int .u64 (n3 : Int))) 11 (.int .u64 (N4 : Int))) 1 (.pointer none)
  have b11 : VM.cs 11 = .int .u64 N4 := by rw [hVM]; exact (upd_other (upd (upd VL.cs 8 (.int .u64 (n3 : Int))) 11 (.int .u64 (N4 : Int))) 1 11 (.pointer none) (by decide)).trans (upd_same (upd VL.cs 8 (.int .u64 (n3 : Int))) 11 (.int .u64 (N4 : Int)))
  have b8 : VM.cs 8 = .int .u64 n3 := by rw [hVM]; exact (upd_other (upd (upd VL.cs 8 (.int .u64 (n3 : Int))) 11 (.int .u64 (N4 : Int))) 1 8 (.pointer none) (by decide)).trans ((upd_other (upd VL.cs 8 (.int .u64 (n3 : Int))) 11 8 (.int .u64 (N4 : Int)) (by decide)).trans (upd_same VL.cs 8 (.int .u64 (n3 : Int))))
  have b2 : VM.cs 2 = .pointer (some ⟨G5.ob, 0, none⟩) := by rw [e25]; exact (bcs 2 (by decide) (by decide) (by decide)).trans a2
  have b3 := (bcs 3 (by decide) (by decide) (by decide)).trans a3
  have b10 := (bcs 10 (by decide) (by decide) (by decide)).trans a10
  have b39 := (bcs 39 (by decide) (by decide) (by decide)).trans a39
  have blf : VM.lf = VL.lf ++ (zeros (padN VL.lf.length 4) ++ VL.lp) := by rw [hVM]
  have blo : VM.lo = pEs PL := by rw [hVM]; exact alo
  have bzm : VM.zm = false := by rw [hVM]; exact azm
  have bzo : VM.zo = false := by rw [hVM]; exact azo
  have bwn : VM.wn = V.wn := by rw [hVM]; exact awn
  obtain ⟨n5, hn5⟩ : ∃ n5, VM.lf.length = n5 := ⟨_, rfl⟩
  have hpad := padN_lt VL.lf.length 4 (by decide)
  have hn5v : n5 < L + K.length + 4 + lp.length := by
    rw [← hn5, blf, List.length_append, List.length_append, zeros_length, alp, hn3, HN3V.out]; rw [hn3, HN3V.out] at hpad; omega
  have hn5L : L ≤ n5 := by
    rw [← hn5, blf, List.length_append, hn3, HN3V.out]; omega
  have f05 := R5.out.f0
  have fp5 := R5.out.posv v5' hn5
  have f75 := R5.out.cv v5' 7 rfl (by decide) (by decide)
  have fr75 := R5.out.fr 7 (by decide)
  obtain ⟨G6, r6, v6, rs6, t6⟩ := R5.out.stvs v5' 7 (.int .u64 n5) (by decide) (by decide) (by decide) (by decide) (by decide) (by decide)
  obtain ⟨w6, hw6⟩ : ∃ w6, w6 = w5.setCell ⟨G.wb, 7, none⟩ (.int .u64 n5) := ⟨_, rfl⟩
  rw [← hw6] at r6 rs6
  obtain ⟨ne, hne⟩ : ∃ ne, ne = es.length := ⟨_, rfl⟩
  have hlp9 : lp.length ≤ 900 * 40001 := Nat.le_trans hPL0' (Nat.mul_le_mul_left 900 (by omega))
  obtain ⟨VN, hVN⟩ : ∃ VN : Vw, VN = { VM with cs := upd VM.cs 7 (.int .u64 (n5 : Int)) } := ⟨_, rfl⟩
  have v6' : G6.v = VN := by rw [hVN]; exact v6
  have ccs : ∀ i, i ≠ 7 → VN.cs i = VM.cs i := by intro i h; rw [hVN]; exact upd_other VM.cs 7 i (.int .u64 (n5 : Int)) h
  have c7 : VN.cs 7 = .int .u64 n5 := by rw [hVN]; exact upd_same VM.cs 7 (.int .u64 (n5 : Int))
  have clf : VN.lf = VM.lf := by rw [hVN]
  have clo : VN.lo = pEs PL := by rw [hVN]; exact blo
  have czm : VN.zm = false := by rw [hVN]; exact bzm
  have czo : VN.zo = false := by rw [hVN]; exact bzo
  have cwn : VN.wn = V.wn := by rw [hVN]; exact bwn
  have hLI6 : LI (fun i => G6.T i = 0) w6 (VN.cs 39) es := by
    rw [ccs 39 (by decide), b39]
    exact hLI5.kept (P := fun k => G5.T k ≠ 0) rs6.kp (fun k _ hk hn => hn hk) (fun k hk h => (rs6.nx.T k hk).trans h)
  have hlot := writeLOT_any w6 G6 VN r6.wi v6' es hLI6 ne hne (by omega) (by rw [clf, hn5]; omega) (by rw [cwn, clf, hn5]; exact Nat.le_trans hwn hn5L) czm
  rw [r6.nx.wb] at hlot
  have e56 : G6.ob = G5.ob := rs6.nx.ob
  have LOTc := Lib.hid hlot
  have HW6 := Lib.hid hw6
  have HNE := Lib.hid hne
  have HN5 := Lib.hid hn5v
  have HN5L := Lib.hid hn5L
  clear hlot hw6 hne hn5v hn5L hpad hLI hLI5 hLI6
  go_wp2_with fail
  rw [← HW6.out]
  refine LOTc.out.mono ?_
  rintro e w7 ⟨l7, g7, k7, hk7, rfl, G7, r7, v7⟩
  have R7 := Lib.hid (r6.trans r7)
  obtain ⟨VO, hVO⟩ : ∃ VO : Vw, VO = { VN with l1 := l7, gf := g7, lf := VN.lf ++ k7 } := ⟨_, rfl⟩
  rw [← hVO] at v7
  have dcs : ∀ i, VO.cs i = VN.cs i := by intro i; rw [hVO]
  have dlf : VO.lf = VN.lf ++ k7 := by rw [hVO]
  have dlo : VO.lo = pEs PL := by rw [hVO]; exact clo
  have dzm : VO.zm = false := by rw [hVO]; exact czm
  have dzo : VO.zo = false := by rw [hVO]; exact czo
  have dwn : VO.wn = V.wn := by rw [hVO]; exact cwn
  obtain ⟨n7, hn7⟩ : ∃ n7, VO.lf.length = n7 := ⟨_, rfl⟩
  have hn7v : n7 = n5 + k7.length := by rw [← hn7, dlf, List.length_append, clf, hn5]
  have f07 := R7.out.f0
  have fp7 := R7.out.posv v7 hn7
  have f97 := R7.out.cv v7 9 rfl (by decide) (by decide)
  have fr97 := R7.out.fr 9 (by decide)
  obtain ⟨G8, r8, v8, rs8, t8⟩ := R7.out.stvs v7 9 (.int .u64 n7) (by decide) (by decide) (by decide) (by decide) (by decide) (by decide)
  obtain ⟨w8, hw8⟩ : ∃ w8, w8 = w7.setCell ⟨G.wb, 9, none⟩ (.int .u64 n7) := ⟨_, rfl⟩
  rw [← hw8] at r8 rs8
  obtain ⟨VQ, hVQ⟩ : ∃ VQ : Vw, VQ = { VO with cs := upd VO.cs 9 (.int .u64 (n7 : Int)) } := ⟨_, rfl⟩
  have v8' : G8.v = VQ := by rw [hVQ]; exact v8
  have ecs : ∀ i, i ≠ 9 → VQ.cs i = VO.cs i := by intro i h; rw [hVQ]; exact upd_other VO.cs 9 i (.int .u64 (n7 : Int)) h
  have e9 : VQ.cs 9 = .int .u64 n7 := by rw [hVQ]; exact upd_same VO.cs 9 (.int .u64 (n7 : Int))
  have qcs : ∀ i, i ≠ 9 → i ≠ 7 → VQ.cs i = VM.cs i := fun i h9 h7 => (ecs i h9).trans ((dcs i).trans (ccs i h7))
  have elf8 : VQ.lf = VO.lf := by rw [hVQ]
  have elo8 : VQ.lo = pEs PL := by rw [hVQ]; exact dlo
  have ezm8 : VQ.zm = false := by rw [hVQ]; exact dzm
  have ezo8 : VQ.zo = false := by rw [hVQ]; exact dzo
  have ewn8 : VQ.wn = V.wn := by rw [hVQ]; exact dwn
  have hN4v : N4 < 90000000 := by
    have := padN_lt n3 4 (by decide); have := HN3V.out; omega
  have e28 : VQ.cs 2 = .pointer (some ⟨G8.ob, 0, none⟩) := by
    rw [rs8.nx.ob, r7.nx.ob, e56]; exact (qcs 2 (by decide) (by decide)).trans b2
  have hpot := writePOT_any w8 G8 VQ r8.wi v8' PL elo8 e28 N hN ((qcs 3 (by decide) (by decide)).trans b3) N4 ((qcs 11 (by decide) (by decide)).trans b11) (by omega) (fun e he => ⟨(hok e he).1, (hok e he).2.1, (hok e he).2.2.1⟩) (by omega) (by rw [elf8, hn7]; have := HNE.out; have := HN5.out; omega) (by rw [elo8]; omega) (by rw [elo8]; exact hlo0) ezm8 ezo8 (by rw [ewn8, elf8, hn7]; have := HN5L.out; omega)
  rw [r8.nx.wb] at hpot
  have POTc := Lib.hid hpot
  have HW8 := Lib.hid hw8
  have HN7 := Lib.hid hn7v
  clear hpot hw8 hn7v
  go_wp2_with fail
  rw [← HW8.out]
  refine POTc.out.mono ?_
  rintro e w9 ⟨rfl, G9, l9, g9, k9, hk9, r9, v9⟩
  have R9 := Lib.hid (r8.trans r9)
  obtain ⟨VR, hVR⟩ : ∃ VR : Vw, VR = { VQ with l1 := l9, gf := g9, lf := VQ.lf ++ k9, cs := upd VQ.cs 2 (.pointer none) } := ⟨_, rfl⟩
  rw [← hVR] at v9
  have rcs : ∀ i, i ≠ 2 → VR.cs i = VQ.cs i := by intro i h; rw [hVR]; exact upd_other VQ.cs 2 i (.pointer none) h
  have r2' : VR.cs 2 = .pointer none := by rw [hVR]; exact upd_same VQ.cs 2 (.pointer none)
  have rzm : VR.zm = false := by rw [hVR]; exact ezm8
  have scs : ∀ i, i ≠ 2 → i ≠ 9 → i ≠ 7 → i ≠ 1 → i ≠ 11 → i ≠ 8 → i ≠ 39 → i ≠ 3 → i ≠ 6 → VR.cs i = V.cs i := by
    intro i h2 h9 h7 h1 h11 h8 h39 h3 h6
    refine (rcs i h2).trans ((qcs i h9 h7).trans ((bcs i h1 h11 h8).trans ?_))
    rw [hVL]; refine (upd_other VP.cs 39 i v39 h39).trans ?_
    rw [hVP, ptV_cs _ PL l1 l2 lp go i h3]; exact upd_other V.cs 6 i (.int .u64 (L : Int)) h6
  have s4 : VR.cs 4 = .int .u64 a0 := (scs 4 (by decide) (by decide) (by decide) (by decide) (by decide) (by decide) (by decide) (by decide) (by decide)).trans H4.out
  have s5 : VR.cs 5 = .int .u64 p := (scs 5 (by decide) (by decide) (by decide) (by decide) (by decide) (by decide) (by decide) (by decide) (by decide)).trans ((upd_other V.cs 6 5 (.int .u64 (L : Int)) (by decide)).symm.trans H.out.h5)
  have s6 : VR.cs 6 = .int .u64 L := by
    refine (rcs 6 (by decide)).trans ((qcs 6 (by decide) (by decide)).trans ((bcs 6 (by decide) (by decide) (by decide)).trans ?_))
    rw [hVL]; refine (upd_other VP.cs 39 6 v39 (by decide)).trans ?_
    rw [hVP, ptV_cs _ PL l1 l2 lp go 6 (by decide)]; exact upd_same V.cs 6 (.int .u64 (L : Int))
  have s7 : VR.cs 7 = .int .u64 n5 := (rcs 7 (by decide)).trans ((ecs 7 (by decide)).trans ((dcs 7).trans c7))
  have s8 : VR.cs 8 = .int .u64 n3 := (rcs 8 (by decide)).trans ((qcs 8 (by decide) (by decide)).trans b8)
  have s9 : VR.cs 9 = .int .u64 n7 := (rcs 9 (by decide)).trans e9
  have s1 : VR.cs 1 = .pointer none := (rcs 1 (by decide)).trans ((qcs 1 (by decide) (by decide)).trans b1)
  have s10 : VR.cs 10 = .int .u8 2 := (rcs 10 (by decide)).trans ((qcs 10 (by decide) (by decide)).trans b10)
  have s36 : VR.cs 36 = V.cs 36 := scs 36 (by decide) (by decide) (by decide) (by decide) (by decide) (by decide) (by decide) (by decide) (by decide)
  have hpL : p ≤ L := by
    have h1 := H.out.hL; have h2 := H.out.lf; have h3 := H.out.hp
    rw [h1, h2, List.length_append, h3]; omega
  have rlf : VR.lf.length = n7 + k9.length := by rw [hVR]; simp only [List.length_append]; rw [elf8, hn7]
  have hn79 : n7 + k9.length < 90000000 := by have := HN7.out; have := HNE.out; have := HN5.out; omega
  have htoc := writeTOC_any w9 G9 VR R9.out.wi v9 (by rw [rlf]; exact hn79) a0 p L n5 n3 n7 s4 s5 s6 s7 s8 s9 (by omega) (by omega) (by omega) (by have := HN7.out; omega) (by have := HN7.out; have := HN5L.out; have := HN3V.out; have := HN5.out; omega) (by omega) rzm
  rw [R9.out.nx.wb] at htoc
  have TOCc := Lib.hid htoc
  clear htoc
  go_wp2_with fail
  refine TOCc.out.mono ?_
  rintro e wa ⟨la, ga, ka, rfl, Ga, ra, va⟩
  have RA := Lib.hid (R9.out.trans ra)
  obtain ⟨VT, hVT⟩ : ∃ VT : Vw, VT = { VR with l1 := la, lf := VR.lf ++ ka, gf := ga } := ⟨_, rfl⟩
  rw [← hVT] at va
  have tcs : ∀ i, VT.cs i = VR.cs i := by intro i; rw [hVT]
  have f10a := RA.out.cv va 10 ((tcs 10).trans s10) (by decide) (by decide)
  have fr10a := RA.out.fr 10 (by decide)
  obtain ⟨Gb, rb, vb, rsb, tb⟩ := RA.out.stvs va 10 (.int .u8 3) (by decide) (by decide) (by decide) (by decide) (by decide) (by decide)
  have hcsb : Gb.cs = upd VT.cs 10 (.int .u8 3) := congrArg Vw.cs vb
  have hfin : Ens3 w G (V.cs 36) (.returned .nilIface) (wa.setCell ⟨G.wb, 10, none⟩ (.int .u8 3)) := ⟨rfl, Gb, rb, by
      rw [hcsb]; exact (upd_other VT.cs 10 1 (.int .u8 3) (by decide)).trans ((tcs 1).trans s1), by
      rw [hcsb]; exact (upd_other VT.cs 10 2 (.int .u8 3) (by decide)).trans ((tcs 2).trans r2'), by
      rw [hcsb]; exact (upd_other VT.cs 10 36 (.int .u8 3) (by decide)).trans ((tcs 36).trans s36)⟩
  have FIN := Lib.hid hfin
  clear hfin rb vb rsb tb hcsb
  go_wp2_with fail
  go_ret
  exact FIN.out

end Go.Proofs.YtfipfoplmopkaaaGreatDoor

namespace Go.Proofs.YtfipfoplmopkaaaGreatDoor
open Go.RowKit

set_option maxRecDepth 100000 in
set_option maxHeartbeats 8000000 in
theorem ens3_01 (w0 : World) (G0 : Gh) (hG0 : WI w0 G0) (st : Nat) (hst : st < 2) (h100 : G0.cs 10 = .int .u8 (st : Int)) (C : Value → Prop)
    (hcall : Calls Tryz.prog 53 #[.pointer (some ⟨G0.wb, 0, none⟩), .int .u8 2] w0 (fun e w => e = .returned .nilIface ∧ ∃ G V F pre p L SL a0, Reach w0 G0 w G ∧ P3 w G V F pre p L SL a0 ∧ C (V.cs 36))) :
    Calls Tryz.prog 53 #[.pointer (some ⟨G0.wb, 0, none⟩), .int .u8 3] w0 (fun e w' => ∃ c36, C c36 ∧ Ens3 w0 G0 c36 e w') := by
  have HC := Lib.hid hcall
  have f100 := (Reach.refl hG0).fld 10 h100 (by decide) (by decide)
  clear hcall h100 hG0
  go_enter Tryz.func53, Tryz.ntmps53
  go_wp2_with fail
  refine HC.out.mono ?_
  rintro e w ⟨rfl, G, V, F, pre, p, L, SL, a0, r0, hp3, hc36⟩
  have HC36 := Lib.hid hc36
  have R0 := Lib.hid r0
  clear HC f100 hc36
  obtain ⟨hG, hV, h10, hzm, hzo, h, hb0, h39, h4, ha0, hL7, hwn⟩ := hp3
  have V0 := Lib.hid hV
  have hL : V.lf.length = L := h.hL.symm
  have f0 := R0.out.f0
  have f10 := R0.out.cv V0.out 10 h10 (by decide) (by decide)
  have fp := R0.out.posv V0.out hL
  have f6 := R0.out.cv V0.out 6 rfl (by decide) (by decide)
  have fr6 := R0.out.fr 6 (by decide)
  obtain ⟨G1, r1, v1, rs1, t1⟩ := R0.out.stvs V0.out 6 (.int .u64 L) (by decide) (by decide) (by decide) (by decide) (by decide) (by decide)
  obtain ⟨w1, hw1⟩ : ∃ w1, w1 = w.setCell ⟨G0.wb, 6, none⟩ (.int .u64 L) := ⟨_, rfl⟩
  rw [← hw1] at r1 rs1
  have hPH : PH w1 (G1.fz true false) { V with zm := true, zo := false, cs := upd V.cs 6 (.int .u64 L) } F pre p L SL := h.go rs1.nx rs1.kp.size (fun k hk hT => by
    rw [hw1]; exact heap_setCell_other _ _ _ k (fun e => hT (by rw [e, ← R0.out.nx.wb]; exact hG.t1))) hb0
  have hptt := writePTT_any w1 G1 { V with cs := upd V.cs 6 (.int .u64 L) } r1.wi v1 hzm hzo F pre p L SL hPH
  rw [r1.nx.wb] at hptt
  have PTTc := Lib.hid hptt
  have H := Lib.hid h
  have R1 := Lib.hid r1
  have RS1 := Lib.hid rs1
  have HW1 := Lib.hid hw1
  have HL := Lib.hid hL
  have H39 := Lib.hid h39
  have H4 := Lib.hid h4
  have H10 := Lib.hid h10
  have HZM := Lib.hid hzm
  have HZO := Lib.hid hzo
  clear r0 hG hV h10 hzm hzo h hb0 h39 h4 r1 v1 rs1 t1 hw1 hPH hptt hL
  go_wp2_with fail
  rw [← HW1.out]
  refine PTTc.out.mono ?_
  rintro e w2 ⟨rfl, G2, PL, l1, l2, lp, go, r2, v2, hlp, hok, hPL0, hPL⟩
  have hPL0' := hlp
  have R2 := Lib.hid (R1.out.trans r2)
  have S2 := Lib.hid (RS1.out.trans r2)
  obtain ⟨N, hN⟩ : ∃ N, N = PL.length := ⟨_, rfl⟩
  obtain ⟨VP, hVP⟩ : ∃ VP, VP = ptV { V with cs := upd V.cs 6 (.int .u64 L) } PL l1 l2 lp go := ⟨_, rfl⟩
  have e2 : VP.cs 2 = .pointer (some ⟨G2.ob, 0, none⟩) := by
    rw [hVP, ptV_cs _ PL l1 l2 lp go 2 (by decide), S2.out.nx.ob]; exact H.out.h2
  have e1 : VP.cs 1 = .pointer (some ⟨G2.pb, 0, none⟩) := by
    rw [hVP, ptV_cs _ PL l1 l2 lp go 1 (by decide), S2.out.nx.pb]; exact H.out.h1
  have e3 : VP.cs 3 = .int .u64 N := by rw [hVP, hN]; exact ptV_3 _ PL l1 l2 lp go
  have e39 : VP.cs 39 = .slice none 0 0 := by
    rw [hVP, ptV_cs _ PL l1 l2 lp go 39 (by decide)]; exact (upd_other V.cs 6 39 (.int .u64 (L : Int)) (by decide)).trans H39.out
  have elf : VP.lf = V.lf := by rw [hVP]; rfl
  have elo : VP.lo = pEs PL := by rw [hVP]; rfl
  have eS : VP.S = V.S := by rw [hVP]; rfl
  have ezm : VP.zm = false := by rw [hVP]; exact HZM.out
  have ezo : VP.zo = false := by rw [hVP]; exact HZO.out
  have ewn : VP.wn = V.wn := by rw [hVP]; rfl
  have elp : VP.lp = lp := by rw [hVP]; rfl
  have e10 : VP.cs 10 = .int .u8 2 := by
    rw [hVP, ptV_cs _ PL l1 l2 lp go 10 (by decide)]; exact (upd_other V.cs 6 10 (.int .u64 (L : Int)) (by decide)).trans H10.out
  have hlo1 := pEs_len V.S PL hok
  have hlo0 : 0 < (pEs PL).length := by
    cases PL with
    | nil => simp at hPL0
    | cons a b => have := Lib.uvarint_pos 2; simp [pEs, pE, postE]; omega
  rw [← hVP] at v2
  have hli := writeLIs_any w2 G2 VP r2.wi v2 PL elo e2 N hN e3 e39 (fun e he => ⟨(hok e he).1, (hok e he).2.1, (hok e he).2.2.1⟩) (fun e he => by rw [eS]; exact (hok e he).2.2.2) (by omega) (by rw [elf, HL.out]; omega) (by rw [elo]; omega) (by rw [elo]; exact hlo0) ezm ezo (by rw [ewn, elf, HL.out]; exact hwn)
  rw [R2.out.nx.wb] at hli
  have LIc := Lib.hid hli
  clear hli
  go_wp2_with fail
  refine LIc.out.mono ?_
  rintro e w3 ⟨rfl, G3, l3, g3, v39, es, K, r3, v3, hK, hLI, hes⟩
  have R3 := Lib.hid (R2.out.trans r3)
  obtain ⟨VL, hVL⟩ : ∃ VL, VL = { VP with l1 := l3, gf := g3, lf := VP.lf ++ K, cs := upd VP.cs 39 v39 } := ⟨_, rfl⟩
  rw [← hVL] at v3
  have a1 : VL.cs 1 = .pointer (some ⟨G3.pb, 0, none⟩) := by rw [hVL, r3.nx.pb]; exact (upd_other VP.cs 39 1 v39 (by decide)).trans e1
  have a2 : VL.cs 2 = .pointer (some ⟨G3.ob, 0, none⟩) := by rw [hVL, r3.nx.ob]; exact (upd_other VP.cs 39 2 v39 (by decide)).trans e2
  have a3 : VL.cs 3 = .int .u64 N := by rw [hVL]; exact (upd_other VP.cs 39 3 v39 (by decide)).trans e3
  have a10 : VL.cs 10 = .int .u8 2 := by rw [hVL]; exact (upd_other VP.cs 39 10 v39 (by decide)).trans e10
  have a39 : VL.cs 39 = v39 := by rw [hVL]; exact upd_same VP.cs 39 v39
  have alf : VL.lf = V.lf ++ K := by rw [hVL, ← elf]
  have alo : VL.lo = pEs PL := by rw [hVL]; exact elo
  have azm : VL.zm = false := by rw [hVL]; exact ezm
  have azo : VL.zo = false := by rw [hVL]; exact ezo
  have awn : VL.wn = V.wn := by rw [hVL]; exact ewn
  have alp : VL.lp = lp := by rw [hVL]; exact elp
  obtain ⟨n3, hn3⟩ : ∃ n3, VL.lf.length = n3 := ⟨_, rfl⟩
  have hn3v : n3 = L + K.length := by rw [← hn3, alf, List.length_append, HL.out]
  have f03 := R3.out.f0
  have fp3 := R3.out.posv v3 hn3
  have f8 := R3.out.cv v3 8 rfl (by decide) (by decide)
  have fr8 := R3.out.fr 8 (by decide)
  obtain ⟨G4, r4, v4, rs4, t4⟩ := R3.out.stvs v3 8 (.int .u64 n3) (by decide) (by decide) (by decide) (by decide) (by decide) (by decide)
  obtain ⟨w4, hw4⟩ : ∃ w4, w4 = w3.setCell ⟨G0.wb, 8, none⟩ (.int .u64 n3) := ⟨_, rfl⟩
  rw [← hw4] at r4 rs4
  obtain ⟨N4, hN4⟩ : ∃ N4, N4 = n3 + padN n3 4 := ⟨_, rfl⟩
  have hps := writePostings_any w4 G4 { VL with cs := upd VL.cs 8 (.int .u64 n3) } r4.wi v4 (by rw [rs4.nx.pb]; exact (upd_other VL.cs 8 1 (.int .u64 (n3 : Int)) (by decide)).trans a1) N4 (by rw [hN4, ← hn3]) (by show VL.lf.length < _; rw [hn3]; omega) (by show VL.lp.length < _; rw [alp]; omega) azm
  rw [r4.nx.wb] at hps
  have PSc := Lib.hid hps
  have HW4 := Lib.hid hw4
  have HN3V := Lib.hid hn3v
  clear hps hw4 hn3v
  go_wp2_with fail
  rw [← HW4.out]
  refine PSc.out.mono ?_
  rintro e w5 ⟨g5, rfl, G5, r5, v5⟩
  have R5 := Lib.hid (r4.trans r5)
  have hLI5 : LI (fun i => G5.T i = 0) w5 v39 es := hLI.kept (P := fun k => G3.T k ≠ 0) (rs4.trans r5).kp (fun k _ hk hn => hn hk.2) (fun k hk h => ((rs4.trans r5).nx.T k hk).trans h.2)
  have e25 : G5.ob = G3.ob := (rs4.trans r5).nx.ob
  obtain ⟨VM, hVM⟩ : ∃ VM : Vw, VM = { VL with cs := upd (upd (upd VL.cs 8 (.int .u64 (n3 : Int))) 11 (.int .u64 (N4 : Int))) 1 (.pointer none), gf := g5, lf := VL.lf ++ (zeros (padN VL.lf.length 4) ++ VL.lp) } := ⟨_, rfl⟩
  have v5' : G5.v = VM := by rw [hVM]; exact v5
  have bcs : ∀ i, i ≠ 1 → i ≠ 11 → i ≠ 8 → VM.cs i = VL.cs i := by
    intro i h1 h11 h8; rw [hVM]
    exact (upd_other (upd (upd VL.cs 8 (.int .u64 (n3 : Int))) 11 (.int .u64 (N4 : Int))) 1 i (.pointer none) h1).trans ((upd_other (upd VL.cs 8 (.int .u64 (n3 : Int))) 11 i (.int .u64 (N4 : Int)) h11).trans (upd_other VL.cs 8 i (.int .u64 (n3 : Int)) h8))
  have b1 : VM.cs 1 = .pointer none := by rw [hVM]; exact upd_same (upd (upd VL.cs 8 (.int .u64 (n3 : Int))) 11 (.int .u64 (N4 : Int))) 1 (.pointer none)
  have b11 : VM.cs 11 = .int .u64 N4 := by rw [hVM]; exact (upd_other (upd (upd VL.cs 8 (.int .u64 (n3 : Int))) 11 (.int .u64 (N4 : Int))) 1 11 (.pointer none) (by decide)).trans (upd_same (upd VL.cs 8 (.int .u64 (n3 : Int))) 11 (.int .u64 (N4 : Int)))
  have b8 : VM.cs 8 = .int .u64 n3 := by rw [hVM]; exact (upd_other (upd (upd VL.cs 8 (.int .u64 (n3 : Int))) 11 (.int .u64 (N4 : Int))) 1 8 (.pointer none) (by decide)).trans ((upd_other (upd VL.cs 8 (.int .u64 (n3 : Int))) 11 8 (.int .u64 (N4 : Int)) (by decide)).trans (upd_same VL.cs 8 (.int .u64 (n3 : Int))))
  have b2 : VM.cs 2 = .pointer (some ⟨G5.ob, 0, none⟩) := by rw [e25]; exact (bcs 2 (by decide) (by decide) (by decide)).trans a2
  have b3 := (bcs 3 (by decide) (by decide) (by decide)).trans a3
  have b10 := (bcs 10 (by decide) (by decide) (by decide)).trans a10
  have b39 := (bcs 39 (by decide) (by decide) (by decide)).trans a39
  have blf : VM.lf = VL.lf ++ (zeros (padN VL.lf.length 4) ++ VL.lp) := by rw [hVM]
  have blo : VM.lo = pEs PL := by rw [hVM]; exact alo
  have bzm : VM.zm = false := by rw [hVM]; exact azm
  have bzo : VM.zo = false := by rw [hVM]; exact azo
  have bwn : VM.wn = V.wn := by rw [hVM]; exact awn
  obtain ⟨n5, hn5⟩ : ∃ n5, VM.lf.length = n5 := ⟨_, rfl⟩
  have hpad := padN_lt VL.lf.length 4 (by decide)
  have hn5v : n5 < L + K.length + 4 + lp.length := by
    rw [← hn5, blf, List.length_append, List.length_append, zeros_length, alp, hn3, HN3V.out]; rw [hn3, HN3V.out] at hpad; omega
  have hn5L : L ≤ n5 := by
    rw [← hn5, blf, List.length_append, hn3, HN3V.out]; omega
  have f05 := R5.out.f0
  have fp5 := R5.out.posv v5' hn5
  have f75 := R5.out.cv v5' 7 rfl (by decide) (by decide)
  have fr75 := R5.out.fr 7 (by decide)
  obtain ⟨G6, r6, v6, rs6, t6⟩ := R5.out.stvs v5' 7 (.int .u64 n5) (by decide) (by decide) (by decide) (by decide) (by decide) (by decide)
  obtain ⟨w6, hw6⟩ : ∃ w6, w6 = w5.setCell ⟨G0.wb, 7, none⟩ (.int .u64 n5) := ⟨_, rfl⟩
  rw [← hw6] at r6 rs6
  obtain ⟨ne, hne⟩ : ∃ ne, ne = es.length := ⟨_, rfl⟩
  have hlp9 : lp.length ≤ 900 * 40001 := Nat.le_trans hPL0' (Nat.mul_le_mul_left 900 (by omega))
  obtain ⟨VN, hVN⟩ : ∃ VN : Vw, VN = { VM with cs := upd VM.cs 7 (.int .u64 (n5 : Int)) } := ⟨_, rfl⟩
  have v6' : G6.v = VN := by rw [hVN]; exact v6
  have ccs : ∀ i, i ≠ 7 → VN.cs i = VM.cs i := by intro i h; rw [hVN]; exact upd_other VM.cs 7 i (.int .u64 (n5 : Int)) h
  have c7 : VN.cs 7 = .int .u64 n5 := by rw [hVN]; exact upd_same VM.cs 7 (.int .u64 (n5 : Int))
  have clf : VN.lf = VM.lf := by rw [hVN]
  have clo : VN.lo = pEs PL := by rw [hVN]; exact blo
  have czm : VN.zm = false := by rw [hVN]; exact bzm
  have czo : VN.zo = false := by rw [hVN]; exact bzo
  have cwn : VN.wn = V.wn := by rw [hVN]; exact bwn
  have hLI6 : LI (fun i => G6.T i = 0) w6 (VN.cs 39) es := by
    rw [ccs 39 (by decide), b39]
    exact hLI5.kept (P := fun k => G5.T k ≠ 0) rs6.kp (fun k _ hk hn => hn hk) (fun k hk h => (rs6.nx.T k hk).trans h)
  have hlot := writeLOT_any w6 G6 VN r6.wi v6' es hLI6 ne hne (by omega) (by rw [clf, hn5]; omega) (by rw [cwn, clf, hn5]; exact Nat.le_trans hwn hn5L) czm
  rw [r6.nx.wb] at hlot
  have e56 : G6.ob = G5.ob := rs6.nx.ob
  have LOTc := Lib.hid hlot
  have HW6 := Lib.hid hw6
  have HNE := Lib.hid hne
  have HN5 := Lib.hid hn5v
  have HN5L := Lib.hid hn5L
  clear hlot hw6 hne hn5v hn5L hpad hLI hLI5 hLI6
  go_wp2_with fail
  rw [← HW6.out]
  refine LOTc.out.mono ?_
  rintro e w7 ⟨l7, g7, k7, hk7, rfl, G7, r7, v7⟩
  have R7 := Lib.hid (r6.trans r7)
  obtain ⟨VO, hVO⟩ : ∃ VO : Vw, VO = { VN with l1 := l7, gf := g7, lf := VN.lf ++ k7 } := ⟨_, rfl⟩
  rw [← hVO] at v7
  have dcs : ∀ i, VO.cs i = VN.cs i := by intro i; rw [hVO]
  have dlf : VO.lf = VN.lf ++ k7 := by rw [hVO]
  have dlo : VO.lo = pEs PL := by rw [hVO]; exact clo
  have dzm : VO.zm = false := by rw [hVO]; exact czm
  have dzo : VO.zo = false := by rw [hVO]; exact czo
  have dwn : VO.wn = V.wn := by rw [hVO]; exact cwn
  obtain ⟨n7, hn7⟩ : ∃ n7, VO.lf.length = n7 := ⟨_, rfl⟩
  have hn7v : n7 = n5 + k7.length := by rw [← hn7, dlf, List.length_append, clf, hn5]
  have f07 := R7.out.f0
  have fp7 := R7.out.posv v7 hn7
  have f97 := R7.out.cv v7 9 rfl (by decide) (by decide)
  have fr97 := R7.out.fr 9 (by decide)
  obtain ⟨G8, r8, v8, rs8, t8⟩ := R7.out.stvs v7 9 (.int .u64 n7) (by decide) (by decide) (by decide) (by decide) (by decide) (by decide)
  obtain ⟨w8, hw8⟩ : ∃ w8, w8 = w7.setCell ⟨G0.wb, 9, none⟩ (.int .u64 n7) := ⟨_, rfl⟩
  rw [← hw8] at r8 rs8
  obtain ⟨VQ, hVQ⟩ : ∃ VQ : Vw, VQ = { VO with cs := upd VO.cs 9 (.int .u64 (n7 : Int)) } := ⟨_, rfl⟩
  have v8' : G8.v = VQ := by rw [hVQ]; exact v8
  have ecs : ∀ i, i ≠ 9 → VQ.cs i = VO.cs i := by intro i h; rw [hVQ]; exact upd_other VO.cs 9 i (.int .u64 (n7 : Int)) h
  have e9 : VQ.cs 9 = .int .u64 n7 := by rw [hVQ]; exact upd_same VO.cs 9 (.int .u64 (n7 : Int))
  have qcs : ∀ i, i ≠ 9 → i ≠ 7 → VQ.cs i = VM.cs i := fun i h9 h7 => (ecs i h9).trans ((dcs i).trans (ccs i h7))
  have elf8 : VQ.lf = VO.lf := by rw [hVQ]
  have elo8 : VQ.lo = pEs PL := by rw [hVQ]; exact dlo
  have ezm8 : VQ.zm = false := by rw [hVQ]; exact dzm
  have ezo8 : VQ.zo = false := by rw [hVQ]; exact dzo
  have ewn8 : VQ.wn = V.wn := by rw [hVQ]; exact dwn
  have hN4v : N4 < 90000000 := by
    have := padN_lt n3 4 (by decide); have := HN3V.out; omega
  have e28 : VQ.cs 2 = .pointer (some ⟨G8.ob, 0, none⟩) := by
    rw [rs8.nx.ob, r7.nx.ob, e56]; exact (qcs 2 (by decide) (by decide)).trans b2
  have hpot := writePOT_any w8 G8 VQ r8.wi v8' PL elo8 e28 N hN ((qcs 3 (by decide) (by decide)).trans b3) N4 ((qcs 11 (by decide) (by decide)).trans b11) (by omega) (fun e he => ⟨(hok e he).1, (hok e he).2.1, (hok e he).2.2.1⟩) (by omega) (by rw [elf8, hn7]; have := HNE.out; have := HN5.out; omega) (by rw [elo8]; omega) (by rw [elo8]; exact hlo0) ezm8 ezo8 (by rw [ewn8, elf8, hn7]; have := HN5L.out; omega)
  rw [r8.nx.wb] at hpot
  have POTc := Lib.hid hpot
  have HW8 := Lib.hid hw8
  have HN7 := Lib.hid hn7v
  clear hpot hw8 hn7v
  go_wp2_with fail
  rw [← HW8.out]
  refine POTc.out.mono ?_
  rintro e w9 ⟨rfl, G9, l9, g9, k9, hk9, r9, v9⟩
  have R9 := Lib.hid (r8.trans r9)
  obtain ⟨VR, hVR⟩ : ∃ VR : Vw, VR = { VQ with l1 := l9, gf := g9, lf := VQ.lf ++ k9, cs := upd VQ.cs 2 (.pointer none) } := ⟨_, rfl⟩
  rw [← hVR] at v9
  have rcs : ∀ i, i ≠ 2 → VR.cs i = VQ.cs i := by intro i h; rw [hVR]; exact upd_other VQ.cs 2 i (.pointer none) h
  have r2' : VR.cs 2 = .pointer none := by rw [hVR]; exact upd_same VQ.cs 2 (.pointer none)
  have rzm : VR.zm = false := by rw [hVR]; exact ezm8
  have scs : ∀ i, i ≠ 2 → i ≠ 9 → i ≠ 7 → i ≠ 1 → i ≠ 11 → i ≠ 8 → i ≠ 39 → i ≠ 3 → i ≠ 6 → VR.cs i = V.cs i := by
    intro i h2 h9 h7 h1 h11 h8 h39 h3 h6
    refine (rcs i h2).trans ((qcs i h9 h7).trans ((bcs i h1 h11 h8).trans ?_))
    rw [hVL]; refine (upd_other VP.cs 39 i v39 h39).trans ?_
    rw [hVP, ptV_cs _ PL l1 l2 lp go i h3]; exact upd_other V.cs 6 i (.int .u64 (L : Int)) h6
  have s4 : VR.cs 4 = .int .u64 a0 := (scs 4 (by decide) (by decide) (by decide) (by decide) (by decide) (by decide) (by decide) (by decide) (by decide)).trans H4.out
  have s5 : VR.cs 5 = .int .u64 p := (scs 5 (by decide) (by decide) (by decide) (by decide) (by decide) (by decide) (by decide) (by decide) (by decide)).trans ((upd_other V.cs 6 5 (.int .u64 (L : Int)) (by decide)).symm.trans H.out.h5)
  have s6 : VR.cs 6 = .int .u64 L := by
    refine (rcs 6 (by decide)).trans ((qcs 6 (by decide) (by decide)).trans ((bcs 6 (by decide) (by decide) (by decide)).trans ?_))
    rw [hVL]; refine (upd_other VP.cs 39 6 v39 (by decide)).trans ?_
    rw [hVP, ptV_cs _ PL l1 l2 lp go 6 (by decide)]; exact upd_same V.cs 6 (.int .u64 (L : Int))
  have s7 : VR.cs 7 = .int .u64 n5 := (rcs 7 (by decide)).trans ((ecs 7 (by decide)).trans ((dcs 7).trans c7))
  have s8 : VR.cs 8 = .int .u64 n3 := (rcs 8 (by decide)).trans ((qcs 8 (by decide) (by decide)).trans b8)
  have s9 : VR.cs 9 = .int .u64 n7 := (rcs 9 (by decide)).trans e9
  have s1 : VR.cs 1 = .pointer none := (rcs 1 (by decide)).trans ((qcs 1 (by decide) (by decide)).trans b1)
  have s10 : VR.cs 10 = .int .u8 2 := (rcs 10 (by decide)).trans ((qcs 10 (by decide) (by decide)).trans b10)
  have s36 : VR.cs 36 = V.cs 36 := scs 36 (by decide) (by decide) (by decide) (by decide) (by decide) (by decide) (by decide) (by decide) (by decide)
  have hpL : p ≤ L := by
    have h1 := H.out.hL; have h2 := H.out.lf; have h3 := H.out.hp
    rw [h1, h2, List.length_append, h3]; omega
  have rlf : VR.lf.length = n7 + k9.length := by rw [hVR]; simp only [List.length_append]; rw [elf8, hn7]
  have hn79 : n7 + k9.length < 90000000 := by have := HN7.out; have := HNE.out; have := HN5.out; omega
  have htoc := writeTOC_any w9 G9 VR R9.out.wi v9 (by rw [rlf]; exact hn79) a0 p L n5 n3 n7 s4 s5 s6 s7 s8 s9 (by omega) (by omega) (by omega) (by have := HN7.out; omega) (by have := HN7.out; have := HN5L.out; have := HN3V.out; have := HN5.out; omega) (by omega) rzm
  rw [R9.out.nx.wb] at htoc
  have TOCc := Lib.hid htoc
  clear htoc
  go_wp2_with fail
  refine TOCc.out.mono ?_
  rintro e wa ⟨la, ga, ka, rfl, Ga, ra, va⟩
  have RA := Lib.hid (R9.out.trans ra)
  obtain ⟨VT, hVT⟩ : ∃ VT : Vw, VT = { VR with l1 := la, lf := VR.lf ++ ka, gf := ga } := ⟨_, rfl⟩
  rw [← hVT] at va
  have tcs : ∀ i, VT.cs i = VR.cs i := by intro i; rw [hVT]
  have f10a := RA.out.cv va 10 ((tcs 10).trans s10) (by decide) (by decide)
  have fr10a := RA.out.fr 10 (by decide)
  obtain ⟨Gb, rb, vb, rsb, tb⟩ := RA.out.stvs va 10 (.int .u8 3) (by decide) (by decide) (by decide) (by decide) (by decide) (by decide)
  have hcsb : Gb.cs = upd VT.cs 10 (.int .u8 3) := congrArg Vw.cs vb
  have hfin : Ens3 w0 G0 (V.cs 36) (.returned .nilIface) (wa.setCell ⟨G0.wb, 10, none⟩ (.int .u8 3)) := ⟨rfl, Gb, rb, by
      rw [hcsb]; exact (upd_other VT.cs 10 1 (.int .u8 3) (by decide)).trans ((tcs 1).trans s1), by
      rw [hcsb]; exact (upd_other VT.cs 10 2 (.int .u8 3) (by decide)).trans ((tcs 2).trans r2'), by
      rw [hcsb]; exact (upd_other VT.cs 10 36 (.int .u8 3) (by decide)).trans ((tcs 36).trans s36)⟩
  have FIN := Lib.hid hfin
  clear hfin rb vb rsb tb hcsb
  go_wp2_with fail
  go_ret
  exact ⟨_, HC36.out, FIN.out⟩

end Go.Proofs.YtfipfoplmopkaaaGreatDoor
