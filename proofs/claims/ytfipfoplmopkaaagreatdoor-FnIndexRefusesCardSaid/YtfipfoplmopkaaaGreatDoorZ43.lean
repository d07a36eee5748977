/- Writer.writePostingsOffsetTable, walked. Conditions: what is read is there; bounds on lengths. -/
import Derived.Test.YtfipfoplmopkaaaGreatDoorZ38

namespace Go.Proofs.YtfipfoplmopkaaaGreatDoor
open Go.RowKit Go.Maps

/-- What writePostingsOffsetTable leaves. -/
def WPOT (w : World) (G : Gh) (V : Vw) (N : Nat) (e : Ending) (w' : World) : Prop :=
  e = .returned .nilIface ∧ ∃ G' l1 g k, k.length ≤ 12 + 560 * N ∧ Reach w G w' G' ∧ G'.v = { V with l1 := l1, gf := g, lf := V.lf ++ k, cs := upd V.cs 2 (.pointer none) }

set_option maxRecDepth 100000 in
set_option maxHeartbeats 8000000 in
theorem writePOT_in (w : World) (G : Gh) (V : Vw) (hG : WI w G) (hV : G.v = V) (PL : List (ByteArray × ByteArray × Nat)) (hlo : V.lo = pEs PL) (h2 : V.cs 2 = .pointer (some ⟨G.ob, 0, none⟩)) (N : Nat) (hN : N = PL.length) (h3 : V.cs 3 = .int .u64 N) (ad : Nat) (h11 : V.cs 11 = .int .u64 ad) (had : ad < 100000000)
    (hsz : ∀ e ∈ PL, e.1.size < 256 ∧ e.2.1.size < 256 ∧ e.2.2 < 268435456) (hN9 : N < 100000) (hl : V.lf.length + 560 * N < 89000000) (hlo9 : V.lo.length < 90000000) (hN0 : 0 < V.lo.length) (hzm : V.zm = false) (hzo : V.zo = true) (hwn : V.wn ≤ V.lf.length) :
    Calls Tryz.prog 99 #[.pointer (some ⟨G.wb, 0, none⟩)] w (WPOT w G V N) := by
  have R0 := Lib.hid (Reach.refl hG)
  have V0 := Lib.hid hV
  have HLO := Lib.hid hlo
  have HN := Lib.hid hN
  have HZ := Lib.hid hsz
  have H3 := Lib.hid h3
  have H2 := Lib.hid h2
  have H11 := Lib.hid h11
  have HW := Lib.hid hwn
  obtain ⟨n, hn⟩ : ∃ n, n = V.lo.length := ⟨_, rfl⟩
  obtain ⟨p, hp⟩ : ∃ p, p = V.lf.length := ⟨_, rfl⟩
  rw [← hn] at hlo9 hN0
  rw [← hp] at hl
  have f2 := R0.out.cv V0.out 2 h2 (by decide) (by decide)
  have f0 := R0.out.f0
  have fp := R0.out.posv V0.out (n := p) hp.symm
  have HNN := Lib.hid hn
  have HP := Lib.hid hp
  have HZM := Lib.hid hzm
  have HZO := Lib.hid hzo
  clear hG hV hlo hN hsz h3 hn hzm hzo h2 h11 hwn hp
  have hcv := fun (w : World) (C : Array Value) (n c : Nat) => Lib.run_convert_bytes_const (P := Tryz.prog) w 27 5 C n c Tryz.underlying27 Tryz.underlying5
  have mr1 := method_reset
  have mr2 := ahead_reset
  have hmf : ∀ (fn : Fn) (first cap : Array Value) (w : World), (Instr.makeFunc fn first cap).run Tryz.prog w = .ok (.func fn first cap) w := fun _ _ _ _ => rfl
  go_enter_defers Tryz.func99, Tryz.ntmps99
  go_wp2_with fail
  refine (flush_any _ _).mono ?_
  rintro e w' ⟨rfl, rfl⟩
  go_wp2_with fail
  have hwl := R0.out.writeLit V0.out alenL (4, 5) (by simp [alenL]; have := HP.out; omega) HZM.out
  rw [show (bVs alenL).toArray = #[.int .u8 97, .int .u8 108, .int .u8 101, .int .u8 110] from rfl, show alenL.length = 4 from rfl] at hwl
  refine hwl.mono ?_
  clear hwl
  rintro e w1 ⟨g1, rfl, G1, r1, v1⟩
  have R1 := Lib.hid r1
  have V1 := Lib.hid v1
  clear r1 v1 f0 fp f2
  have f11 := R1.out.cv V1.out 11 H11.out (by decide) (by decide)
  go_wp2_with fail
  clear f11
  refine (R1.out.reset1 V1.out).mono ?_
  rintro e w2 ⟨rfl, G2, r2, v2⟩
  have R2 := Lib.hid r2
  have V2 := Lib.hid v2
  clear r2 v2
  have f44 := R2.out.c44
  go_wp2_with fail
  refine (R2.out.dreset V2.out).mono ?_
  rintro e w3 ⟨rfl, G3, r3, v3⟩
  have R3 := Lib.hid r3
  have V3 := Lib.hid v3
  clear r3 v3 f44
  have f3 := R3.out.cv V3.out 3 H3.out (by decide) (by decide)
  have hzN : IntKind.i64.wrap (N : Int) = N := IntWalk.i64_in _ (by omega)
  go_wp2_with fail
  go_still_tail 8, (by kernel_rfl)
  go_wp2_with fail
  refine (R3.out.drew.be32i_1 V3.out N (by simp) (by omega)).mono ?_
  rintro e w4 ⟨rfl, G4, r4, v4⟩
  have R4 := Lib.hid r4
  have V4 := Lib.hid v4
  clear r4 v4 f3 hzN
  have f44 := R4.out.c44
  go_wp2_with fail
  go_still_tail 7, (by kernel_rfl)
  go_wp2_with fail
  refine (R4.out.drew.wth1 V4.out (by simp [be32])).mono ?_
  rintro e w5 ⟨rfl, G5, r5, v5⟩
  have R5 := Lib.hid r5
  have V5 := Lib.hid v5
  clear r5 v5 f44
  obtain ⟨ao1, m1, c1, HV1, _⟩ := R5.out.v1
  go_wp2_with (go_at_call 49; refine (get_any G.wb 12 _ w5 HV1).mono ?_; rintro e w' ⟨rfl, rfl⟩)
  refine (R5.out.write1 V5.out HV1 (by simp [be32, alenL]; have := HP.out; omega) HZM.out).mono ?_
  rintro e w6 ⟨g6, rfl, G6, r6, v6⟩
  have R6 := Lib.hid r6
  have v6' : G6.v = { V with l1 := be32 N, gf := g6, lf := V.lf ++ (alenL ++ (be32 N ++ [])) } := by rw [v6]; simp
  have V6 := Lib.hid v6'
  clear r6 v6 v6' HV1
  have f2 := R6.out.cv V6.out 2 H2.out (by decide) (by decide)
  obtain ⟨b, cap, hv, hcap, hgo, hcb, hT⟩ := R6.out.fileo V6.out (n := n) HNN.out hN0
  have hblt : b < w6.heap.size := World.block_lt_of_cell? _ _ (hcb 0 _ (List.getElem?_eq_getElem (by show 0 < V.lo.length; rw [← HNN.out]; exact hN0)))
  have fpo := R6.out.posov V6.out (n := n) HNN.out.symm
  have HCB : Hid (∀ (j : Nat) u, V.lo[j]? = some u → w6.cell? ⟨b, 0 + j, none⟩ = some (bV u)) := Lib.hid hcb
  have HTB := Lib.hid hT
  have HGO : Hid (V.go = some b) := Lib.hid hgo
  clear hcb hgo hT
  go_wp2_with fail
  refine (zzOpen_any G.ob b n cap w6 hv).mono ?_
  rintro e w7 ⟨rfl, hw7⟩
  obtain ⟨G7, r7, v7, t7, _⟩ := R6.out.newv V6.out (.cells #[.slice (some ⟨b, 0, none⟩) n cap] 251)
  rw [← hw7] at r7
  obtain ⟨sf, hsf⟩ : ∃ sf, sf = w6.heap.size := ⟨_, rfl⟩
  rw [← hsf] at t7 ⊢
  have c7 : w7.cell? ⟨sf, 0, none⟩ = some (.slice (some ⟨b, 0, none⟩) n cap) := by rw [hw7, hsf, World.cell?_alloc_new]; rfl
  have k7 : Kept (fun _ _ => False) w6 w7 := by rw [hw7]; exact Kept.alloc _ _ _
  have R7 := Lib.hid r7
  have V7 := Lib.hid v7
  have K7 := Lib.hid k7
  clear hw7 r7 v7 k7 hsf t7
  go_upto_region 20 with fail
  obtain ⟨G8, r8, v8, t8, o8⟩ := R7.out.newv V7.out (.cells #[.pointer (some ⟨sf, 0, none⟩)] 113)
  obtain ⟨fx, hfx0⟩ : ∃ fx, fx = w7.heap.size := ⟨_, rfl⟩
  obtain ⟨w8, hw8⟩ : ∃ w8, w8 = w7.alloc (.cells #[.pointer (some ⟨sf, 0, none⟩)] 113) := ⟨_, rfl⟩
  rw [← hfx0] at t8 ⊢
  rw [← hw8] at r8 ⊢
  have cfx : w8.cell? ⟨fx, 0, none⟩ = some (.pointer (some ⟨sf, 0, none⟩)) := by rw [hw8, hfx0, World.cell?_alloc_new]; rfl
  have cff : w8.frozen? ⟨fx, 0, none⟩ = false := by rw [hw8, hfx0]; simp
  have k8 : Kept (fun _ _ => False) w7 w8 := by rw [hw8]; exact Kept.alloc _ _ _
  have K8 := Lib.hid (K7.out.trans k8 (fun _ _ _ => id))
  have c8 := (k8.cell _ _ (World.block_lt_of_cell? _ _ c7) id).trans c7
  have f28 := (K8.out.cell _ _ (World.block_lt_of_cell? _ _ f2) id).trans f2
  have fpo8 := (K8.out.cell _ _ (World.block_lt_of_cell? _ _ fpo) id).trans fpo
  have R8 := Lib.hid r8
  have V8 := Lib.hid v8
  have hwfx : w.heap.size ≤ fx := by rw [hfx0]; exact R7.out.kp.size
  have HT8 : Hid (G8.T fx = 0) := Lib.hid t8
  clear r8 v8 t8 o8 hw8 hfx0 k8 c7 f2 fpo hv hmf mr1 mr2 hcv
  have hfx : fx < w8.heap.size := World.block_lt_of_cell? _ _ cfx
  have hsflt : sf < w8.heap.size := World.block_lt_of_cell? _ _ c8
  have hwb : G.wb < w8.heap.size := World.block_lt_of_cell? _ _ f28
  have hob : G.ob < w8.heap.size := World.block_lt_of_cell? _ _ fpo8
  have hsz1 := K8.out.size
  have C1 := Lib.hid (rd_kept K8.out (fun _ _ => id) HCB.out)
  have hzw : IntKind.i64.wrap (n : Int) = n := IntWalk.i64_in _ (by omega)
  go_cut [10] from 91 to 102 (fun x wx => ∃ db, x = .pointer (some ⟨db, 0, none⟩) ∧ w8.heap.size ≤ db ∧ DB wx db b V.lo ∧ Kept (fun _ _ => False) w8 wx)
  case first =>
    have c1d : w8.drew.cell? ⟨sf, 0, none⟩ = some (.slice (some ⟨b, 0, none⟩) n cap) := c8
    have c1a : (w8.alloc (.cells #[.slice none 0 0, .nilIface] 154)).drew.cell? ⟨sf, 0, none⟩ = some (.slice (some ⟨b, 0, none⟩) n cap) := (World.cell?_alloc_lt _ _ _ hsflt).trans c8
    go_region_held3 (fun w' => w'.cell? ⟨fx, 0, none⟩ = some (.pointer (some ⟨sf, 0, none⟩)) ∧ w'.cell? ⟨G.wb, 2, none⟩ = some (.pointer (some ⟨G.ob, 0, none⟩)) ∧ w'.cell? ⟨G.ob, 1, none⟩ = some (.int .u64 n)) (first | exact ⟨cfx, f28, fpo8⟩ | exact ⟨yf, y2, yo⟩ | exact ⟨(ss2 hfx).trans yf, (ss2 hwb).trans y2, (ss2 hob).trans yo⟩ | go_keep) (first | (go_at_call 129; (with_reducible refine (zzBytes_any sf b n cap w8.drew c1d).mono ?_); rintro e w' ⟨rfl, rfl⟩) | (go_at_call 129; (with_reducible refine (zzBytes_any sf b n cap (w8.alloc (.cells #[.slice none 0 0, .nilIface] 154)).drew c1a).mono ?_); rintro e w' ⟨rfl, rfl⟩) | (go_at_call 133; (with_reducible refine (newRaw_any b 0 n cap n w8.drew (Nat.le_refl _) hcap).mono ?_); rintro e w5 ⟨⟨c5, rfl, hc5⟩, k5⟩; have kk := (Kept.drew (fun _ _ => False) w8).trans k5 (fun _ _ _ => id); have yf := (kk.cell fx 0 hfx id).trans cfx; have y2 := (kk.cell G.wb 2 hwb id).trans f28; have yo := (kk.cell G.ob 1 hob id).trans fpo8; have hfin := DB.made w5 b 0 n c5 V.lo HNN.out hc5 (rd_kept kk (fun _ _ => id) C1.out) (Nat.lt_of_lt_of_le (Nat.lt_of_lt_of_le hblt hsz1) kk.size); have hsz5 := kk.size; have HF := Lib.hid (And.intro hfin.1 (kk.trans hfin.2 (fun _ _ _ => id))); clear k5 kk hfin) | (go_at_call 133; (with_reducible refine (newRaw_any b 0 n cap n (w8.alloc (.cells #[.slice none 0 0, .nilIface] 154)).drew (Nat.le_refl _) hcap).mono ?_); rintro e w5 ⟨⟨c5, rfl, hc5⟩, k5⟩; have kk := ((Kept.alloc (fun _ _ => False) w8 (.cells #[.slice none 0 0, .nilIface] 154)).trans (Kept.drew (fun _ _ => False) _) (fun _ _ _ => id)).trans k5 (fun _ _ _ => id); have yf := (kk.cell fx 0 hfx id).trans cfx; have y2 := (kk.cell G.wb 2 hwb id).trans f28; have yo := (kk.cell G.ob 1 hob id).trans fpo8; have z0 : w5.cell? ⟨w8.heap.size, 0, none⟩ = some (.slice none 0 0) := (k5.cell w8.heap.size 0 (by simp) id).trans (by show World.cell? (World.alloc _ _) _ = _; rw [World.cell?_alloc_new]; rfl); have z1 : w5.cell? ⟨w8.heap.size, 1, none⟩ = some .nilIface := (k5.cell w8.heap.size 1 (by simp) id).trans (by show World.cell? (World.alloc _ _) _ = _; rw [World.cell?_alloc_new]; rfl); have z2 : w5.frozen? ⟨w8.heap.size, 0, none⟩ = false := (k5.fr w8.heap.size 0 (by simp)).trans (by simp); have z3 : w5.frozen? ⟨w8.heap.size, 1, none⟩ = false := (k5.fr w8.heap.size 1 (by simp)).trans (by simp); have hsz5 := Nat.le_refl w8.heap.size; have HF := Lib.hid (DB.made2 k5 HNN.out hc5 C1.out (Nat.lt_of_lt_of_le hblt hsz1)); clear k5 kk))
    all_goals
      go_wp2_with fail
      go_meet
      exact ⟨_, rfl, hsz5, HF.out.1, HF.out.2⟩
  case rest =>
    obtain ⟨db, rfl, hdb, hd, hk⟩ := hcut
    obtain ⟨G9, r9, v9, t9, o9⟩ := R8.out.locv V8.out hk (fun _ _ _ => False.elim)
    have hwfx8 : wc.heap.size ≥ w8.heap.size := hk.size
    have hblc : b < wc.heap.size := by omega
    have hgo9 : G9.go = some b := (congrArg Vw.go v9).trans HGO.out
    have hst : S9 w G b db fx sf wc G9 { V with l1 := be32 N, gf := g6, lf := V.lf ++ (alenL ++ (be32 N ++ [])) } (pEs (PL.drop 0)) :=
      ⟨r9, v9, by rw [List.drop_zero, ← HLO.out]; exact hd, t9 db hdb, r9.wi.t13 b hgo9, (hk.cell _ _ hfx id).trans cfx, (hk.fr _ _ hfx).trans cff, (o9 fx hfx).trans HT8.out, by omega, by have := R8.out.kp.size; omega, hwfx, hblc, HZO.out⟩
    have HST := Lib.hid hst
    have f3 := r9.cv v9 3 H3.out (by decide) (by decide)
    clear r9 v9 t9 o9 hd hk hst f28 fpo8 c8 hzw C1 cfx cff
    go_wp2_with fail
    clear f3
    go_loopw [11] (fun c11 wr => ∃ j m : Nat, m + j = N ∧ c11 = .int .u64 m ∧ Hid (∃ Gr l g k, k.length ≤ 560 * j ∧ S9 w G b db fx sf wr Gr { V with l1 := l, gf := g, lf := V.lf ++ (alenL ++ (be32 N ++ k)) } (pEs (PL.drop j)))) (fun c11 _ => (intOf c11).toNat)
    case atStart => exact ⟨0, N, by omega, rfl, Lib.hid ⟨_, _, _, [], Nat.le_refl _, HST.out⟩⟩
    case round =>
      obtain ⟨j, m, hjm, rfl, HR⟩ := hrel
      obtain ⟨Gr, lr, gr, kr, hkr, q⟩ := HR.out
      have Q := Lib.hid q
      have HKR := Lib.hid hkr
      clear q hkr HR HST
      by_cases hlt : j < N
      · have hjl : j < PL.length := by rw [← HN.out]; exact hlt
        obtain ⟨nm, va, off, he⟩ : ∃ nm va off, PL[j] = (nm, va, off) := ⟨_, _, _, rfl⟩
        have hmem : (nm, va, off) ∈ PL := by rw [← he]; exact List.getElem_mem _
        obtain ⟨hnm, hva, hoff⟩ : nm.size < 256 ∧ va.size < 256 ∧ off < 268435456 := HZ.out _ hmem
        obtain ⟨rest, hrest⟩ : ∃ rest, rest = pEs (PL.drop (j + 1)) := ⟨_, rfl⟩
        have q0 : S9 w G b db fx sf wr Gr { V with l1 := lr, gf := gr, lf := V.lf ++ (alenL ++ (be32 N ++ kr)) } (Lib.uvarint 2 ++ (Lib.uvarint (sB nm).length ++ (sB nm ++ (Lib.uvarint (sB va).length ++ (sB va ++ (Lib.uvarint off ++ rest)))))) := by
          have := Q.out
          rw [pEs_drop hjl, he] at this
          simpa [pE, postE, symE, hrest] using this
        have Q0 := Lib.hid q0
        have HREST := Lib.hid hrest
        clear q0 hrest he hmem Q
        have hm1 : (0 : Int) < m := by omega
        go_wp2_with fail
        refine (dbErr_any db b _ wr Q0.out.d).mono ?_
        rintro e w' ⟨rfl, rfl⟩
        go_wp2_with fail
        refine (Q0.out.R.reset1s Q0.out.v).mono ?_
        rintro e w1 ⟨rfl, G1, r1, v1, s1⟩
        have Q1 := Lib.hid (Q0.out.st r1 v1 s1 HZO.out)
        clear r1 v1 s1
        go_upto_region 24 with fail
        have u2 := Lib.hid (uv_len 2 (by decide))
        have y1 := Q1.out.fc
        go_region_held3 (fun w' => w'.cell? ⟨fx, 0, none⟩ = some (.pointer (some ⟨sf, 0, none⟩))) (first | exact y1 | exact y2 | exact y3 | go_keep) (first | (go_at_call 137; refine (dbU_any db b 2 _ w1.drew Q1.out.drew.d (by decide) (List.prefix_append _ _)).mono ?_; rintro e w2 ⟨rfl, d2, k2⟩; rw [List.drop_left] at d2; obtain ⟨G2, q2⟩ := Q1.out.drew.db k2 d2; have y2 := q2.fc; have Q2 := Lib.hid q2; clear d2 k2 q2) | (go_at_call 42; refine (Q2.out.R.uv1s Q2.out.v 2 (by simp) (by decide)).mono ?_; rintro e w3 ⟨rfl, G3, r3, v3, s3⟩; have q3 := Q2.out.st r3 v3 s3 HZO.out; have y3 := q3.fc; have Q3 := Lib.hid q3; clear r3 v3 s3 q3))
        go_upto_region 25 with fail
        clear y1 y2 y3
        have y1 := Q3.out.fc
        have u3 := Lib.hid (uv_len nm.size (by omega))
        have u4 := Lib.hid (uv_len va.size (by omega))
        go_region_held3 (fun w' => w'.cell? ⟨fx, 0, none⟩ = some (.pointer (some ⟨sf, 0, none⟩))) (first | exact y1 | exact y2 | exact y3 | go_keep) (first | (go_at_call 141; refine (dbUB_any db b (sB nm) _ w3.drew Q3.out.drew.d (by simp; omega)).mono ?_; rintro e w4 ⟨o4, c4, rfl, _, hc4, d4, k4⟩; obtain ⟨G4, q4⟩ := Q3.out.drew.db k4 d4; have y2 := q4.fc; have Q4 := Lib.hid q4; have hcv4 := conv_str w4 b o4 c4 nm hc4; clear d4 k4 q4 hc4) | (go_at_call 148; refine (yolo_any _ nm w4 (by simpa using hcv4)).mono ?_; rintro e w' ⟨rfl, rfl⟩) | (go_at_call 46; refine (Q4.out.R.str1s Q4.out.v nm (by have := u2.out; simp; omega) (by omega)).mono ?_; rintro e w5 ⟨rfl, G5, r5, v5, s5⟩; have q5 := Q4.out.st r5 v5 s5 HZO.out; have y3 := q5.fc; have Q5 := Lib.hid q5; clear r5 v5 s5 q5))
        clear hcv4
        go_upto_region 26 with fail
        clear y1 y2 y3
        have y1 := Q5.out.fc
        go_region_held3 (fun w' => w'.cell? ⟨fx, 0, none⟩ = some (.pointer (some ⟨sf, 0, none⟩))) (first | exact y1 | exact y2 | exact y3 | go_keep) (first | (go_at_call 141; refine (dbUB_any db b (sB va) _ w5.drew Q5.out.drew.d (by simp; omega)).mono ?_; rintro e w6 ⟨o6, c6, rfl, _, hc6, d6, k6⟩; obtain ⟨G6, q6⟩ := Q5.out.drew.db k6 d6; have y2 := q6.fc; have Q6 := Lib.hid q6; have hcv6 := conv_str w6 b o6 c6 va hc6; clear d6 k6 q6 hc6) | (go_at_call 148; refine (yolo_any _ va w6 (by simpa using hcv6)).mono ?_; rintro e w' ⟨rfl, rfl⟩) | (go_at_call 46; refine (Q6.out.R.str1s Q6.out.v va (by have := u2.out; have := u3.out; simp [symE]; omega) (by omega)).mono ?_; rintro e w7 ⟨rfl, G7, r7, v7, s7⟩; have q7 := Q6.out.st r7 v7 s7 HZO.out; have y3 := q7.fc; have Q7 := Lib.hid q7; clear r7 v7 s7 q7))
        clear hcv6
        go_upto_region 27 with fail
        clear y1 y2 y3
        have y1 := Q7.out.fc
        have hsum : IntKind.u64.wrap ((off : Int) + ad) = ((off + ad : Nat) : Int) := by rw [IntWalk.u64_in _ (by omega)]; simp
        go_region_held3 (fun w' => w'.cell? ⟨fx, 0, none⟩ = some (.pointer (some ⟨sf, 0, none⟩))) (first | exact y1 | exact y2 | exact y3 | go_keep) (first | (go_at_call 142; refine (dbU64_any db b off _ w7.drew Q7.out.drew.d hoff (List.prefix_append _ _)).mono ?_; rintro e w8 ⟨rfl, d8, k8⟩; rw [List.drop_left] at d8; obtain ⟨G8, q8⟩ := Q7.out.drew.db k8 d8; have y2 := q8.fc; have Q8 := Lib.hid q8; clear d8 k8 q8) | (go_at_call 44; refine (Q8.out.R.u64_1s Q8.out.v (off + ad) (by have := u2.out; have := u3.out; have := u4.out; simp [symE]; omega) (by omega)).mono ?_; rintro e w9 ⟨rfl, G9, r9, v9, s9⟩; have q9 := Q8.out.st r9 v9 s9 HZO.out; have y3 := q9.fc; have Q9 := Lib.hid q9; clear r9 v9 s9 q9))
        go_upto_region 28 with fail
        clear y1 y2 y3
        obtain ⟨e9, he9⟩ : ∃ e9, e9 = Lib.uvarint 2 ++ (symE nm ++ (symE va ++ Lib.uvarint (off + ad))) := ⟨_, rfl⟩
        have u5 := Lib.hid (uv_len (off + ad) (by omega))
        have hl9 : e9.length ≤ 560 := by rw [he9]; have := u2.out; have := u3.out; have := u4.out; have := u5.out; simp [symE]; omega
        have q9 : S9 w G b db fx sf w9 G9 { V with l1 := e9, gf := gr, lf := V.lf ++ (alenL ++ (be32 N ++ kr)) } rest := by
          have := Q9.out
          rw [he9]
          simpa using this
        have Q10 := Lib.hid q9
        have HL9 := Lib.hid hl9
        have f44 := q9.R.c44
        clear q9 he9 hl9 Q0 Q1 Q2 Q3 Q4 Q5 Q6 Q7 Q8 Q9 hsum
        go_wp2_with fail
        go_still_tail 7, (by kernel_rfl)
        go_wp2_with fail
        refine (Q10.out.R.drew.wth1s Q10.out.v (by have := HL9.out; simp; omega)).mono ?_
        rintro e wx ⟨rfl, Gx, rx, vx, sx⟩
        have QX := Lib.hid (Q10.out.drew.st rx vx sx HZO.out)
        clear rx vx sx f44
        obtain ⟨ao1, m1, c1, HV1, _⟩ := QX.out.R.v1
        go_wp2_with (go_at_call 49; refine (get_any G.wb 12 _ wx HV1).mono ?_; rintro e w' ⟨rfl, rfl⟩)
        refine (QX.out.R.write1s QX.out.v HV1 (by have := HL9.out; have := HKR.out; simp [be32, alenL]; have := HP.out; omega) HZM.out).mono ?_
        rintro e wy ⟨gy, rfl, Gy, ry, vy, sy⟩
        have qy : S9 w G b db fx sf wy Gy { V with l1 := e9, gf := gy, lf := V.lf ++ (alenL ++ (be32 N ++ (kr ++ e9))) } (pEs (PL.drop (j + 1))) := by
          rw [← HREST.out]
          exact QX.out.st ry (by rw [vy]; simp) sy HZO.out
        have QY := Lib.hid qy
        clear ry vy sy HV1 qy
        go_wp2
        go_roundw
        case rel => exact ⟨j + 1, m - 1, by omega, congrArg (Value.int .u64) (by omega), Lib.hid ⟨Gy, e9, gy, kr ++ e9, by have := HL9.out; have := HKR.out; simp; omega, QY.out⟩⟩
        case measure => simp [intOf]; omega
      · obtain rfl : j = N := by omega
        obtain rfl : m = 0 := by omega
        go_wp2_with fail
        refine (dbErr_any db b _ wr Q.out.d).mono ?_
        rintro e w' ⟨rfl, rfl⟩
        go_wp2_with fail
        refine (dbErr_any db b _ wr Q.out.d).mono ?_
        rintro e w' ⟨rfl, rfl⟩
        have cfx := Q.out.fc
        have cff := Q.out.ff
        go_wp2_with fail
        refine (zzClose_any _ _).mono ?_
        rintro e w' ⟨rfl, rfl⟩
        have hfl := World.block_lt_of_cell? _ _ cfx
        have kx : Kept (fun k _ => k = fx) wr (wr.setCell ⟨fx, 0, none⟩ (.pointer none)) := Kept.setCell _ _ _ _ rfl
        obtain ⟨Gx, rx, vx, tx, ox⟩ := Q.out.R.locv Q.out.v kx (fun k o _ e => by subst e; exact ⟨Q.out.wf, Q.out.tf⟩)
        have cx : (wr.setCell ⟨fx, 0, none⟩ (.pointer none)).cell? ⟨fx, 0, none⟩ = some (.pointer none) := World.cell?_setCell_same _ _ _ cfx
        have RX := Lib.hid rx
        have VX := Lib.hid vx
        have TX := Lib.hid ((ox fx hfl).trans Q.out.tf)
        have CX := Lib.hid cx
        have HFL : Hid (fx < (wr.setCell ⟨fx, 0, none⟩ (.pointer none)).heap.size) := Lib.hid (by simpa using hfl)
        clear rx vx tx ox cx kx
        have f2 := RX.out.cv VX.out 2 H2.out (by decide) (by decide)
        have g2 := RX.out.fr 2 (by decide)
        go_wp2_with fail
        refine (fwClose_any _ _).mono ?_
        rintro e w' ⟨rfl, rfl⟩
        go_wp2_with fail
        refine (fwRemove_any _ _).mono ?_
        rintro e w' ⟨rfl, rfl⟩
        obtain ⟨Gy, ry, vy, sy, ty⟩ := RX.out.stvs VX.out 2 (.pointer none) (by decide) (by decide) (by decide) (by decide) (by decide) (by decide)
        obtain ⟨wy, hwy⟩ : ∃ wy, wy = (wr.setCell ⟨fx, 0, none⟩ (.pointer none)).setCell ⟨G.wb, 2, none⟩ (.pointer none) := ⟨_, rfl⟩
        rw [← hwy] at ry sy
        have cy : wy.cell? ⟨fx, 0, none⟩ = some (.pointer none) := (KT.cell sy.kp HFL.out TX.out 0).trans CX.out
        have tfy : Gy.T fx = 0 := by rw [ty]; exact TX.out
        have RY := Lib.hid ry
        have VY := Lib.hid vy
        have CY := Lib.hid cy
        have TFY := Lib.hid tfy
        have HWY := Lib.hid hwy
        clear ry vy sy ty cy tfy hwy
        obtain ⟨m, hm2⟩ : ∃ m, m = 4 + kr.length := ⟨_, rfl⟩
        have hmb : m < 80000000 := by have := HKR.out; omega
        have HM := Lib.hid hm2
        clear hm2
        have HLH := Lib.hid (writeLH_any wy Gy _ RY.out.wi VY.out p m (by simp [alenL, be32]; have := HP.out; have := HM.out; omega) (by have := HKR.out; have := HM.out; omega) (by have := HW.out; have := HP.out; simp; omega) HZM.out)
        rw [RY.out.nx.wb] at HLH
        go_wp2_with fail
        rw [← HWY.out]
        clear f2 g2 cfx cff
        refine HLH.out.mono ?_
        rintro e w7 ⟨l7, g7, k7, hk7, rfl, Gz, rz, vz⟩
        have RZ := Lib.hid (RY.out.trans rz)
        have VZ := Lib.hid vz
        have cz : w7.cell? ⟨fx, 0, none⟩ = some (.pointer none) := (KT.cell rz.kp (World.block_lt_of_cell? _ _ CY.out) TFY.out 0).trans CY.out
        have CZ := Lib.hid cz
        clear rz vz HLH cz
        go_wp2
        refine leaves_cons (f := 147) (args := #[.pointer (some ⟨fx, 0, none⟩)]) (by simp) (by simp [go_sem]) ?_
        refine (pot1_d fx .returning _ CZ.out).mono ?_
        rintro e u' w'' ⟨rfl, rfl, rfl⟩
        refine ⟨_, results_tmp rfl _ _ _, rfl, Gz, l7, g7, be32 m ++ ((be32 j ++ kr) ++ k7), ?_, RZ.out, ?_⟩
        · simp [be32, hk7]; have := HKR.out; omega
        · rw [VZ.out]
          rw [spl_mid V.lf alenL (be32 j ++ kr) (be32 m) p HP.out.symm rfl]
          simp

/-- writePostingsOffsetTable. -/
theorem writePOT_any (w : World) (G : Gh) (V : Vw) (hG : WI w G) (hV : G.v = V) (PL : List (ByteArray × ByteArray × Nat)) (hlo : V.lo = pEs PL) (h2 : V.cs 2 = .pointer (some ⟨G.ob, 0, none⟩)) (N : Nat) (hN : N = PL.length) (h3 : V.cs 3 = .int .u64 N) (ad : Nat) (h11 : V.cs 11 = .int .u64 ad) (had : ad < 100000000)
    (hsz : ∀ e ∈ PL, e.1.size < 256 ∧ e.2.1.size < 256 ∧ e.2.2 < 268435456) (hN9 : N < 100000) (hl : V.lf.length + 560 * N < 89000000) (hlo9 : V.lo.length < 90000000) (hN0 : 0 < V.lo.length) (hzm : V.zm = false) (hzo : V.zo = false) (hwn : V.wn ≤ V.lf.length) :
    Calls Tryz.prog 99 #[.pointer (some ⟨G.wb, 0, none⟩)] w (WPOT w G V N) := by
  refine (writePOT_in w (G.fz false true) { V with zm := false, zo := true } (hG.fz _ _) (Gh.fz_v hV _ _) PL hlo h2 N hN h3 ad h11 had hsz hN9 hl hlo9 hN0 rfl rfl hwn).mono ?_
  rintro e w' ⟨he, G', l1, g, k, hk, r, v⟩
  have hm : G.zm = false := (congrArg Vw.zm hV).trans hzm
  have ho : G.zo = false := (congrArg Vw.zo hV).trans hzo
  refine ⟨he, G'.fz false false, l1, g, k, hk, r.unfz hm ho, ?_⟩
  rw [Gh.fz_v v]
  simp only [← hzm]
  rw [hzm, ← hzo]

end Go.Proofs.YtfipfoplmopkaaaGreatDoor
