/- writeLabelIndices, walked. Conditions: what is read is there; bounds on lengths. -/
import Derived.Test.YtfipfoplmopkaaaGreatDoorZ27

namespace Go.Proofs.YtfipfoplmopkaaaGreatDoor
open Go.RowKit Go.Maps

/-- What writeLabelIndices leaves. -/
def WLIs (w : World) (G : Gh) (V : Vw) (N : Nat) (e : Ending) (w' : World) : Prop :=
  e = .returned .nilIface ∧ ∃ G' l1 g v39 es K, Reach w G w' G' ∧ G'.v = { V with l1 := l1, gf := g, lf := V.lf ++ K, cs := upd V.cs 39 v39 } ∧ K.length ≤ 23 * N + 19 ∧ LI (fun i => w.heap.size ≤ i ∧ G'.T i = 0) w' v39 es ∧ es.length ≤ N + 1

set_option maxRecDepth 100000 in
set_option maxHeartbeats 8000000 in
theorem writeLIs_in (w : World) (G : Gh) (V : Vw) (hG : WI w G) (hV : G.v = V) (PL : List (ByteArray × ByteArray × Nat)) (hlo : V.lo = pEs PL) (h2 : V.cs 2 = .pointer (some ⟨G.ob, 0, none⟩)) (N : Nat) (hN : N = PL.length) (h3 : V.cs 3 = .int .u64 N) (h39 : V.cs 39 = .slice none 0 0)
    (hsz : ∀ e ∈ PL, e.1.size < 256 ∧ e.2.1.size < 256 ∧ e.2.2 < 268435456) (hS : ∀ e ∈ PL, e.1.size ≠ 0 → Maps.has V.S (.string e.2.1.data.toList) = true) (hN9 : N < 100000) (hl : V.lf.length < 70000000) (hlo9 : V.lo.length < 90000000) (hN0 : 0 < V.lo.length) (hzm : V.zm = false) (hzo : V.zo = true) (hwn : V.wn ≤ V.lf.length) :
    Calls Tryz.prog 96 #[.pointer (some ⟨G.wb, 0, none⟩)] w (WLIs w G V N) := by
  have R0 := Lib.hid (Reach.refl hG)
  have V0 := Lib.hid hV
  have HLO := Lib.hid hlo
  have HN := Lib.hid hN
  have HZ := Lib.hid hsz
  have HS := Lib.hid hS
  have H39 := Lib.hid h39
  have H3 := Lib.hid h3
  obtain ⟨n, hn⟩ : ∃ n, n = V.lo.length := ⟨_, rfl⟩
  rw [← hn] at hlo9 hN0
  have f2 := R0.out.cv V0.out 2 h2 (by decide) (by decide)
  obtain ⟨b, cap, hv, hcap, hgo, hcb, hT⟩ := R0.out.fileo V0.out hn hN0
  have fpo := R0.out.posov V0.out (n := n) hn.symm
  have HNN := Lib.hid hn
  have HCB := Lib.hid hcb
  have HGO := Lib.hid hgo
  have HTb := Lib.hid hT
  have HZM := Lib.hid hzm
  have HZO := Lib.hid hzo
  clear hG hV hlo hN hsz hS h39 h3 hn hcb hgo hT hzm hzo h2
  go_enter_defers Tryz.func96, Tryz.ntmps96
  go_wp2_with fail
  refine (flush_any _ _).mono ?_
  rintro e w' ⟨rfl, rfl⟩
  go_wp2_with fail
  refine (zzOpen_any G.ob b n cap w hv).mono ?_
  rintro e w1 ⟨rfl, hw1⟩
  obtain ⟨G1, r1, v1, t1, _⟩ := R0.out.newv V0.out (.cells #[.slice (some ⟨b, 0, none⟩) n cap] 251)
  rw [← hw1] at r1
  obtain ⟨sf, hsf⟩ : ∃ sf, sf = w.heap.size := ⟨_, rfl⟩
  rw [← hsf] at t1 ⊢
  have c1 : w1.cell? ⟨sf, 0, none⟩ = some (.slice (some ⟨b, 0, none⟩) n cap) := by rw [hw1, hsf, World.cell?_alloc_new]; rfl
  have k1 : Kept (fun _ _ => False) w w1 := by rw [hw1]; exact Kept.alloc _ _ _
  have f2' := (k1.cell _ _ (World.block_lt_of_cell? _ _ f2) id).trans f2
  have fpo' := (k1.cell _ _ (World.block_lt_of_cell? _ _ fpo) id).trans fpo
  have R1 := Lib.hid r1
  have V1 := Lib.hid v1
  have K1 := Lib.hid k1
  clear hw1 r1 v1 k1 f2 fpo hv hsf t1
  go_upto_region 8 with fail
  have hsflt : sf < w1.heap.size := World.block_lt_of_cell? _ _ c1
  have hwb : G.wb < w1.heap.size := World.block_lt_of_cell? _ _ f2'
  have hob : G.ob < w1.heap.size := World.block_lt_of_cell? _ _ fpo'
  have hblt : b < w.heap.size := World.block_lt_of_cell? _ _ (HCB.out 0 _ (List.getElem?_eq_getElem (by rw [← HNN.out]; exact hN0)))
  have hsz1 := K1.out.size
  have C1 := Lib.hid (rd_kept K1.out (fun _ _ => id) HCB.out)
  have hzw : IntKind.i64.wrap (n : Int) = n := IntWalk.i64_in _ (by omega)
  go_cut [6] from 36 to 47 (fun x wx => ∃ db, x = .pointer (some ⟨db, 0, none⟩) ∧ w1.heap.size ≤ db ∧ DB wx db b V.lo ∧ Kept (fun _ _ => False) w1 wx)
  case first =>
    have c1d : w1.drew.cell? ⟨sf, 0, none⟩ = some (.slice (some ⟨b, 0, none⟩) n cap) := c1
    have c1a : (w1.alloc (.cells #[.slice none 0 0, .nilIface] 154)).drew.cell? ⟨sf, 0, none⟩ = some (.slice (some ⟨b, 0, none⟩) n cap) := (World.cell?_alloc_lt _ _ _ hsflt).trans c1
    go_region_held3 (fun w' => w'.cell? ⟨G.wb, 2, none⟩ = some (.pointer (some ⟨G.ob, 0, none⟩)) ∧ w'.cell? ⟨G.ob, 1, none⟩ = some (.int .u64 n)) (first | exact ⟨f2', fpo'⟩ | exact ⟨y2, yo⟩ | exact ⟨(ss2 hwb).trans y2, (ss2 hob).trans yo⟩ | go_keep) (first | (go_at_call 129; (with_reducible refine (zzBytes_any sf b n cap w1.drew c1d).mono ?_); rintro e w' ⟨rfl, rfl⟩) | (go_at_call 129; (with_reducible refine (zzBytes_any sf b n cap (w1.alloc (.cells #[.slice none 0 0, .nilIface] 154)).drew c1a).mono ?_); rintro e w' ⟨rfl, rfl⟩) | (go_at_call 133; (with_reducible refine (newRaw_any b 0 n cap n w1.drew (Nat.le_refl _) hcap).mono ?_); rintro e w5 ⟨⟨c5, rfl, hc5⟩, k5⟩; have kk := (Kept.drew (fun _ _ => False) w1).trans k5 (fun _ _ _ => id); have y2 := (kk.cell G.wb 2 hwb id).trans f2'; have yo := (kk.cell G.ob 1 hob id).trans fpo'; have hfin := DB.made w5 b 0 n c5 V.lo HNN.out hc5 (rd_kept kk (fun _ _ => id) C1.out) (Nat.lt_of_lt_of_le (Nat.lt_of_lt_of_le hblt hsz1) kk.size); have hsz5 := kk.size; have HF := Lib.hid (And.intro hfin.1 (kk.trans hfin.2 (fun _ _ _ => id))); clear k5 kk hfin) | (go_at_call 133; (with_reducible refine (newRaw_any b 0 n cap n (w1.alloc (.cells #[.slice none 0 0, .nilIface] 154)).drew (Nat.le_refl _) hcap).mono ?_); rintro e w5 ⟨⟨c5, rfl, hc5⟩, k5⟩; have kk := ((Kept.alloc (fun _ _ => False) w1 (.cells #[.slice none 0 0, .nilIface] 154)).trans (Kept.drew (fun _ _ => False) _) (fun _ _ _ => id)).trans k5 (fun _ _ _ => id); have y2 := (kk.cell G.wb 2 hwb id).trans f2'; have yo := (kk.cell G.ob 1 hob id).trans fpo'; have z0 : w5.cell? ⟨w1.heap.size, 0, none⟩ = some (.slice none 0 0) := (k5.cell w1.heap.size 0 (by simp) id).trans (by show World.cell? (World.alloc _ _) _ = _; rw [World.cell?_alloc_new]; rfl); have z1 : w5.cell? ⟨w1.heap.size, 1, none⟩ = some .nilIface := (k5.cell w1.heap.size 1 (by simp) id).trans (by show World.cell? (World.alloc _ _) _ = _; rw [World.cell?_alloc_new]; rfl); have z2 : w5.frozen? ⟨w1.heap.size, 0, none⟩ = false := (k5.fr w1.heap.size 0 (by simp)).trans (by simp); have z3 : w5.frozen? ⟨w1.heap.size, 1, none⟩ = false := (k5.fr w1.heap.size 1 (by simp)).trans (by simp); have hsz5 := Nat.le_refl w1.heap.size; have HF := Lib.hid (DB.made2 k5 HNN.out hc5 C1.out (Nat.lt_of_lt_of_le hblt hsz1)); clear k5 kk))
    all_goals
      go_wp2_with fail
      go_meet
      exact ⟨_, rfl, hsz5, HF.out.1, HF.out.2⟩
  case rest =>
    obtain ⟨db, rfl, hdb, hd, hk⟩ := hcut
    obtain ⟨G2, r2, v2, t2, _⟩ := R1.out.locv V1.out hk (fun _ _ _ => False.elim)
    have htdb := t2 db hdb
    have R2 := Lib.hid r2
    have V2 := Lib.hid v2
    have HD := Lib.hid hd
    have K2 := Lib.hid (K1.out.trans hk (fun _ _ _ => id))
    have f3 := R2.out.cv V2.out 3 H3.out (by decide) (by decide)
    clear r2 v2 t2 hd hk f2' fpo' c1 hzw C1
    have hblc : b < wc.heap.size := Nat.lt_of_lt_of_le hblt K2.out.size
    have hdbc : db < wc.heap.size := HD.out.lt
    go_wp2_with fail
    have hst : LR w G V b db ((wc.alloc (.cells #[] 5)).alloc (.cells #[] 94)) (pEs (PL.drop 0)) 0 0 (.slice (some ⟨wc.heap.size, 0, none⟩) 0 0) (.slice (some ⟨wc.heap.size + 1, 0, none⟩) 0 0) ByteArray.empty [] := by
      have k3 : Kept (fun _ _ => False) wc ((wc.alloc (.cells #[] 5)).alloc (.cells #[] 94)) := (Kept.alloc _ _ _).trans (Kept.alloc _ _ _) (fun _ _ _ => id)
      obtain ⟨G3, r3, v3, t3, o3⟩ := R2.out.locv V2.out k3 (fun _ _ _ => False.elim)
      have hws : w.heap.size ≤ wc.heap.size := K2.out.size
      refine ⟨G3, V.l1, V.gf, .slice none 0 0, [], [], fun k => if k = wc.heap.size + 1 then 2 else 0, wc.heap.size, 0, 0, ⟨r3, ?_, by simp, LI.nil _ _, Nat.le_refl _, ?_, (o3 db hdbc).trans htdb, if_neg (by omega), ?_, fun k e => ?_, fun x hx => (by cases hx), rfl, fun i u hi => absurd hi (sB_out rfl i u), .inl rfl, by decide, by omega, ?_, Nat.lt_of_lt_of_le hblc k3.size⟩⟩
      · rw [v3]
        have : upd V.cs 39 (.slice none 0 0) = V.cs := by
          funext j; simp only [upd]; split
          · rename_i h; rw [h]; exact H39.out.symm
          · rfl
        rw [this]; simp
      · rw [List.drop_zero, ← HLO.out]; exact HD.out.kept k3 (fun _ => id) (fun _ _ => id)
      · exact ⟨rfl, .inr ⟨wc.heap.size + 1, 0, #[], rfl, Nat.zero_le _, by have := (MapKept.heap_alloc (wc.alloc (.cells #[] 5)) (.cells #[] 94)).1; rwa [show (wc.alloc (.cells #[] 5)).heap.size = wc.heap.size + 1 by simp] at this, Nat.le_refl _, by unfold maxLen; omega, rfl, rfl⟩⟩
      · obtain rfl : wc.heap.size + 1 = k := Option.some.inj e
        exact ⟨⟨by omega, t3 _ (by omega)⟩, if_pos rfl⟩
      · rw [o3 b hblc]
        have hg : G2.go = some b := (congrArg Vw.go V2.out).trans HGO.out
        exact R2.out.wi.t13 b hg
    have HST := Lib.hid hst
    clear hst
    go_loopw [7, 8, 9] (fun c7 c8 c9 wr => ∃ (j m : Nat) (s : ByteArray) (xs : List Nat), m + j = N ∧ c7 = .int .u64 m ∧ Hid (LR w G V b db wr (pEs (PL.drop j)) (23 * j) j c8 c9 s xs)) (fun c7 _ _ _ => (intOf c7).toNat)
    case atStart => exact ⟨0, N, ByteArray.empty, [], by omega, rfl, HST.out⟩
    case round =>
      obtain ⟨j, m, s, xs, hjm, rfl, HR⟩ := hrel
      obtain ⟨Gr, l1, g, v39, es, K, O, cb, co, cc, q⟩ := HR.out
      have hcur := q.cur
      subst hcur
      obtain ⟨ao, c9, hvals⟩ := own_slice q.row
      obtain ⟨nx, hnx⟩ : ∃ nx, nx = xs.length := ⟨_, rfl⟩
      rw [← hnx] at hvals
      subst hvals
      have Q := Lib.hid q
      have HNX := Lib.hid hnx
      clear q hnx
      obtain ⟨i94, hi94, hz94, hs94, hb94⟩ := info_parts info94
      by_cases hlt : j < N
      · have hjl : j < PL.length := by rw [← HN.out]; exact hlt
        obtain ⟨nm, va, off, he⟩ : ∃ nm va off, PL[j] = (nm, va, off) := ⟨_, _, _, rfl⟩
        have hmem : (nm, va, off) ∈ PL := by rw [← he]; exact List.getElem_mem _
        obtain ⟨hnm, hva, hoff⟩ : nm.size < 256 ∧ va.size < 256 ∧ off < 268435456 := HZ.out _ hmem
        obtain ⟨rest, hrest⟩ : ∃ rest, rest = pEs (PL.drop (j + 1)) := ⟨_, rfl⟩
        have hd0 : DB wr db b (Lib.uvarint 2 ++ (symE nm ++ (symE va ++ (Lib.uvarint off ++ rest)))) := by
          have := Q.out.d
          rw [pEs_drop hjl, he] at this
          simpa [pE, postE, hrest] using this
        have D0 := Lib.hid hd0
        have HREST := Lib.hid hrest
        have HSV : Hid (nm.size ≠ 0 → Maps.has V.S (.string va.data.toList) = true) := Lib.hid (HS.out _ hmem)
        have HE := Lib.hid he
        clear hd0 hrest he hmem
        have hm1 : (0 : Int) < m := by omega
        go_wp2_with fail
        refine (dbErr_any db b _ wr D0.out).mono ?_
        rintro e w' ⟨rfl, rfl⟩
        go_wp2_with fail
        refine (dbU_any db b 2 _ wr D0.out (by decide) (List.prefix_append _ _)).mono ?_
        rintro e w2 ⟨rfl, d2, k2⟩
        rw [List.drop_left] at d2
        have D2 : Hid (DB w2 db b (Lib.uvarint (sB nm).length ++ (sB nm ++ (symE va ++ (Lib.uvarint off ++ rest))))) := Lib.hid (by simpa [symE] using d2)
        have KK2 := Lib.hid k2
        clear d2 k2
        go_wp2_with fail
        refine (dbUB_any db b (sB nm) _ w2 D2.out (by simp; omega)).mono ?_
        rintro e w3 ⟨o3, c3, rfl, _, hc3, d3, k3⟩
        have D3 : Hid (DB w3 db b (Lib.uvarint (sB va).length ++ (sB va ++ (Lib.uvarint off ++ rest)))) := Lib.hid (by simpa [symE] using d3)
        have KK3 := Lib.hid (KK2.out.trans k3 (fun _ _ _ => id))
        have HC3 := Lib.hid hc3
        clear d3 k3 hc3
        go_wp2_with fail
        refine (dbUB_any db b (sB va) _ w3 D3.out (by simp; omega)).mono ?_
        rintro e w4 ⟨o4, c4, rfl, _, hc4, d4, k4⟩
        have D4 := Lib.hid d4
        have KK4 := Lib.hid (KK3.out.trans k4 (fun _ _ _ => id))
        have hbd : ∀ o : Nat, ¬ dbP db b o := fun _ (e : b = db) => Q.out.d.ne e
        have HC4 := Lib.hid hc4
        have HC3' := Lib.hid (rd_kept k4 (fun _ => hbd) HC3.out)
        clear d4 k4 hc4 HC3
        go_wp2_with fail
        refine (dbU64_any db b off _ w4 D4.out hoff (List.prefix_append _ _)).mono ?_
        rintro e w5 ⟨rfl, d5, k5⟩
        rw [List.drop_left] at d5
        have KK5 := Lib.hid (KK4.out.trans k5 (fun _ _ _ => id))
        have HC4' := Lib.hid (rd_kept k5 (fun _ => hbd) HC4.out)
        have HC3'' := Lib.hid (rd_kept k5 (fun _ => hbd) HC3'.out)
        rw [HREST.out] at d5
        have L5 := Lib.hid (LR.db (l' := pEs (PL.drop (j + 1))) HR.out KK5.out d5)
        clear d5 k5 HC4 HC3' KK2 KK3 KK4 D0 D2 D3 D4 hbd
        by_cases hn0 : nm.size = 0
        · have i1 : ((nm.size : Int) == 0) = true := by rw [hn0]; rfl
          go_wp2
          go_roundw
          case rel => exact ⟨j + 1, m - 1, s, xs, by omega, congrArg (Value.int .u64) (by omega), Lib.hid (L5.out.mono (by omega) (by omega))⟩
          case measure => simp [intOf]; omega
        · have i1 : ((nm.size : Int) == 0) = false := by rw [beq_eq_false_iff_ne]; omega
          go_upto_region 19 with fail
          have hcu : ∀ i u, (sB s)[i]? = some u → w5.cell? ⟨cb, co + i, none⟩ = some (bV u) := by
            obtain ⟨Gr, l1, g, v39, es, K, O, cb', co', cc', q⟩ := L5.out
            have := q.cur
            cases this
            exact q.cells
          have hcvn := conv_str w5 b o3 c3 nm HC3''.out
          have hcvs := conv_str w5 cb co cc s hcu
          obtain ⟨bq, hbq⟩ : ∃ bq, bq = (nm.toList == s.toList) := ⟨_, rfl⟩
          have BE := bytesEq_any _ _ _ _ _ hcvn hcvs
          rw [← hbq] at BE
          have HBE := Lib.hid BE
          clear BE hbq
          have hnc : nx ≤ c9 := by
            rcases Q.out.row.2 with ⟨he, h0⟩ | ⟨_, _, _, he, _, _, hle, _⟩
            · cases he; omega
            · cases he; rw [HNX.out]; exact hle
          have hcases : (bq = false ∧ 0 < nx) ∨ bq = true ∨ (bq = false ∧ nx = 0) := by
            cases bq with
            | true => exact .inr (.inl rfl)
            | false =>
              rcases Nat.eq_zero_or_pos nx with h | h
              · exact .inr (.inr ⟨rfl, h⟩)
              · exact .inl ⟨rfl, h⟩
          rcases hcases with ⟨rfl, hnx0⟩ | rfl | ⟨rfl, hnx0⟩
          case' inl =>
            have i2 : (0 : Int) < nx := by omega
            have i3 : (0 : Int) ≤ c9 := by omega
            go_wp2_with fail
            refine HBE.out.mono ?_
            rintro e w' ⟨rfl, rfl⟩
            obtain ⟨Gr5, l15, g5, v395, es5, K5, O5, cb5, co5, cc5, q5⟩ := L5.out
            have hvl : (V.lf ++ K5).length < 80000000 := by have := q5.bud; simp; omega
            have hnx9 : nx < 1000000 := by have := q5.bud; have := HNX.out; omega
            have W := writeLabelIndex_any w w5 G Gr5 _ q5.R q5.v (LRA w Gr5 O5) es5 (by show LI _ w5 (upd V.cs 39 v395 39) es5; rw [upd_same]; exact q5.li) (fun i _ h => h.1) s ao nx c9 xs HNX.out q5.u32s (fun a e h => by
              have e' : (Value.slice ao nx c9).ownBlock = some a.block := by rw [e]; rfl
              have := (q5.rb _ e').2
              rw [h.2] at this; cases this) q5.ss hvl (by have := q5.el; omega) hnx9 (by simp; omega) HZM.out
            have HW := Lib.hid W
            have Q5 := Lib.hid q5
            clear W hvl hnx9 q5
            go_wp2_with fail
            refine HW.out.mono ?_
            intro e w' hw
            obtain ⟨rfl, hlr, hcl⟩ := Q5.out.flush HNX.out HZO.out hw
            have HLR := Lib.hid (LR.name hlr nm o3 c3 hnm (fun i u hi => by rw [hcl]; exact HC3''.out i u hi))
            have HC5 := Lib.hid (fun i u (hi : (sB va)[i]? = some u) => (hcl _).trans (HC4'.out i u hi))
            obtain ⟨nq, hnq⟩ : ∃ nq, nq = 0 := ⟨_, rfl⟩
            obtain ⟨xq, hxq⟩ : ∃ xq : List Nat, xq = [] := ⟨_, rfl⟩
            have HNQ : Hid (nq = xq.length) := Lib.hid (by rw [hnq, hxq]; rfl)
            rw [← hxq, show Value.slice ao 0 c9 = Value.slice ao nq c9 by rw [hnq]] at HLR
            have HNQ0 := Lib.hid hnq
            clear hlr hw hcl hcvn hcvs hxq
            go_wp2_with fail
            rw [show Value.slice ao 0 c9 = Value.slice ao nq c9 by rw [HNQ0.out]]
            clear hnq
            generalize w' = wq at HLR HC5 ⊢
          case' inr.inl =>
            have HLR := Lib.hid ((LR.name L5.out nm o3 c3 hnm HC3''.out).mono (show 23 * j ≤ 23 * j + 19 by omega) (show j ≤ j + 1 by omega))
            go_wp2_with fail
            refine HBE.out.mono ?_
            rintro e w' ⟨rfl, rfl⟩
            go_wp2_with fail
            have HNQ := HNX
            have HC5 := HC4'
            generalize w5 = wq at HLR HC5 ⊢
            obtain ⟨nq, hnq⟩ : ∃ nq, nq = nx := ⟨_, rfl⟩
            obtain ⟨xq, hxq⟩ : ∃ xq, xq = xs := ⟨_, rfl⟩
            rw [← hnq] at HNQ
            rw [← hxq] at HNQ HLR
            rw [← hnq] at HLR ⊢
            clear hnq hxq hcvn hcvs
          case' inr.inr =>
            have HLR := Lib.hid ((LR.name L5.out nm o3 c3 hnm HC3''.out).mono (show 23 * j ≤ 23 * j + 19 by omega) (show j ≤ j + 1 by omega))
            have i2 : ¬ (0 : Int) < nx := by omega
            have HX0 := Lib.hid hnx0
            clear hnx0
            go_wp2_with fail
            refine HBE.out.mono ?_
            rintro e w' ⟨rfl, rfl⟩
            go_wp2_with fail
            have HNQ := HNX
            have HC5 := HC4'
            generalize w5 = wq at HLR HC5 ⊢
            obtain ⟨nq, hnq⟩ : ∃ nq, nq = nx := ⟨_, rfl⟩
            obtain ⟨xq, hxq⟩ : ∃ xq, xq = xs := ⟨_, rfl⟩
            rw [← hnq] at HNQ
            rw [← hxq] at HNQ HLR
            rw [← hnq] at HLR ⊢
            clear hnq hxq hcvn hcvs i2
          all_goals
            obtain ⟨Gq, l1q, gq, v39q, esq, Kq, Oq, cbq, coq, ccq, qq⟩ := HLR.out
            have hhas : Maps.has Gq.S (.string va.data.toList) = true := by rw [show Gq.S = V.S from congrArg Vw.S qq.v]; exact HSV.out hn0
            obtain ⟨sx, hlook, _, hsx⟩ := (qq.R.wi.drew).symLook va hva hhas
            rw [qq.R.nx.sm] at hlook
            have c38 := qq.R.c38
            have hcva := conv_str wq.drew b o4 c4 va HC5.out
            have QQ := Lib.hid qq
            clear qq hhas
            go_region
            clear hlook hcva c38
            have hq9 : nq < 3000000 := by have := QQ.out.bud; have := HNQ.out; omega
            have hrow : ∀ o : Obj, ((wq.alloc o).drew).ownsRow 0 94 1 (.slice ao nq c9) nq (xq.map u32V) := fun o => by
              have h := QQ.out.row
              rw [← HNQ.out] at h
              exact ownsRow_block (w := wq) (w' := (wq.alloc o).drew) h (fun k hk => heap_alloc_old _ _ (h.lt k hk).2)
            have HROW := Lib.hid hrow
            clear hrow
            go_wp2_with (at_builtin; refine wpList_app _ rfl _ _ 149 rfl 94 i94 (.int .u32 0) 1 4 und149 hi94 hz94 hs94 hb94 rfl (by decide) (.slice ao nq c9) nq (xq.map u32V) rfl (HROW.out _) (some ⟨wq.heap.size, 0, none⟩) 1 1 [.int .u32 sx] rfl rfl (fun e => by cases e) (one_new wq (.int .u32 sx) 94) (by simp [Value.oneCell']) (by unfold maxLen; omega) (by omega) ?_)
            intro v' wz ha
            obtain ⟨ao', c', rfl⟩ := own_slice ha.own
            have hlr2 := LR.push HLR.out (wa := (wq.alloc (.cells #[.int .u32 sx] 94)).drew) ((Kept.alloc _ _ _).trans (Kept.drew _ _) (fun _ _ _ => id)) HNQ.out hsx ha
            have HLR2 := Lib.hid hlr2
            clear hlr2 ha
            go_wp2
            go_roundw
            case rel => exact ⟨j + 1, m - 1, nm, xq ++ [sx], by omega, congrArg (Value.int .u64) (by omega), Lib.hid (HLR2.out.mono (by omega) (Nat.le_refl _))⟩
            case measure => simp [intOf]; omega
      · obtain rfl : j = N := by omega
        obtain rfl : m = 0 := by omega
        go_wp2_with fail
        refine (dbErr_any db b _ wr Q.out.d).mono ?_
        rintro e w' ⟨rfl, rfl⟩
        go_wp2_with fail
        refine (dbErr_any db b _ wr Q.out.d).mono ?_
        rintro e w' ⟨rfl, rfl⟩
        by_cases h0 : nx = 0
        · subst h0
          go_wp2
          refine leaves_cons (f := 68) (args := #[.pointer (some ⟨sf, 0, none⟩)]) (by simp) (by simp [go_sem]) ?_
          refine (zzClose_d _ .returning _).mono ?_
          rintro e u' w'' ⟨rfl, rfl, rfl⟩
          refine ⟨_, results_tmp rfl _ _ _, rfl, Gr, l1, g, v39, es, K, Q.out.R, Q.out.v, ?_, Q.out.li.kept (P := fun _ => False) (Kept.refl _ _) (fun _ _ _ => id) (fun _ _ h => h.1), ?_⟩
          · have := Q.out.bud; omega
          · have := Q.out.el; omega
        · have i1 : (0 : Int) < nx := by omega
          have hcv := conv_str wr cb co cc s Q.out.cells
          have hvl : (V.lf ++ K).length < 80000000 := by have := Q.out.bud; simp; omega
          have hnx9 : nx < 1000000 := by have := Q.out.bud; have := HNX.out; omega
          have W := writeLabelIndex_any w wr G Gr _ Q.out.R Q.out.v (LRA w Gr O) es (by show LI _ wr (upd V.cs 39 v39 39) es; rw [upd_same]; exact Q.out.li) (fun i _ h => h.1) s ao nx c9 xs HNX.out Q.out.u32s (fun a e h => by
            have e' : (Value.slice ao nx c9).ownBlock = some a.block := by rw [e]; rfl
            have := (Q.out.rb _ e').2
            rw [h.2] at this; cases this) Q.out.ss hvl (by have := Q.out.el; omega) hnx9 (by simp; omega) HZM.out
          have HW := Lib.hid W
          clear W hvl hnx9
          go_wp2_with fail
          refine HW.out.mono ?_
          intro e w' hw
          obtain ⟨rfl, hlr, _⟩ := Q.out.flush HNX.out HZO.out hw
          have HLR := Lib.hid hlr
          clear hlr hw hcv
          go_wp2
          refine leaves_cons (f := 68) (args := #[.pointer (some ⟨sf, 0, none⟩)]) (by simp) (by simp [go_sem]) ?_
          refine (zzClose_d _ .returning _).mono ?_
          rintro e u' w'' ⟨rfl, rfl, rfl⟩
          obtain ⟨G', l1', g', v39', es', K', O', cb', co', cc', q'⟩ := HLR.out
          refine ⟨_, results_tmp rfl _ _ _, rfl, G', l1', g', v39', es', K', q'.R, q'.v, ?_, q'.li.kept (P := fun _ => False) (Kept.refl _ _) (fun _ _ _ => id) (fun _ _ h => h.1), ?_⟩
          · have := q'.bud; omega
          · have := q'.el; omega

/-- writeLabelIndices. -/
theorem writeLIs_any (w : World) (G : Gh) (V : Vw) (hG : WI w G) (hV : G.v = V) (PL : List (ByteArray × ByteArray × Nat)) (hlo : V.lo = pEs PL) (h2 : V.cs 2 = .pointer (some ⟨G.ob, 0, none⟩)) (N : Nat) (hN : N = PL.length) (h3 : V.cs 3 = .int .u64 N) (h39 : V.cs 39 = .slice none 0 0)
    (hsz : ∀ e ∈ PL, e.1.size < 256 ∧ e.2.1.size < 256 ∧ e.2.2 < 268435456) (hS : ∀ e ∈ PL, e.1.size ≠ 0 → Maps.has V.S (.string e.2.1.data.toList) = true) (hN9 : N < 100000) (hl : V.lf.length < 70000000) (hlo9 : V.lo.length < 90000000) (hN0 : 0 < V.lo.length) (hzm : V.zm = false) (hzo : V.zo = false) (hwn : V.wn ≤ V.lf.length) :
    Calls Tryz.prog 96 #[.pointer (some ⟨G.wb, 0, none⟩)] w (WLIs w G V N) := by
  refine (writeLIs_in w (G.fz false true) { V with zm := false, zo := true } (hG.fz _ _) (Gh.fz_v hV _ _) PL hlo h2 N hN h3 h39 hsz hS hN9 hl hlo9 hN0 rfl rfl hwn).mono ?_
  rintro e w' ⟨he, G', l1, g, v39, es, K, r, v, h1, h2, h3⟩
  have hm : G.zm = false := (congrArg Vw.zm hV).trans hzm
  have ho : G.zo = false := (congrArg Vw.zo hV).trans hzo
  refine ⟨he, G'.fz false false, l1, g, v39, es, K, r.unfz hm ho, ?_, h1, h2, h3⟩
  rw [Gh.fz_v v]
  simp only [← hzm]
  rw [hzm, ← hzo]

end Go.Proofs.YtfipfoplmopkaaaGreatDoor
