/- Symbols.Lookup. Conditions: what is read is there. Writer.writePostings. Conditions: bounds on lengths. -/
import Derived.Test.YtfipfoplmopkaaaGreatDoorZ22
import Derived.Test.YtfipfoplmopkaaaGreatDoorZ23
import Derived.Lib.SlBytesRow
import Derived.Deep.CutRange
import Derived.Deep.RegionLaw

namespace Go.Proofs.YtfipfoplmopkaaaGreatDoor
open Go.RowKit Go.Maps

theorem sB_at (s : ByteArray) {i : Nat} (hi : i < s.size) : (sB s)[i]? = some s[i] := by
  have h : i < s.data.toList.length := by simpa using hi
  unfold sB
  rw [List.getElem?_eq_getElem h]
  rfl
/-- string(b). -/
theorem conv_str (w : World) (b o c : Nat) (s : ByteArray) (hc : ∀ j u, (sB s)[j]? = some u → w.cell? ⟨b, o + j, none⟩ = some (bV u)) : (convert 27 9 (.slice (some ⟨b, o, none⟩) s.size c)).run Tryz.prog w = .ok (.string s) w :=
  Lib.run_convert_whole w 27 5 9 Tryz.underlying27 Tryz.underlying5 Tryz.underlying9 b o s (fun i hi => hc i s[i] (sB_at s hi)) c

/-- Decbuf.UvarintStr. -/
theorem dbUS_any (db b : Nat) (s : ByteArray) (r : List UInt8) (w : World) (h : DB w db b (symE s ++ r)) (hx : s.size < 2097152) :
    Calls Tryz.prog 164 #[.pointer (some ⟨db, 0, none⟩)] w fun e w' => e = .returned (.string s) ∧ DB w' db b r ∧ Kept (dbP db) w w' := by
  have h' : DB w db b (Lib.uvarint (sB s).length ++ (sB s ++ r)) := by simpa [symE] using h
  have H := Lib.hid h'
  clear h h'
  go_enter Tryz.func164, Tryz.ntmps164
  go_wp2_with fail
  refine (dbUB_any db b (sB s) r w H.out (by simpa using hx)).mono ?_
  rintro e w1 ⟨o, c, rfl, _, h2, h3, h4⟩
  have hcv := conv_str w1 b o c s h2
  rw [show (sB s).length = s.size by simp]
  have H3 := Lib.hid h3
  have H4 := Lib.hid h4
  clear h2 h3 h4
  go_wp2
  go_ret
  exact ⟨rfl, H3.out, H4.out⟩

/-- realByteSlice.Range, the whole of it. -/
theorem rbRange_any (b n c : Nat) (w : World) (hnc : n ≤ c) : Calls Tryz.prog 284 #[.slice (some ⟨b, 0, none⟩) n c, .int .i64 0, .int .i64 n] w fun e w' => e = .returned (.slice (some ⟨b, 0, none⟩) n c) ∧ w = w' := by
  have i1 : (n : Int) ≤ c := by omega
  go_enter Tryz.func284, Tryz.ntmps284
  go_wp2
  go_ret
  exact ⟨rfl, rfl⟩

theorem symB_at {ss : List ByteArray} {o : Nat} (h : o < ss.length) (B : List UInt8) : symB (ss.drop o) ++ B = symE ss[o] ++ (symB (ss.drop (o + 1)) ++ B) := by
  rw [symB_drop h, List.append_assoc]

/-- A Decbuf that has just been laid. -/
theorem DB.made (w : World) (b off n c : Nat) (l : List UInt8) (hn : n = l.length) (hnc : n ≤ c) (hc : ∀ j u, l[j]? = some u → w.cell? ⟨b, off + j, none⟩ = some (bV u)) (hb : b < w.heap.size) :
    DB (w.alloc (.cells #[.slice (some ⟨b, off, none⟩) n c, .nilIface] 154)) w.heap.size b l ∧ Kept (fun _ _ => False) w (w.alloc (.cells #[.slice (some ⟨b, off, none⟩) n c, .nilIface] 154)) := by
  have k : Kept (fun _ _ => False) w (w.alloc (.cells #[.slice (some ⟨b, off, none⟩) n c, .nilIface] 154)) := Kept.alloc _ _ _
  exact ⟨⟨⟨off, c, by rw [← hn, World.cell?_alloc_new]; rfl, by omega, rd_kept k (fun _ _ => id) hc⟩, by rw [World.cell?_alloc_new]; rfl, by simp, by omega⟩, k⟩

set_option maxRecDepth 100000 in
set_option maxHeartbeats 2000000 in
/-- Symbols.Lookup. -/
theorem lookup_any (b p n c o cnt og q cq d : Nat) (ss : List ByteArray) (A B : List UInt8) (w : World) (hcnt : cnt = ss.length) (ho : o < cnt) (hA : A.length = p + 8) (hln : n = (A ++ (symB ss ++ B)).length) (hnc : n ≤ c) (hn : n < 100000000) (hsl : cnt < 100000)
    (hq : q = (cnt + 31) / 32) (hd : d = p + 8 + (symB (ss.take (32 * (o / 32)))).length) (hcell : w.cell? ⟨og, o / 32, none⟩ = some (.int .i64 d)) (hc : ∀ j u, (A ++ (symB ss ++ B))[j]? = some u → w.cell? ⟨b, 0 + j, none⟩ = some (bV u)) (hsz : ∀ s ∈ ss, s.size < 10000) (so : ByteArray) (hso : ss[o]? = some so) :
    Calls Tryz.prog 140 #[.agg #[.iface 208 (.slice (some ⟨b, 0, none⟩) n c), .int .i64 2, .int .i64 p, .slice (some ⟨og, 0, none⟩) q cq, .int .i64 cnt], .int .u32 o] w fun e w' => e = .returned (.tuple #[.string so, .nilIface]) ∧ Kept (fun _ _ => False) w w' := by
  have HC := Lib.hid hc
  have HD := Lib.hid hd
  have HLN := Lib.hid hln
  have HCNT := Lib.hid hcnt
  have HA := Lib.hid hA
  have HZ := Lib.hid hsz
  have HQ := Lib.hid hq
  have HSO := Lib.hid hso
  clear hc hd hln hcnt hA hsz hq hso
  have m1 := ahead_len
  have m2 := method_len
  have m3 := ahead_range
  have m4 := method_range
  go_enter Tryz.func140, Tryz.ntmps140
  go_wp2_with fail
  obtain ⟨sb, hsb⟩ : ∃ sb, sb = w.heap.size := ⟨_, rfl⟩
  obtain ⟨w1, hw1⟩ : ∃ w1, w1 = w.alloc (.cells #[.iface 208 (.slice (some ⟨b, 0, none⟩) n c), .int .i64 2, .int .i64 p, .slice (some ⟨og, 0, none⟩) q cq, .int .i64 cnt] 258) := ⟨_, rfl⟩
  rw [← hw1, ← hsb]
  have k1 : Kept (fun _ _ => False) w w1 := by rw [hw1]; exact Kept.alloc _ _ _
  have hlt : sb < w1.heap.size := by rw [hw1, hsb]; simp
  have s0 : w1.cell? ⟨sb, 0, none⟩ = some (.iface 208 (.slice (some ⟨b, 0, none⟩) n c)) := by rw [hw1, hsb, World.cell?_alloc_new]; rfl
  have s1 : w1.cell? ⟨sb, 1, none⟩ = some (.int .i64 2) := by rw [hw1, hsb, World.cell?_alloc_new]; rfl
  have s3 : w1.cell? ⟨sb, 3, none⟩ = some (.slice (some ⟨og, 0, none⟩) q cq) := by rw [hw1, hsb, World.cell?_alloc_new]; rfl
  have s4 : w1.cell? ⟨sb, 4, none⟩ = some (.int .i64 cnt) := by rw [hw1, hsb, World.cell?_alloc_new]; rfl
  have K1 := Lib.hid k1
  clear hw1 hsb k1
  obtain ⟨l, hl⟩ : ∃ l, l = A ++ (symB ss ++ B) := ⟨_, rfl⟩
  have C1 := Lib.hid (rd_kept K1.out (fun _ _ => id) HC.out)
  rw [← hl] at C1 HLN
  have hle : d ≤ n ∧ 0 < n := by
    have h1 := congrArg List.length (symB_split ss (32 * (o / 32)))
    have h2 := HLN.out
    rw [hl] at h2
    simp at h1 h2
    have := HA.out
    have := HD.out
    omega
  have hlb : b < w1.heap.size := World.block_lt_of_cell? _ _ (C1.out 0 _ (List.getElem?_eq_getElem (by rw [← HLN.out]; exact hle.2)))
  have HL := Lib.hid hl
  have hwlt : og < w.heap.size := World.block_lt_of_cell? _ _ hcell
  have hcell1 := (K1.out.cell _ _ hwlt id).trans hcell
  have hog : og < w1.heap.size := World.block_lt_of_cell? _ _ hcell1
  clear hl hcell
  go_cut [6] from 9 to 17 (fun x wx => ∃ db, x = .pointer (some ⟨db, 0, none⟩) ∧ w1.heap.size ≤ db ∧ DB wx db b l ∧ Kept (fun _ _ => False) w1 wx)
  case first =>
    go_region_held3 (fun w' => w'.cell? ⟨sb, 0, none⟩ = some (.iface 208 (.slice (some ⟨b, 0, none⟩) n c))) (first | exact s0 | go_keep) (first | (go_at_call 283; refine (rbLen_any _ _ _ _).mono ?_; rintro e w' ⟨rfl, rfl⟩) | (go_at_call 284; refine (rbRange_any _ _ _ _ hnc).mono ?_; rintro e w' ⟨rfl, rfl⟩))
    all_goals
      go_wp2_with fail
      go_meet
      have hm := DB.made w1 b 0 n c l HLN.out hnc C1.out hlb
      exact ⟨_, rfl, Nat.le_refl _, hm.1.kept (Kept.drew (fun _ _ => False) _) (fun _ => id) (fun _ _ => id), hm.2.trans (Kept.drew (fun _ _ => False) _) (fun _ _ _ => id)⟩
  case rest =>
    obtain ⟨db, rfl, hdb, hd, hk⟩ := hcut
    have D1 := Lib.hid hd
    have z1 := (hk.cell sb 1 hlt id).trans s1
    have z3 := (hk.cell sb 3 hlt id).trans s3
    have z4 := (hk.cell sb 4 hlt id).trans s4
    have zc := (hk.cell og _ hog id).trans hcell1
    have K2 := Lib.hid (K1.out.trans hk (fun _ _ _ => id))
    have K2b := Lib.hid hk
    clear s0 s1 s3 s4 hcell1 hd hk
    have i1 : ((o : Int) / 32).toNat = o / 32 := by omega
    have i2 : (o : Int) / 32 < q := by have := HQ.out; omega
    have i3 : ¬ (cnt : Int) ≤ o := by omega
    go_wp2_with fail
    refine (dbSkip_any db b d l _ D1.out (by rw [← HLN.out]; exact hle.1)).mono ?_
    rintro e w3 ⟨rfl, d3, k3⟩
    have hdr : l.drop d = symB (ss.drop (32 * (o / 32))) ++ B := by
      rw [HL.out, symB_split ss (32 * (o / 32)), show A ++ (symB (ss.take (32 * (o / 32))) ++ symB (ss.drop (32 * (o / 32))) ++ B) = (A ++ symB (ss.take (32 * (o / 32)))) ++ (symB (ss.drop (32 * (o / 32))) ++ B) by simp, List.drop_append_of_le_length (by simp; have := HA.out; have := HD.out; omega), List.drop_of_length_le (by simp; have := HA.out; have := HD.out; omega), List.nil_append]
    rw [hdr] at d3
    have D3 := Lib.hid d3
    have hw1w : w.heap.size ≤ w1.heap.size := K1.out.size
    have K3 := Lib.hid ((K2.out.mono (Q := fun k _ => w1.heap.size ≤ k) (fun _ _ _ => False.elim)).trans k3 (fun i o _ (e : i = db) => by show w1.heap.size ≤ i; omega))
    clear d3 k3 hdr z1 z3 z4 zc
    obtain ⟨r, hr⟩ : ∃ r, r = o % 32 := ⟨_, rfl⟩
    have hr2 : 32 * (o / 32) = o - r := by omega
    rw [hr2] at D3
    have hro : r ≤ o := by omega
    have HR := Lib.hid hr
    clear hr hr2 i1 i2 i3
    go_wp2_with fail
    go_loopw [7] (fun x wr => ∃ i : Nat, i ≤ r ∧ x = .int .u32 i ∧ Hid (DB wr db b (symB (ss.drop (o - i)) ++ B) ∧ Kept (fun k _ => w1.heap.size ≤ k) w wr)) (fun x _ => (intOf x).toNat)
    case atStart => exact ⟨r, Nat.le_refl _, congrArg (Value.int .u32) (by have := HR.out; omega), Lib.hid ⟨D3.out, K3.out⟩⟩
    case round =>
      obtain ⟨i, hi, rfl, HH⟩ := hrel
      by_cases h0 : 0 < i
      · have hoi : o - i < ss.length := by have := HCNT.out; omega
        have hd := HH.out.1
        rw [symB_at hoi] at hd
        have hdj : DB wr db b (Lib.uvarint (sB ss[o - i]).length ++ (sB ss[o - i] ++ (symB (ss.drop (o - i + 1)) ++ B))) := by simpa [symE] using hd
        have hz := HZ.out ss[o - i] (List.getElem_mem _)
        have HDJ := Lib.hid hdj
        clear hd hdj
        go_wp2_with fail
        refine (dbUB_any db b _ _ wr HDJ.out (by simp; omega)).mono ?_
        rintro e w5 ⟨o5, c5, rfl, _, _, d5, k5⟩
        have D5 := Lib.hid d5
        have K5 := Lib.hid (HH.out.2.trans k5 (fun i o _ (e : i = db) => by show w1.heap.size ≤ i; omega))
        clear d5 k5 HDJ
        go_wp2
        go_roundw
        case rel => exact ⟨i - 1, by omega, congrArg (Value.int .u32) (by omega), Lib.hid ⟨by rw [show o - (i - 1) = o - i + 1 by omega]; exact D5.out, K5.out⟩⟩
        case measure => simp [intOf]; omega
      · obtain rfl : i = 0 := by omega
        have hoi : o < ss.length := by have := HCNT.out; omega
        have hd := HH.out.1
        rw [Nat.sub_zero, symB_at hoi] at hd
        have hso : ss[o] = so := by have := HSO.out; rw [List.getElem?_eq_getElem hoi] at this; exact Option.some.inj this
        rw [hso] at hd
        have hz := HZ.out so (by rw [← hso]; exact List.getElem_mem _)
        have HD0 := Lib.hid hd
        clear hd hso
        go_wp2_with fail
        refine (dbUS_any db b so _ wr HD0.out (by omega)).mono ?_
        rintro e w5 ⟨rfl, d5, k5⟩
        have D5 := Lib.hid d5
        have K5 := Lib.hid (HH.out.2.trans k5 (fun i o _ (e : i = db) => by show w1.heap.size ≤ i; omega))
        clear d5 k5 HD0
        go_wp2_with fail
        refine (dbErr_any db b _ w5 D5.out).mono ?_
        rintro e w' ⟨rfl, rfl⟩
        go_wp2
        go_ret2
        exact ⟨rfl, K5.out.mono (fun i o hi (hp : w1.heap.size ≤ i) => by omega)⟩

end Go.Proofs.YtfipfoplmopkaaaGreatDoor

namespace Go.Proofs.YtfipfoplmopkaaaGreatDoor
open Go.RowKit Go.Maps

theorem App.undrew {w w' : World} {e size : Nat} {v v' : Value} {n : Nat} {xs : List Value} (h : App w.drew w' e size v v' n xs) : App w w' e size v v' n xs :=
  ⟨h.own, h.lies.imp (fun ⟨a, b⟩ => ⟨a, ⟨b.os, b.tape, b.output, b.size, b.block⟩⟩) (fun ⟨g, a, b, c⟩ => ⟨g, a, b, ⟨c.os, c.tape, c.output, c.size, c.block⟩⟩)⟩

/-- What writePostings leaves. -/
def WPs (w : World) (G : Gh) (V : Vw) (N : Nat) (e : Ending) (w' : World) : Prop :=
  ∃ g, StE w G { V with gf := g, lf := V.lf ++ (zeros (padN V.lf.length 4) ++ V.lp), cs := upd (upd V.cs 11 (.int .u64 N)) 1 (.pointer none) } e w'

set_option maxRecDepth 100000 in
set_option maxHeartbeats 4000000 in
theorem writePostings_any (w : World) (G : Gh) (V : Vw) (hG : WI w G) (hV : G.v = V) (h1 : V.cs 1 = .pointer (some ⟨G.pb, 0, none⟩)) (N : Nat) (hN : N = V.lf.length + padN V.lf.length 4) (hl : V.lf.length < 90000000) (hlp : V.lp.length < 90000000) (hm : V.zm = false) :
    Calls Tryz.prog 97 #[.pointer (some ⟨G.wb, 0, none⟩)] w (WPs w G V N) := by
  have R0 := Lib.hid (Reach.refl hG)
  have V0 := Lib.hid hV
  have H1 := Lib.hid h1
  have HN := Lib.hid hN
  have hN9 : N < 90000004 := by have := padN_lt V.lf.length 4 (by decide); omega
  have f0 := R0.out.f0
  clear hG hV h1 hN
  go_enter Tryz.func97, Tryz.ntmps97
  go_wp2_with fail
  refine (R0.out.padF V0.out 4 (by decide) (by decide) (by omega) hm).mono ?_
  rintro e w1 ⟨g1, rfl, G1, r1, v1⟩
  obtain ⟨lf1, hlf1⟩ : ∃ lf1, lf1 = V.lf ++ zeros (padN V.lf.length 4) := ⟨_, rfl⟩
  have hln : lf1.length = N := by rw [hlf1, HN.out]; simp
  have R1 := Lib.hid r1
  have V1 : Hid (G1.v = { V with lf := lf1, gf := g1 }) := Lib.hid (by rw [v1, hlf1])
  have HLF := Lib.hid hlf1
  have HLN := Lib.hid hln
  clear r1 v1 hlf1 hln f0
  have f0 := R1.out.f0
  have fp := R1.out.posv V1.out (n := N) HLN.out
  have f11 := R1.out.cv V1.out 11 rfl (by decide) (by decide)
  have g11 := R1.out.fr 11 (by decide)
  obtain ⟨G2, r2, v2⟩ := R1.out.stv V1.out 11 (.int .u64 N) (by decide) (by decide) (by decide) (by decide) (by decide) (by decide)
  obtain ⟨w2, hw2⟩ : ∃ w2, w2 = w1.setCell ⟨G.wb, 11, none⟩ (.int .u64 N) := ⟨_, rfl⟩
  rw [← hw2] at r2
  have R2 := Lib.hid r2
  have V2 := Lib.hid v2
  have HW2 := Lib.hid hw2
  have f1 : w2.cell? ⟨G.wb, 1, none⟩ = some (.pointer (some ⟨G.pb, 0, none⟩)) := r2.cv v2 1 ((upd_other V.cs 11 1 (.int .u64 N) (by decide)).trans H1.out) (by decide) (by decide)
  clear r2 v2 hw2
  go_upto_region 5 with fail
  rw [← HW2.out]
  clear f0 fp f11 g11
  go_wp2_with fail
  refine (flush_any _ _).mono ?_
  rintro e w' ⟨rfl, rfl⟩
  have f0 := R2.out.f0
  obtain ⟨vf, hvf, hbf⟩ := R2.out.wi.f.b
  obtain ⟨aof, cf, rfl⟩ := own_slice hbf.1
  obtain ⟨vp, hvp, hbp⟩ := R2.out.wi.p.b
  obtain ⟨aop, cp, rfl⟩ := own_slice hbp.1
  have hlf2 : G2.lf = lf1 := congrArg Vw.lf V2.out
  have hlp2 : G2.lp = V.lp := congrArg Vw.lp V2.out
  have hgf2 : G2.gf = g1 := congrArg Vw.gf V2.out
  rw [hlf2, hgf2, HLN.out] at hbf
  rw [hlf2, HLN.out] at hvf
  rw [hlp2] at hbp hvp
  obtain ⟨np, hnp⟩ : ∃ np, np = V.lp.length := ⟨_, rfl⟩
  rw [← hnp] at hbp hvp hlp
  rw [R2.out.nx.fb] at hvf
  rw [R2.out.nx.pb] at hvp
  have fpp := R2.out.pospv V2.out (n := np) hnp.symm
  have fpos := R2.out.posv V2.out (n := N) HLN.out
  have HNP := Lib.hid hnp
  have BF := Lib.hid hbf
  have BP := Lib.hid hbp
  have HF := Lib.hid (show FW w2 G.fb g1 lf1 by rw [← R2.out.nx.fb, ← hgf2, ← hlf2]; exact R2.out.wi.f)
  clear hbf hbp hlf2 hlp2 hgf2 hnp
  go_upto_region 8 with fail
  have hfb : G.fb < w2.heap.size := World.block_lt_of_cell? _ _ hvf
  have hwb : G.wb < w2.heap.size := World.block_lt_of_cell? _ _ f1
  have hpb : G.pb < w2.heap.size := World.block_lt_of_cell? _ _ hvp
  have hfr0 := HF.out.f0
  have hnfb : (Value.slice aof N cf).ownBlock ≠ some G.fb := by rw [BF.out.2]; exact HF.out.ne
  have hnT : ∀ k, (Value.slice aof N cf).ownBlock = some k → G2.T k = 11 := fun k e => by
    have h := R2.out.wi.t11 k
    rw [show G2.gf = g1 from congrArg Vw.gf V2.out, ← BF.out.2] at h
    exact h e
  have hnwb : (Value.slice aof N cf).ownBlock ≠ some G.wb := fun e => by have := hnT _ e; rw [← R2.out.nx.wb, R2.out.wi.t1] at this; cases this
  have hnpb : (Value.slice aof N cf).ownBlock ≠ some G.pb := fun e => by have := hnT _ e; rw [← R2.out.nx.pb, R2.out.wi.t3] at this; cases this
  have hfp1 : G.fb ≠ G.wb := fun e => by have := R2.out.wi.t2; rw [R2.out.nx.fb, e, ← R2.out.nx.wb, R2.out.wi.t1] at this; cases this
  have hfp2 : G.fb ≠ G.pb := fun e => by have := R2.out.wi.t2; rw [R2.out.nx.fb, e, ← R2.out.nx.pb, R2.out.wi.t3] at this; cases this
  go_cut [] from 34 to 54 (fun wx => ∃ v' w3, App w2 w3 5 1 (.slice aof N cf) v' (N + np) (bVs lf1 ++ bVs V.lp) ∧ wx = w3.setCell ⟨G.fb, 0, none⟩ v')
  case first =>
    have HB := Lib.hid (show Bf w2.drew (.slice aof N cf) g1 lf1 from BF.out)
    have S1 : Hid (aop = none → np = 0 ∧ cp = 0) := Lib.hid (fun e => by
      rcases BP.out.form with ⟨h, _, h2⟩ | ⟨b, cap, h, _⟩
      · cases h; exact ⟨by rw [HNP.out, h2]; try rfl, rfl⟩
      · rw [e] at h; cases h)
    have S2 : Hid (∀ ad, aop = some ad → ∀ (j : Nat) u, V.lp[j]? = some u → w2.drew.cell? (ad.add j) = some (bV u)) := Lib.hid (fun ad e j u hj => by
      obtain ⟨ad', e', hc⟩ := BP.out.src.2 j u hj
      rw [e] at e'; cases e'; exact hc)
    go_region_law ((refine step_appB w2.drew rfl _ _ rfl (.slice aof N cf) g1 lf1 V.lp rfl HB.out aop np cp rfl HNP.out.symm S1.out S2.out (by rw [HLN.out]; omega) (fun v' w3 ha => ?_)); have hka := ha.kept (w := w2.drew) HB.out.1; have x0 : w3.cell? ⟨G.fb, 0, none⟩ = some (.slice aof N cf) := (hka.cell G.fb 0 hfb hnfb).trans hvf; have y0 : w3.cell? ⟨G.wb, 0, none⟩ = some (.pointer (some ⟨G.fb, 0, none⟩)) := (hka.cell G.wb 0 hwb hnwb).trans f0; have x0f : w3.frozen? ⟨G.fb, 0, none⟩ = false := (hka.fr G.fb 0 hfb).trans hfr0; (rw [HLN.out, ← HNP.out] at ha); obtain ⟨ao3, c3, rfl⟩ := own_slice ha.own; have HA := Lib.hid ha; clear ha hka)
    all_goals
      go_wp2_with fail
      go_meet
      exact ⟨_, _, HA.out.undrew, rfl⟩
  case rest =>
    obtain ⟨v', w3, ha, hwc⟩ := hcut
    subst hwc
    obtain ⟨ao3, c3, hv'⟩ := own_slice ha.own
    subst hv'
    have hka := ha.kept (w := w2) (by have := BF.out.1; rw [HLN.out] at this; exact this)
    have k3 : Kept (fun k _ => k = G.fb) w3 (w3.setCell ⟨G.fb, 0, none⟩ (.slice ao3 (N + np) c3)) := Kept.setCell _ _ _ _ rfl
    have hfb3 := Nat.lt_of_lt_of_le hfb hka.size
    have e1 : (w3.setCell ⟨G.fb, 0, none⟩ (.slice ao3 (N + np) c3)).cell? ⟨G.wb, 1, none⟩ = some (.pointer (some ⟨G.pb, 0, none⟩)) := (k3.cell _ _ (Nat.lt_of_lt_of_le hwb hka.size) (fun e => hfp1 e.symm)).trans ((hka.cell _ _ hwb hnwb).trans f1)
    have e0 : (w3.setCell ⟨G.fb, 0, none⟩ (.slice ao3 (N + np) c3)).cell? ⟨G.wb, 0, none⟩ = some (.pointer (some ⟨G.fb, 0, none⟩)) := (k3.cell _ _ (Nat.lt_of_lt_of_le hwb hka.size) (fun e => hfp1 e.symm)).trans ((hka.cell _ _ hwb hnwb).trans f0)
    have ep0 : (w3.setCell ⟨G.fb, 0, none⟩ (.slice ao3 (N + np) c3)).cell? ⟨G.pb, 0, none⟩ = some (.slice aop np cp) := (k3.cell _ _ (Nat.lt_of_lt_of_le hpb hka.size) (fun e => hfp2 e.symm)).trans ((hka.cell _ _ hpb hnpb).trans hvp)
    have ep1 : (w3.setCell ⟨G.fb, 0, none⟩ (.slice ao3 (N + np) c3)).cell? ⟨G.pb, 1, none⟩ = some (.int .u64 np) := (k3.cell _ _ (Nat.lt_of_lt_of_le hpb hka.size) (fun e => hfp2 e.symm)).trans ((hka.cell _ _ hpb hnpb).trans fpp)
    have ef1 : (w3.setCell ⟨G.fb, 0, none⟩ (.slice ao3 (N + np) c3)).cell? ⟨G.fb, 1, none⟩ = some (.int .u64 N) := by
      rw [World.cell?_setCell_other _ _ _ _ (by simp)]; exact (hka.cell _ _ hfb hnfb).trans fpos
    have ef1f : (w3.setCell ⟨G.fb, 0, none⟩ (.slice ao3 (N + np) c3)).frozen? ⟨G.fb, 1, none⟩ = false := by
      rw [World.frozen?_setCell]; exact (hka.fr _ _ hfb).trans HF.out.f1
    have hput := FW.put (k := V.lp) HF.out (by rw [hvf]) (by rw [HLN.out, ← HNP.out]; exact ha)
    have hlen : ((lf1 ++ V.lp).length : Nat) = N + np := by simp; rw [HLN.out, ← HNP.out]
    rw [hlen] at hput
    have hwr : Wr w2 G.fb g1 lf1.length (lf1 ++ V.lp) ((w3.setCell ⟨G.fb, 0, none⟩ (.slice ao3 (N + np) c3)).setCell ⟨G.fb, 1, none⟩ (.int .u64 ((N + np : Nat) : Int))) :=
      ⟨_, hput.2.1, hput.1, hput.2.2.1, hput.2.2.2, fun b hb => by
        rcases hput.2.1 with h | ⟨b', h, hb'⟩
        · exact .inl (h.symm.trans hb)
        · exact .inr (by cases h.symm.trans hb; exact hb')⟩
    have hr3 : ∃ G3, Reach w G ((w3.setCell ⟨G.fb, 0, none⟩ (.slice ao3 (N + np) c3)).setCell ⟨G.fb, 1, none⟩ (.int .u64 ((N + np : Nat) : Int))) G3 ∧ ∃ g, G3.v = { V with gf := g, lf := lf1 ++ V.lp, cs := upd V.cs 11 (.int .u64 N) } := by
      rw [← R2.out.nx.fb, ← (show G2.gf = g1 from congrArg Vw.gf V2.out), ← (show G2.lf = lf1 from congrArg Vw.lf V2.out)] at hwr
      obtain ⟨g, r⟩ := R2.out.wi.wrfr hwr ((congrArg Vw.zm V2.out).trans hm)
      rw [R2.out.nx.fb] at r
      refine ⟨_, R2.out.trans r, g, ?_⟩
      have h2 : (G2.ff g (G2.lf ++ V.lp) w2.heap.size).v = { G2.v with gf := g, lf := G2.lf ++ V.lp } := rfl
      rw [h2, V2.out, show G2.lf = lf1 from congrArg Vw.lf V2.out]
    obtain ⟨G3, r3, g3, v3⟩ := hr3
    have R3 := Lib.hid r3
    have V3 := Lib.hid v3
    clear r3 v3 hwr hput hlen k3 hka ha HF BF BP
    go_upto_region 13 with fail
    rw [show ((N : Int) + (np : Int)) = ((N + np : Nat) : Int) by simp]
    clear e1 e0 ep0 ep1 ef1 ef1f
    generalize (w3.setCell ⟨G.fb, 0, none⟩ (.slice ao3 (N + np) c3)).setCell ⟨G.fb, 1, none⟩ (.int .u64 ((N + np : Nat) : Int)) = w4 at R3 ⊢
    have e1 := R3.out.cv V3.out 1 ((upd_other V.cs 11 1 (.int .u64 N) (by decide)).trans H1.out) (by decide) (by decide)
    have e1f := R3.out.fr 1 (by decide)
    go_wp2_with fail
    refine (fwClose_any _ _).mono ?_
    rintro e w' ⟨rfl, rfl⟩
    go_wp2_with fail
    refine (fwRemove_any _ _).mono ?_
    rintro e w' ⟨rfl, rfl⟩
    obtain ⟨G5, r5, v5⟩ := R3.out.stv V3.out 1 (.pointer none) (by decide) (by decide) (by decide) (by decide) (by decide) (by decide)
    have R5 := Lib.hid r5
    have V5 := Lib.hid v5
    clear r5 v5
    go_wp2
    go_ret
    refine ⟨g3, rfl, G5, R5.out, ?_⟩
    rw [V5.out, HLF.out]
    simp

end Go.Proofs.YtfipfoplmopkaaaGreatDoor
