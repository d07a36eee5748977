/- writePostingsToTmpFiles, walked. Conditions: what is read is there; bounds on lengths. -/
import Derived.Test.YtfipfoplmopkaaaGreatDoorZ32
import Derived.Test.YtfipfoplmopkaaaGreatDoorZ41
import Derived.Deep.RegionHeld3
import Derived.Deep.Light
import Derived.Deep.CutBlock
import Derived.Deep.CutRange

namespace Go.Proofs.YtfipfoplmopkaaaGreatDoor
open Go.RowKit Go.Maps

set_option maxRecDepth 1000000 in
set_option maxHeartbeats 40000000 in
theorem writePTT_in (w : World) (G : Gh) (V : Vw) (hG : WI w G) (hV : G.v = V) (F : Fx) (pre : List UInt8) (p L : Nat) (SL : List Se) (h : PH w G V F pre p L SL) :
    Calls Tryz.prog 95 #[.pointer (some ⟨G.wb, 0, none⟩)] w (WPTT w G V) := by
  have R0 := Lib.hid (Reach.refl hG)
  have V0 := Lib.hid hV
  have H := Lib.hid h
  clear hG hV h
  have c40 := R0.out.c40
  have HLM := R0.out.wi.l
  obtain ⟨i9, hi9, hz9, hs9, hb9⟩ := info_parts info9
  obtain ⟨i94, hi94, hz94, hs94, hb94⟩ := info_parts info94
  have hnl : Maps.size G.L ≤ 200 := Nat.le_trans HLM.size_le (by have := H.out.nl; rw [← V0.out] at this; exact this)
  go_enter_defers Tryz.func95, Tryz.ntmps95
  go_wp2_with (first | (at_len; refine wpList_len_own _ rfl _ 116 rfl 9 32 Tryz.underlying116 _ G.lm G.nl G.L rfl HLM ?_) | (at_make; refine wpList_make_own _ rfl _ _ 22 rfl 0 9 i9 (.string ByteArray.empty) 1 Tryz.underlying22 hi9 hz9 hs9 _ _ _ (Maps.size G.L) rfl rfl rfl (by rw [hb9]; omega) (by unfold maxLen; omega) (Nat.zero_le _) ?_))
  intro w1 hrow1 hg1
  obtain ⟨N, hN⟩ : ∃ N, N = Maps.size G.L := ⟨_, rfl⟩
  rw [← hN] at hrow1 ⊢
  have hw1 : w.heap.size < w1.heap.size := (hrow1.lt w.heap.size rfl).2
  have HROW1 := Lib.hid hrow1
  have K1 := Lib.hid (kept_grown hg1)
  have HLM1 := HLM.kept hg1 (by simp)
  have HN := Lib.hid hN
  have HNL := Lib.hid hnl
  have c40' := (K1.out.cell _ _ (World.block_lt_of_cell? _ _ c40) id).trans c40
  clear hN hrow1 hg1 hnl c40
  obtain ⟨wq, hwq⟩ : ∃ wq, wq = w.heap.size := ⟨_, rfl⟩
  rw [← hwq] at HROW1 hw1 ⊢
  have HWQ := Lib.hid hwq
  clear hwq
  go_wp2_with (at_range; refine wpList_range_own _ rfl _ 116 rfl 9 32 keyS Tryz.underlying116 _ G.lm G.nl G.L rfl HLM1 ?_)
  intro w2 hrg2 hg2 hs2
  have hnc : ∃ Gr, NC w G V w1.heap.size w2 Gr (Maps.has G.L) (Maps.size G.L) (.slice (some ⟨wq, 0, none⟩) 0 N) [] := by
    have k2 := kept_grown hg2
    obtain ⟨G2, r2, v2, t2, _⟩ := R0.out.locv V0.out (K1.out.trans k2 (fun _ _ _ => id)) (fun _ _ _ => False.elim)
    have e1 : G.L = V.L := congrArg Vw.L V0.out
    have e2 : G.nl = V.nl := congrArg Vw.nl V0.out
    refine ⟨G2, r2, v2, by rw [← e1, ← e2]; exact hrg2, ?_, ⟨wq, rfl, by have := HWQ.out; omega, t2 _ (by have := HWQ.out; omega), by omega⟩, ⟨by have := HWQ.out; omega, t2 _ (by have := HWQ.out; omega)⟩, (fun x hx => by cases hx), by have := HNL.out; simp; omega⟩
    exact ownsRow_block HROW1.out (fun k e => k2.block k (HROW1.out.lt k e).2 (fun _ => id))
  obtain ⟨r, hr⟩ : ∃ r, r = w1.heap.size := ⟨_, rfl⟩
  rw [← hr] at hnc ⊢
  have HNC := Lib.hid hnc
  clear hnc hrg2 hg2 hs2 HROW1 K1 HLM1 c40' HLM hr hw1 HWQ HN HNL
  go_wp2_with fail
  go_loopw [3, 4] (fun x y wr => ∃ (n : Nat) (ao : Option Addr) (c : Nat), x = .slice ao n c ∧ Hid (∃ Gr left cnt ss, NC w G V r wr Gr left cnt (.slice ao n c) ss ∧ n = ss.length)) (fun _ _ wr => wr.rangeLeft G.lm r)
  case atStart =>
    obtain ⟨Gr, hq⟩ := HNC.out
    exact ⟨0, some ⟨wq, 0, none⟩, N, rfl, Lib.hid ⟨Gr, _, _, [], hq, rfl⟩⟩
  case round =>
  obtain ⟨n, ao, c, rfl, HR⟩ := hrel
  obtain ⟨Gr, left, cnt, ss, hq, hn⟩ := HR.out
  have hrg := hq.rg
  have Q := Lib.hid hq
  have HNN := Lib.hid hn
  clear hq hn HNC
  go_wp2_with (at_next; refine wpList_next_ranges _ rfl _ rfl 9 keyS (plainElem Tryz.prog 32) encStr (fun c : Int => Value.int .u64 c) (fun key kl h => by obtain ⟨x, hx, _⟩ := Maps.keyOf_str Tryz.underlying9 h; exact ⟨x, hx⟩) (fun v y h => by obtain ⟨c, hc, _⟩ := plainElem_int_inv Tryz.underlying32 h; exact ⟨c, hc⟩) G.lm r V.nl V.L left cnt rfl hrg ?_ ?_)
  rotate_left
  · intro x c2 kl y _ wn cnt' hkey hlk hv hat hrg1 hlt hgn hsn hen
    obtain rfl := keyOf_encStr hkey
    have HAT := Lib.hid hat
    have HG := Lib.hid hgn
    have HRG := Lib.hid hrg1
    have HLT := Lib.hid hlt
    have hn9 : n ≤ 200 := by have := Q.out.bd; have := HNN.out; omega
    clear hat hgn hrg1 hlt hkey hlk hv hsn
    have hrow : ∀ o : Obj, (wn.alloc o).ownsRow 0 9 1 (.slice ao n c) n (ss.map encStr) := fun o => by
      have h := Q.out.row
      rw [← HNN.out] at h
      have k1 := ranges_next_kept Q.out.rg HRG.out HG.out
      obtain ⟨g, hg0, _, _, hg3⟩ := Q.out.ob
      have h1 := ownsRow_block (w' := wn) h (fun k e => k1.block k (h.lt k e).2 (fun _ e' => by rw [hg0] at e; cases e; exact hg3 e'))
      exact ownsRow_block h1 (fun k e => heap_alloc_old _ _ (h1.lt k e).2)
    have HROW := Lib.hid hrow
    clear hrow hrg
    go_wp2_with (at_builtin; refine wpList_app _ rfl _ _ 22 rfl 9 i9 (.string ByteArray.empty) 1 16 Tryz.underlying22 hi9 hz9 hs9 hb9 rfl (by decide) (.slice ao n c) n (ss.map encStr) rfl (HROW.out _) (some ⟨wn.heap.size, 0, none⟩) 1 1 [encStr x] rfl rfl (fun e => by cases e) (one_new wn (encStr x) 9) (by intro u hu; obtain rfl := List.mem_singleton.1 hu; rfl) (by unfold maxLen; omega) (by omega) ?_)
    intro v' wz ha
    obtain ⟨ao', c', rfl⟩ := own_slice ha.own
    obtain ⟨G', hq'⟩ := Q.out.step HG.out HRG.out HLT.out HAT.out HNN.out ha
    have HQ' := Lib.hid hq'
    have HL' : Hid (n + 1 = (ss ++ [x]).length) := Lib.hid (by have := HNN.out; simp; omega)
    clear hq' ha
    go_wp2
    go_roundw
    case rel => exact ⟨n + 1, ao', c', rfl, Lib.hid ⟨G', _, _, _, HQ'.out, HL'.out⟩⟩
    case measure => rw [HQ'.out.rg.left_eq, Q.out.rg.left_eq]; exact HLT.out
  intro hc0 _
  obtain ⟨g, rfl, hnc, hn9, hcall⟩ := Q.out.sortc HNN.out
  clear hc0 hrg HNN Q HR
  go_wp2_with fail
  refine hcall.mono ?_
  rintro e w3 ⟨rfl, G3, NM, r3, v3, hnr, hnm⟩
  clear hcall
  have hlf0 : 0 < G3.lf.length := by
    have e : G3.lf = V.lf := congrArg Vw.lf v3
    have := H.out.lf; have := H.out.hp; have := H.out.p0
    rw [e, H.out.lf]; simp; omega
  obtain ⟨b, cap, hv, hcap, hgf, _, _⟩ := r3.file hlf0
  obtain rfl : b = F.b := by have := (congrArg Vw.gf v3).trans H.out.gf; rw [show G3.v.gf = G3.gf from rfl, hgf] at this; exact Option.some.inj this
  have eL : G3.lf.length = L := by rw [show G3.lf = V.lf from congrArg Vw.lf v3]; exact H.out.hL.symm
  rw [eL] at hv hcap
  have f0 := r3.f0
  have R3 := Lib.hid r3
  have V3 := Lib.hid v3
  have HNR := Lib.hid hnr
  have HNM := Lib.hid hnm
  clear r3 v3 hnr hnm hgf eL hlf0
  go_wp2_with fail
  refine (flush_any _ _).mono ?_
  rintro e w' ⟨rfl, rfl⟩
  go_wp2_with fail
  refine (zzOpen_any G.fb F.b L cap w3 hv).mono ?_
  rintro e w1 ⟨rfl, hw1⟩
  obtain ⟨G4, r4, v4, t4, tO4⟩ := R3.out.newv V3.out (.cells #[.slice (some ⟨F.b, 0, none⟩) L cap] 251)
  rw [← hw1] at r4
  obtain ⟨sf, hsf⟩ : ∃ sf, sf = w3.heap.size := ⟨_, rfl⟩
  rw [← hsf] at t4 ⊢
  have c4 : w1.cell? ⟨sf, 0, none⟩ = some (.slice (some ⟨F.b, 0, none⟩) L cap) := by rw [hw1, hsf, World.cell?_alloc_new]; rfl
  have k4 : Kept (fun _ _ => False) w3 w1 := by rw [hw1]; exact Kept.alloc _ _ _
  have hpt : PT w G V F sf cap w1 G4 [] V.l1 V.l2 V.lp V.go := PT.start H.out R0.out.wi V0.out r4 v4 (by rw [c4, H.out.hL]) t4 (by rw [hsf]; exact R3.out.kp.size)
  have hnr4 : NR w w1 G4 V g 0 NM := HNR.out.blk (k4.block g HNR.out.lt (fun _ => id)) (tO4 g HNR.out.lt) k4.size
  have hgs : g ≠ sf := by have := HNR.out.lt; omega
  have HP := Lib.hid hpt
  have HNR4 := Lib.hid hnr4
  clear hw1 r4 v4 t4 tO4 c4 k4 hpt hnr4 hv hsf f0 HNR R3 V3
  go_upto_region 15 with fail
  obtain ⟨w5, hw5⟩ : ∃ w5, w5 = w1.alloc (Obj.cells #[] 94) := ⟨_, rfl⟩
  obtain ⟨of, hof⟩ : ∃ of, of = w1.heap.size := ⟨_, rfl⟩
  have h5 : ∃ G5, PT w G V F sf cap w5 G5 [] V.l1 V.l2 V.lp V.go ∧ NR w w5 G5 V g 0 NM ∧ G5.T of = 0 ∧ w5.ownsRow 0 94 1 (.slice (some ⟨of, 0, none⟩) 0 0) 0 [] ∧ of ≠ sf ∧ of ≠ g ∧ w.heap.size ≤ of ∧ of < w5.heap.size := by
    have k5 : Kept (fun _ _ => False) w1 w5 := by rw [hw5]; exact Kept.alloc _ _ _
    obtain ⟨G5, p5, t5, tO⟩ := HP.out.loc k5 (fun _ _ _ => False.elim)
    have hsl := World.block_lt_of_cell? _ _ HP.out.fc
    refine ⟨G5, p5, HNR4.out.blk (k5.block g HNR4.out.lt (fun _ => id)) (tO g HNR4.out.lt) k5.size, t5 _ (by omega), ?_, by simp only at hsl; omega, by have := HNR4.out.lt; omega, by rw [hof]; exact HP.out.R.kp.size, by rw [hw5, hof]; simp⟩
    rw [hw5, hof]
    exact ⟨rfl, .inr ⟨w1.heap.size, 0, #[], rfl, Nat.zero_le _, (MapKept.heap_alloc w1 (.cells #[] 94)).1, Nat.le_refl _, by unfold maxLen; omega, rfl, rfl⟩⟩
  rw [← hw5, ← hof]
  obtain ⟨G5, p5, n5, t5, row5, o1, o2, o3, o4⟩ := h5
  have HP5 := Lib.hid p5
  have HN5 := Lib.hid n5
  have HR5 := Lib.hid row5
  have HT5 := Lib.hid t5
  clear hw5 hof p5 n5 row5 t5 HP HNR4
  have f6 := HP5.out.f6 6 (by decide) (by decide) (by decide) H.out.h6
  have f5 := HP5.out.f6 5 (by decide) (by decide) (by decide) H.out.h5
  have c5 := HP5.out.fc
  rw [← H.out.hL] at c5
  have hsflt : sf < w5.heap.size := World.block_lt_of_cell? _ _ c5
  have hwb : G.wb < w5.heap.size := World.block_lt_of_cell? _ _ f6
  have hblt : F.b < w5.heap.size := Nat.lt_of_lt_of_le HP5.out.bl HP5.out.R.kp.size
  have C5 := Lib.hid HP5.out.cf
  have HLL := H.out.ll
  have hzw : IntKind.i64.wrap (L : Int) = L := IntWalk.i64_in _ (by omega)
  have HL := Lib.hid H.out.hL
  go_cut [9] from 89 to 98 (fun x wx => ∃ db, x = .pointer (some ⟨db, 0, none⟩) ∧ w5.heap.size ≤ db ∧ DB wx db F.b V.lf ∧ Kept (fun _ _ => False) w5 wx)
  case first =>
    have c1d : w5.drew.cell? ⟨sf, 0, none⟩ = some (.slice (some ⟨F.b, 0, none⟩) L cap) := c5
    have c1a : (w5.alloc (.cells #[.slice none 0 0, .nilIface] 154)).drew.cell? ⟨sf, 0, none⟩ = some (.slice (some ⟨F.b, 0, none⟩) L cap) := (World.cell?_alloc_lt _ _ _ hsflt).trans c5
    go_region_held3 (fun w' => w'.cell? ⟨G.wb, 6, none⟩ = some (.int .u64 L)) (first | exact f6 | exact y2 | exact ((ss2 hwb).trans y2) | go_keep) (first | (go_at_call 129; (with_reducible refine (zzBytes_any sf F.b L cap w5.drew c1d).mono ?_); rintro e w' ⟨rfl, rfl⟩) | (go_at_call 129; (with_reducible refine (zzBytes_any sf F.b L cap (w5.alloc (.cells #[.slice none 0 0, .nilIface] 154)).drew c1a).mono ?_); rintro e w' ⟨rfl, rfl⟩) | (go_at_call 133; (with_reducible refine (newRaw_any F.b 0 L cap L w5.drew (Nat.le_refl _) hcap).mono ?_); rintro e w6 ⟨⟨c6, rfl, hc6⟩, k6⟩; have kk := (Kept.drew (fun _ _ => False) w5).trans k6 (fun _ _ _ => id); have y2 := (kk.cell G.wb 6 hwb id).trans f6; have hfin := DB.made w6 F.b 0 L c6 V.lf HL.out hc6 (rd_kept kk (fun _ _ => id) C5.out) (Nat.lt_of_lt_of_le hblt kk.size); have hsz6 := kk.size; have HF := Lib.hid (And.intro hfin.1 (kk.trans hfin.2 (fun _ _ _ => id))); clear k6 kk hfin) | (go_at_call 133; (with_reducible refine (newRaw_any F.b 0 L cap L (w5.alloc (.cells #[.slice none 0 0, .nilIface] 154)).drew (Nat.le_refl _) hcap).mono ?_); rintro e w6 ⟨⟨c6, rfl, hc6⟩, k6⟩; have kk := ((Kept.alloc (fun _ _ => False) w5 (.cells #[.slice none 0 0, .nilIface] 154)).trans (Kept.drew (fun _ _ => False) _) (fun _ _ _ => id)).trans k6 (fun _ _ _ => id); have y2 := (kk.cell G.wb 6 hwb id).trans f6; have z0 : w6.cell? ⟨w5.heap.size, 0, none⟩ = some (.slice none 0 0) := (k6.cell w5.heap.size 0 (by simp) id).trans (by show World.cell? (World.alloc _ _) _ = _; rw [World.cell?_alloc_new]; rfl); have z1 : w6.cell? ⟨w5.heap.size, 1, none⟩ = some .nilIface := (k6.cell w5.heap.size 1 (by simp) id).trans (by show World.cell? (World.alloc _ _) _ = _; rw [World.cell?_alloc_new]; rfl); have z2 : w6.frozen? ⟨w5.heap.size, 0, none⟩ = false := (k6.fr w5.heap.size 0 (by simp)).trans (by simp); have z3 : w6.frozen? ⟨w5.heap.size, 1, none⟩ = false := (k6.fr w5.heap.size 1 (by simp)).trans (by simp); have hsz6 := Nat.le_refl w5.heap.size; have HF := Lib.hid (DB.made2 k6 HL.out hc6 C5.out hblt); clear k6 kk))
    all_goals
      go_wp2_with fail
      go_meet
      exact ⟨_, rfl, hsz6, HF.out.1, HF.out.2⟩
  case rest =>
  obtain ⟨db, rfl, hdb, hd, hk⟩ := hcut
  have hol : ∃ Gr, OL w G V F sf cap g db NM wc Gr V.lf (.slice (some ⟨of, 0, none⟩) 0 0) [] := by
    obtain ⟨G6, p6, t6, tO⟩ := HP5.out.loc hk (fun _ _ _ => False.elim)
    have hgl := HN5.out.lt
    have hw5 := HP5.out.R.kp.size
    refine ⟨G6, p6, HN5.out.blk (hk.block g hgl (fun _ => id)) (tO g hgl) hk.size, hd, ⟨by go_light; omega, t6 db hdb, by go_light; omega, by go_light; omega, hgs⟩, ownsRow_block HR5.out (fun k e => hk.block k (HR5.out.lt k e).2 (fun _ => id)), fun k e => ?_, (fun x hx => by cases hx)⟩
    obtain rfl : of = k := Option.some.inj e
    exact ⟨o3, (tO _ o4).trans HT5.out, o1, by go_light; omega, o2⟩
  obtain ⟨Gc, hq⟩ := hol
  have HQ := Lib.hid hq
  have f5c := hq.P.f6 5 (by decide) (by decide) (by decide) H.out.h5
  have hpl : p ≤ V.lf.length := by rw [H.out.lf, ← H.out.hp]; simp
  have HD := Lib.hid hd
  have hpw : IntKind.i64.wrap (p : Int) = p := IntWalk.i64_in _ (by go_light; have := HL.out; omega)
  have HGS := Lib.hid hgs
  clear hd hk hq hdb HP5 HN5 HR5 HT5 o1 o2 o3 o4 f6 f5 c5 hsflt hwb hblt C5 hgs
  go_wp2_with fail
  refine (dbSkip_any db F.b p V.lf wc HD.out hpl).mono ?_
  rintro e w6 ⟨rfl, d6, k6⟩
  have hdrop : V.lf.drop p = serBs p SL := by rw [H.out.lf, ← H.out.hp]; simp
  rw [hdrop] at d6
  obtain ⟨G6, hq6⟩ := HQ.out.db k6 d6
  have HQ6 := Lib.hid hq6
  have hlen : p + (serBs p SL).length = L := by rw [HL.out, H.out.lf, ← H.out.hp]; simp
  have HLEN := Lib.hid hlen
  clear d6 k6 hq6 HQ HD f5c hpw hzw hdrop hlen hpl
  go_wp2_with fail
  refine ptt2 H HQ6 HLEN _ _ _ _ _ _ _ _ _ _ _ _ _ _ _ _ _ _ _ _ _ _ _ _ _ _ _ _ _ _ _ _ _ _ _ _ _ _ _ _ _ _ _ _ _ _ _ _ _ _ _ _ _ _ _ _ _ _ _ _ _ _ _ _ _ _ _ _ _ _ _ _ _ _ _ _ _ _ _ _ _ _ _ _ _ _ _ _ _ _ _ _ _ _ _ _ _ _ _ _ _ _ _ _ _ _ _ _ _ _ _ _ _ _ _ _ _ _ _ _ _ _ _ _ _ _ _ _ _ _ _ _ _ _ _ _ _ _ _ _ _ _ _ _ _ _ _ _ _ _ _ _ _ _ _ _ _ _ _ _ _ _ _ _ _ _ _ _ _ _ _ _ _ _ _ _ _ _ _ _ _ _ _ _ _ _ _ _ _ _ _ _ _ _ _ _ _ _ _ _ _ _ _ _ _ _ _ _ _ _ _ _ _ _ _ _ _ _ _ _ _ _ _ _ _ _ _ _ _ _ _ _ _ _ _ _ _ _ _ _ _ _ _ _ _ _ _ _ _ _ _ _ _ _ _ _ _ _ _ _ _ _ _ _ _ _ _ _ _ _ _ _ _ _ _ _ _ _ _ _ _ _ _ _ _ _ _ _ _ _ _ _ _ _ _ _ _ _ _ _ _ _ _ _ _ _ _ _ _ _ _ _ _ _ _ _ _ _ _ _ _ _ _ _ _ _ _ _ _ _ _ _ _ _ _ _ _ _ _ _ _ _ _ _ _ _ _ _ _ _ _ _ _ _ _ _ _ _ _ _ _ ?_
  clear HQ6 HLEN
  intro z2 z8 z10 z11 z12 z106 z107 z108 z109 z110 z111 z112 z113 z114 z115 z116 z117 z118 z119 z120 z121 z122 z123 z124 z125 z126 z127 z128 z129 z130 z131 z132 z133 z134 wz2 HR2
  obtain ⟨c1, ao, Gr, xs, rfl, hnx, hq⟩ := HR2
  have HQ := Lib.hid hq
  have HNX := Lib.hid hnx
  have hs200 := H.out.sl
  obtain ⟨mp, hmp⟩ : ∃ mp, mp = SL.length := ⟨_, rfl⟩
  rw [← hmp] at hq hs200 hnx ⊢
  have HMP := Lib.hid hmp
  have hpost := HQ.out.P.post ⟨#[]⟩ ⟨#[]⟩ ao mp c1 xs hnx hq.u32s hs200 (by decide) (by decide) (fun e => absurd rfl e) H.out.h1 H.out.h2 H.out.h46 (by decide) H.out.zm H.out.zo
  have HPOST := Lib.hid hpost
  clear hq hnx hmp hpost
  go_wp2_with fail
  refine HPOST.out.mono ?_
  rintro e w11 ⟨rfl, G11, off, l1, l2, lp, go, p11, r11⟩
  have n11 : NR w w11 G11 V g 0 NM := HQ.out.N.blk (KT.block r11.kp HQ.out.N.lt HQ.out.N.t) (r11.nx.T _ HQ.out.N.lt) r11.kp.size
  obtain ⟨PL, hPL⟩ : ∃ PL : List PE, PL = [] ++ [(⟨#[]⟩, ⟨#[]⟩, off)] := ⟨_, rfl⟩
  rw [← hPL] at p11
  have hPL1 : PL.length = 1 := by rw [hPL]; rfl
  have HPT := Lib.hid p11
  have HNR := Lib.hid n11
  have HPL := Lib.hid hPL1
  clear p11 n11 r11 hPL hPL1 HQ HPOST HNX
  go_wp2_with fail

  refine ptt3 H hcap HL HGS HMP (by go_light; omega) hnc (by go_light; omega) HNM HPL HPT HNR _ _ _ _ _ _ _ _ _ _ _ _ _ _ _ _ _ _ _ _ _ _ _ _ _ _ _ _ _ _ _ _ _ _ _ _ _ _ _ _ _ _ _ _ _ _ _ _ _ _ _ _ _ _ _ _ _ _ _ _ _ _ _ _ _ _ _ _ _ _ _ _ _ _ _ _ _ _ _ _ _ _ _ _ _ _ _ _ _ _ _ _ _ _ _ _ _ _ _ _ _ _ _ _ _ _ _ _ _ _ _ _ _ _ _ _ _ _ _ _ _ _ _ _ _ _ _ _ _ _ _ _ _ _ _ _ _ _ _ _ _ _ _ _ _ _ _ _ _ _ _ _ _ _ _ _ _ _ _ _ _ _ _ _ _ _ _ _ _ _ _ _ _ _ _ _ _ _ _ _ _ _ _ _ _ _ _ _ _ _ _ _ _ _ _ _ _ _ _ _ _ _ _ _ _ _ _ _ _ _ _ _ _ _ _ _ _ _ _ _ _ _ _ _ _ _ _ _ _ _ _ _ _ _ _ _ _ _ _ _ _ _ _ _ _ _ _ _ _ _ _ _ _ _ _ _ _ _ _ _ _ _ _ _ _ _ _ _ _ _ _ _ _ _ _ _ _ _ _ _ _ _ _ _ _ _ _ _ _ _ _ _ _ _ _ _ _ _ _ _ _ _ _ _ _ _ _ _ _ _ _ _ _ _ _ _ _ _ _ _ _ _ _ _ _ _ _ _ _ _ _ _ _ _ _ _ _ _ _ _ _ _ _ _ _ _ _ _ _ _ _ _ _ _ _ _ _ _ _ _ ?_
  clear HPT HNR HPL HNM
  intro z2 z3 z15 z16 z17 z19 z20 z21 z22 z23 z24 z25 z26 z27 z28 z29 z30 z31 z32 z33 z34 z35 z37 z38 z39 z40 z41 z43 z44 z45 z46 z144 z145 z146 z147 z148 z149 z150 z151 z152 z153 z154 z155 z156 z157 z158 z159 z160 z161 z162 z163 z164 z165 z166 z167 z168 z169 z170 z171 z172 z173 z174 z175 z176 z177 z178 z179 z180 z181 z182 z183 z184 z185 z186 z187 z188 z189 z190 z191 z192 z193 z194 z195 z196 z197 z198 z199 z200 z201 z202 z203 z204 z205 z206 z207 z208 z209 z210 z211 z212 z213 z214 z215 z216 z217 z218 z219 z220 z221 z222 z223 z224 z225 z226 z227 z228 z229 z230 z231 z232 z233 z234 z235 z236 z237 z238 z239 z240 z241 z242 z243 z244 z245 z246 z247 z248 z249 z250 z251 z252 z253 z254 z255 z256 z257 z258 z259 z260 z261 z262 z263 z264 z265 z266 z267 z268 z269 z270 z271 z272 z273 z274 z275 z276 z277 z278 z279 z280 z281 z282 z283 z284 z285 z286 z287 z288 z289 z290 z291 z292 z293 z294 z295 z296 z297 z298 z299 z300 z301 z302 z303 z304 z305 z306 z307 z308 z309 z310 z311 z312 z313 z314 z315 z316 z317 z318 z319 z320 z321 z322 z323 z324 z325 z326 z327 z328 z329 z330 z331 z332 z333 z334 z335 z336 z337 z338 z339 z340 z341 z342 z343 z344 z345 z346 z347 z348 z349 z350 z351 z352 z353 z354 z355 z356 z357 z358 z359 z360 z361 wz3 HR3
  obtain ⟨Gr, PL, l1, l2, lp, go, hp, h1, h2⟩ := HR3
  have HP := Lib.hid hp
  clear hp
  go_wp2
  refine leaves_cons (f := 68) (args := #[.pointer (some ⟨sf, 0, none⟩)]) (by simp) (by simp [go_sem]) ?_
  refine (zzClose_d _ .returning _).mono ?_
  rintro e u' w'' ⟨rfl, rfl, rfl⟩
  exact ⟨_, results_tmp rfl _ _ _, rfl, Gr, PL, l1, l2, lp, go, HP.out.R, HP.out.v, HP.out.lpl, HP.out.pe, h1, by go_light; omega⟩

end Go.Proofs.YtfipfoplmopkaaaGreatDoor
