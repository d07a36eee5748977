/- Symbols.Lookup. Conditions: what is read is there. The table of offsets, read again: what the round of writeLabelIndices keeps. Conditions: bounds on lengths. Maps keyed by numbers of 32 bits, read raw: 'every entry has E'. No condition. -/
import Derived.Test.YtfipfoplmopkaaaGreatDoorZ23
import Derived.Test.YtfipfoplmopkaaaGreatDoorZ25
import Derived.Test.YtfipfoplmopkaaaGreatDoorZ20
import Derived.Lib.SlBytesRow
import Derived.Deep.RegionHeld3
import Derived.Deep.QuietTactic
import Derived.BigQuiet
import Derived.Maps.RangeWalk

namespace Go.Proofs.YtfipfoplmopkaaaGreatDoor
open Go.RowKit Go.Maps

theorem sB_at (s : ByteArray) {i : Nat} (hi : i < s.size) : (sB s)[i]? = some s[i] := by
  have h : i < s.data.toList.length := by simpa using hi
  unfold sB
  rw [List.getElem?_eq_getElem h]
  rfl
/-- string(b). -/
theorem conv_str (w : World) (b o c : Nat) (s : ByteArray) (hc : ∀ j u, (sB s)[j]? = some u → w.cell? ⟨b, o + j, none⟩ = some (bV u)) : (convert 27 9 (.slice (some ⟨b, o, none⟩) s.size c)).run Tryz.prog w = .ok (.string s) w :=
  Lib.run_convert_whole w 27 5 9 Tryz.underlying27 Tryz.underlying5 Tryz.underlying9 b o s (fun i hi => hc i s[i] (sB_at s hi)) c

/-- Decbuf.UvarintStr. -/
theorem dbUS_any (db b : Nat) (s : ByteArray) (r : List UInt8) (w : World) (h : DB w db b (symE s ++ r)) (hx : s.size < 2097152) :
    Calls Tryz.prog 164 #[.pointer (some ⟨db, 0, none⟩)] w fun e w' => e = .returned (.string s) ∧ DB w' db b r ∧ Kept (dbP db) w w' := by
  have h' : DB w db b (Lib.uvarint (sB s).length ++ (sB s ++ r)) := by simpa [symE] using h
  have H := Lib.hid h'
  clear h h'
  go_enter Tryz.func164, Tryz.ntmps164
  go_wp2_with fail
  refine (dbUB_any db b (sB s) r w H.out (by simpa using hx)).mono ?_
  rintro e w1 ⟨o, c, rfl, _, h2, h3, h4⟩
  have hcv := conv_str w1 b o c s h2
  rw [show (sB s).length = s.size by simp]
  have H3 := Lib.hid h3
  have H4 := Lib.hid h4
  clear h2 h3 h4
  go_wp2
  go_ret
  exact ⟨rfl, H3.out, H4.out⟩

/-- realByteSlice.Range, the whole of it. -/
theorem rbRange_any (b n c : Nat) (w : World) (hnc : n ≤ c) : Calls Tryz.prog 284 #[.slice (some ⟨b, 0, none⟩) n c, .int .i64 0, .int .i64 n] w fun e w' => e = .returned (.slice (some ⟨b, 0, none⟩) n c) ∧ w = w' := by
  have i1 : (n : Int) ≤ c := by omega
  go_enter Tryz.func284, Tryz.ntmps284
  go_wp2
  go_ret
  exact ⟨rfl, rfl⟩

theorem symB_at {ss : List ByteArray} {o : Nat} (h : o < ss.length) (B : List UInt8) : symB (ss.drop o) ++ B = symE ss[o] ++ (symB (ss.drop (o + 1)) ++ B) := by
  rw [symB_drop h, List.append_assoc]

/-- A Decbuf that has just been laid. -/
theorem DB.made (w : World) (b off n c : Nat) (l : List UInt8) (hn : n = l.length) (hnc : n ≤ c) (hc : ∀ j u, l[j]? = some u → w.cell? ⟨b, off + j, none⟩ = some (bV u)) (hb : b < w.heap.size) :
    DB (w.alloc (.cells #[.slice (some ⟨b, off, none⟩) n c, .nilIface] 154)) w.heap.size b l ∧ Kept (fun _ _ => False) w (w.alloc (.cells #[.slice (some ⟨b, off, none⟩) n c, .nilIface] 154)) := by
  have k : Kept (fun _ _ => False) w (w.alloc (.cells #[.slice (some ⟨b, off, none⟩) n c, .nilIface] 154)) := Kept.alloc _ _ _
  exact ⟨⟨⟨off, c, by rw [← hn, World.cell?_alloc_new]; rfl, by omega, rd_kept k (fun _ _ => id) hc⟩, by rw [World.cell?_alloc_new]; rfl, by simp, by omega⟩, k⟩

set_option maxRecDepth 100000 in
set_option maxHeartbeats 2000000 in
/-- Symbols.Lookup. -/
theorem lookup_any (b p n c o cnt og q cq d : Nat) (ss : List ByteArray) (A B : List UInt8) (w : World) (hcnt : cnt = ss.length) (ho : o < cnt) (hA : A.length = p + 8) (hln : n = (A ++ (symB ss ++ B)).length) (hnc : n ≤ c) (hn : n < 100000000) (hsl : cnt < 100000)
    (hq : q = (cnt + 31) / 32) (hd : d = p + 8 + (symB (ss.take (32 * (o / 32)))).length) (hcell : w.cell? ⟨og, o / 32, none⟩ = some (.int .i64 d)) (hc : ∀ j u, (A ++ (symB ss ++ B))[j]? = some u → w.cell? ⟨b, 0 + j, none⟩ = some (bV u)) (hsz : ∀ s ∈ ss, s.size < 10000) (so : ByteArray) (hso : ss[o]? = some so) :
    Calls Tryz.prog 140 #[.agg #[.iface 208 (.slice (some ⟨b, 0, none⟩) n c), .int .i64 2, .int .i64 p, .slice (some ⟨og, 0, none⟩) q cq, .int .i64 cnt], .int .u32 o] w fun e w' => e = .returned (.tuple #[.string so, .nilIface]) ∧ Kept (fun _ _ => False) w w' := by
  have HC := Lib.hid hc
  have HD := Lib.hid hd
  have HLN := Lib.hid hln
  have HCNT := Lib.hid hcnt
  have HA := Lib.hid hA
  have HZ := Lib.hid hsz
  have HQ := Lib.hid hq
  have HSO := Lib.hid hso
  clear hc hd hln hcnt hA hsz hq hso
  have m1 := ahead_len
  have m2 := method_len
  have m3 := ahead_range
  have m4 := method_range
  go_enter Tryz.func140, Tryz.ntmps140
  go_wp2_with fail
  obtain ⟨sb, hsb⟩ : ∃ sb, sb = w.heap.size := ⟨_, rfl⟩
  obtain ⟨w1, hw1⟩ : ∃ w1, w1 = w.alloc (.cells #[.iface 208 (.slice (some ⟨b, 0, none⟩) n c), .int .i64 2, .int .i64 p, .slice (some ⟨og, 0, none⟩) q cq, .int .i64 cnt] 258) := ⟨_, rfl⟩
  rw [← hw1, ← hsb]
  have k1 : Kept (fun _ _ => False) w w1 := by rw [hw1]; exact Kept.alloc _ _ _
  have hlt : sb < w1.heap.size := by rw [hw1, hsb]; simp
  have s0 : w1.cell? ⟨sb, 0, none⟩ = some (.iface 208 (.slice (some ⟨b, 0, none⟩) n c)) := by rw [hw1, hsb, World.cell?_alloc_new]; rfl
  have s1 : w1.cell? ⟨sb, 1, none⟩ = some (.int .i64 2) := by rw [hw1, hsb, World.cell?_alloc_new]; rfl
  have s3 : w1.cell? ⟨sb, 3, none⟩ = some (.slice (some ⟨og, 0, none⟩) q cq) := by rw [hw1, hsb, World.cell?_alloc_new]; rfl
  have s4 : w1.cell? ⟨sb, 4, none⟩ = some (.int .i64 cnt) := by rw [hw1, hsb, World.cell?_alloc_new]; rfl
  have K1 := Lib.hid k1
  clear hw1 hsb k1
  obtain ⟨l, hl⟩ : ∃ l, l = A ++ (symB ss ++ B) := ⟨_, rfl⟩
  have C1 := Lib.hid (rd_kept K1.out (fun _ _ => id) HC.out)
  rw [← hl] at C1 HLN
  have hle : d ≤ n ∧ 0 < n := by
    have h1 := congrArg List.length (symB_split ss (32 * (o / 32)))
    have h2 := HLN.out
    rw [hl] at h2
    simp at h1 h2
    have := HA.out
    have := HD.out
    omega
  have hlb : b < w1.heap.size := World.block_lt_of_cell? _ _ (C1.out 0 _ (List.getElem?_eq_getElem (by rw [← HLN.out]; exact hle.2)))
  have HL := Lib.hid hl
  have hwlt : og < w.heap.size := World.block_lt_of_cell? _ _ hcell
  have hcell1 := (K1.out.cell _ _ hwlt id).trans hcell
  have hog : og < w1.heap.size := World.block_lt_of_cell? _ _ hcell1
  clear hl hcell
  go_cut [6] from 9 to 17 (fun x wx => ∃ db, x = .pointer (some ⟨db, 0, none⟩) ∧ w1.heap.size ≤ db ∧ DB wx db b l ∧ Kept (fun _ _ => False) w1 wx)
  case first =>
    go_region_held3 (fun w' => w'.cell? ⟨sb, 0, none⟩ = some (.iface 208 (.slice (some ⟨b, 0, none⟩) n c))) (first | exact s0 | go_keep) (first | (go_at_call 283; refine (rbLen_any _ _ _ _).mono ?_; rintro e w' ⟨rfl, rfl⟩) | (go_at_call 284; refine (rbRange_any _ _ _ _ hnc).mono ?_; rintro e w' ⟨rfl, rfl⟩))
    all_goals
      go_wp2_with fail
      go_meet
      have hm := DB.made w1 b 0 n c l HLN.out hnc C1.out hlb
      exact ⟨_, rfl, Nat.le_refl _, hm.1.kept (Kept.drew (fun _ _ => False) _) (fun _ => id) (fun _ _ => id), hm.2.trans (Kept.drew (fun _ _ => False) _) (fun _ _ _ => id)⟩
  case rest =>
    obtain ⟨db, rfl, hdb, hd, hk⟩ := hcut
    have D1 := Lib.hid hd
    have z1 := (hk.cell sb 1 hlt id).trans s1
    have z3 := (hk.cell sb 3 hlt id).trans s3
    have z4 := (hk.cell sb 4 hlt id).trans s4
    have zc := (hk.cell og _ hog id).trans hcell1
    have K2 := Lib.hid (K1.out.trans hk (fun _ _ _ => id))
    have K2b := Lib.hid hk
    clear s0 s1 s3 s4 hcell1 hd hk
    have i1 : ((o : Int) / 32).toNat = o / 32 := by omega
    have i2 : (o : Int) / 32 < q := by have := HQ.out; omega
    have i3 : ¬ (cnt : Int) ≤ o := by omega
    go_wp2_with fail
    refine (dbSkip_any db b d l _ D1.out (by rw [← HLN.out]; exact hle.1)).mono ?_
    rintro e w3 ⟨rfl, d3, k3⟩
    have hdr : l.drop d = symB (ss.drop (32 * (o / 32))) ++ B := by
      rw [HL.out, symB_split ss (32 * (o / 32)), show A ++ (symB (ss.take (32 * (o / 32))) ++ symB (ss.drop (32 * (o / 32))) ++ B) = (A ++ symB (ss.take (32 * (o / 32)))) ++ (symB (ss.drop (32 * (o / 32))) ++ B) by simp, List.drop_append_of_le_length (by simp; have := HA.out; have := HD.out; omega), List.drop_of_length_le (by simp; have := HA.out; have := HD.out; omega), List.nil_append]
    rw [hdr] at d3
    have D3 := Lib.hid d3
    have hw1w : w.heap.size ≤ w1.heap.size := K1.out.size
    have K3 := Lib.hid ((K2.out.mono (Q := fun k _ => w1.heap.size ≤ k) (fun _ _ _ => False.elim)).trans k3 (fun i o _ (e : i = db) => by show w1.heap.size ≤ i; omega))
    clear d3 k3 hdr z1 z3 z4 zc
    obtain ⟨r, hr⟩ : ∃ r, r = o % 32 := ⟨_, rfl⟩
    have hr2 : 32 * (o / 32) = o - r := by omega
    rw [hr2] at D3
    have hro : r ≤ o := by omega
    have HR := Lib.hid hr
    clear hr hr2 i1 i2 i3
    go_wp2_with fail
    go_loopw [7] (fun x wr => ∃ i : Nat, i ≤ r ∧ x = .int .u32 i ∧ Hid (DB wr db b (symB (ss.drop (o - i)) ++ B) ∧ Kept (fun k _ => w1.heap.size ≤ k) w wr)) (fun x _ => (intOf x).toNat)
    case atStart => exact ⟨r, Nat.le_refl _, congrArg (Value.int .u32) (by have := HR.out; omega), Lib.hid ⟨D3.out, K3.out⟩⟩
    case round =>
      obtain ⟨i, hi, rfl, HH⟩ := hrel
      by_cases h0 : 0 < i
      · have hoi : o - i < ss.length := by have := HCNT.out; omega
        have hd := HH.out.1
        rw [symB_at hoi] at hd
        have hdj : DB wr db b (Lib.uvarint (sB ss[o - i]).length ++ (sB ss[o - i] ++ (symB (ss.drop (o - i + 1)) ++ B))) := by simpa [symE] using hd
        have hz := HZ.out ss[o - i] (List.getElem_mem _)
        have HDJ := Lib.hid hdj
        clear hd hdj
        go_wp2_with fail
        refine (dbUB_any db b _ _ wr HDJ.out (by simp; omega)).mono ?_
        rintro e w5 ⟨o5, c5, rfl, _, _, d5, k5⟩
        have D5 := Lib.hid d5
        have K5 := Lib.hid (HH.out.2.trans k5 (fun i o _ (e : i = db) => by show w1.heap.size ≤ i; omega))
        clear d5 k5 HDJ
        go_wp2
        go_roundw
        case rel => exact ⟨i - 1, by omega, congrArg (Value.int .u32) (by omega), Lib.hid ⟨by rw [show o - (i - 1) = o - i + 1 by omega]; exact D5.out, K5.out⟩⟩
        case measure => simp [intOf]; omega
      · obtain rfl : i = 0 := by omega
        have hoi : o < ss.length := by have := HCNT.out; omega
        have hd := HH.out.1
        rw [Nat.sub_zero, symB_at hoi] at hd
        have hso : ss[o] = so := by have := HSO.out; rw [List.getElem?_eq_getElem hoi] at this; exact Option.some.inj this
        rw [hso] at hd
        have hz := HZ.out so (by rw [← hso]; exact List.getElem_mem _)
        have HD0 := Lib.hid hd
        clear hd hso
        go_wp2_with fail
        refine (dbUS_any db b so _ wr HD0.out (by omega)).mono ?_
        rintro e w5 ⟨rfl, d5, k5⟩
        have D5 := Lib.hid d5
        have K5 := Lib.hid (HH.out.2.trans k5 (fun i o _ (e : i = db) => by show w1.heap.size ≤ i; omega))
        clear d5 k5 HD0
        go_wp2_with fail
        refine (dbErr_any db b _ w5 D5.out).mono ?_
        rintro e w' ⟨rfl, rfl⟩
        go_wp2
        go_ret2
        exact ⟨rfl, K5.out.mono (fun i o hi (hp : w1.heap.size ≤ i) => by omega)⟩

end Go.Proofs.YtfipfoplmopkaaaGreatDoor

namespace Go.Proofs.YtfipfoplmopkaaaGreatDoor
open Go.RowKit Go.Maps

/-- The offsets' bytes. -/
theorem Reach.fileo {w w' : World} {G G' : Gh} {V : Vw} (r : Reach w G w' G') (hV : G'.v = V) {n : Nat} (hn : n = V.lo.length) (h0 : 0 < n) : ∃ b cap, w'.cell? ⟨G.ob, 0, none⟩ = some (.slice (some ⟨b, 0, none⟩) n cap) ∧ n ≤ cap ∧ V.go = some b ∧ (∀ j u, V.lo[j]? = some u → w'.cell? ⟨b, 0 + j, none⟩ = some (bV u)) ∧ G'.T b = 13 := by
  subst hV
  subst hn
  rw [← r.nx.ob]
  obtain ⟨v, hv, hb⟩ := r.wi.o.b
  rcases hb.form with ⟨_, _, h⟩ | ⟨b, cap, rfl, hg, hle, _⟩
  · rw [show G'.v.lo = G'.lo from rfl, h] at h0; cases h0
  · exact ⟨b, cap, hv, hle, hg, fun j u hj => by rw [Nat.zero_add]; exact (hg ▸ hb : Bf w' _ (some b) G'.lo).cells j u hj, r.wi.t13 b hg⟩

/-- The number of a symbol. -/
theorem WI.symLook {w : World} {G : Gh} (h : WI w G) (s : ByteArray) (hs : s.size < 256) (hh : Maps.has G.S (.string s.data.toList) = true) :
    ∃ c : Nat, (Instr.lookup 114 (.map (some G.sm)) (.string s) true).run Tryz.prog w = .ok (.tuple #[.int .u32 c, .bool true]) w ∧ G.S.atKey (.string s.data.toList) (.lit (.int .u32 0)) = .lit (.int .u32 c) ∧ c < 4294967296 := by
  obtain ⟨v, ps, h1, h2⟩ := h.s.look_ok keyS Tryz.underlying114 (z := .int .u32 0) (by kernel_rfl) (plainElem_int Tryz.underlying94 (by decide)) (WideMaps.keyOf_string_mk Tryz.underlying9 (by unfold maxLen; omega : s.size ≤ maxLen))
  obtain ⟨c, rfl, h3, h4⟩ := plainElem_int_inv Tryz.underlying94 h2
  have h5 : 0 ≤ c ∧ c < 4294967296 := by
    have e1 : IntKind.u32.min = 0 := rfl
    have e2 : IntKind.u32.max = 4294967295 := rfl
    simp [Lit.wf, e1, e2] at h4
    omega
  refine ⟨c.toNat, ?_, ?_, by omega⟩
  · rw [h1, hh, show ((c.toNat : Nat) : Int) = c by omega]
  · rw [show ((c.toNat : Nat) : Int) = c by omega]; exact congrArg Prod.fst h3

def pE (e : ByteArray × ByteArray × Nat) : List UInt8 := postE e.1 e.2.1 e.2.2
def pEs (l : List (ByteArray × ByteArray × Nat)) : List UInt8 := (l.map pE).flatten
theorem pEs_drop {l : List (ByteArray × ByteArray × Nat)} {j : Nat} (h : j < l.length) : pEs (l.drop j) = pE l[j] ++ pEs (l.drop (j + 1)) := by
  unfold pEs; rw [List.drop_eq_getElem_cons h, List.map_cons, List.flatten_cons]
def u32V (x : Nat) : Value := .int .u32 x

/-- The round of writeLabelIndices: l is still tO be read, the name at hand s, the values' numbers xs; B, E: bounds on what has been written. -/
structure LRs (w0 : World) (G0 : Gh) (V : Vw) (b db : Nat) (wr : World) (l : List UInt8) (B E : Nat) (cur vals : Value) (s : ByteArray) (xs : List Nat) (Gr : Gh) (l1 : List UInt8) (g : Option Nat) (v39 : Value) (es : List (Nat × ByteArray × Nat)) (K : List UInt8) (O : Nat → Nat) (cb co cc : Nat) : Prop where
  R : Reach w0 G0 wr Gr
  v : Gr.v = { V with l1 := l1, gf := g, lf := V.lf ++ K, cs := upd V.cs 39 v39 }
  bud : K.length + 4 * xs.length ≤ B
  li : LI (fun i => (w0.heap.size ≤ i ∧ Gr.T i = 0) ∧ O i = 1) wr v39 es
  el : es.length ≤ E
  d : DB wr db b l
  tdb : Gr.T db = 0
  odb : O db = 0
  row : wr.ownsRow 0 94 1 vals xs.length (xs.map u32V)
  rb : ∀ k, vals.ownBlock = some k → (w0.heap.size ≤ k ∧ Gr.T k = 0) ∧ O k = 2
  xl : ∀ x ∈ xs, x < 4294967296
  cur : cur = .slice (some ⟨cb, co, none⟩) s.size cc
  cells : ∀ i u, (sB s)[i]? = some u → wr.cell? ⟨cb, co + i, none⟩ = some (bV u)
  cbb : s.size = 0 ∨ cb = b
  ss : s.size < 256
  dw : w0.heap.size ≤ db
  tb : Gr.T b = 13
  bl : b < wr.heap.size
def LR (w0 : World) (G0 : Gh) (V : Vw) (b db : Nat) (wr : World) (l : List UInt8) (B E : Nat) (cur vals : Value) (s : ByteArray) (xs : List Nat) : Prop :=
  ∃ (Gr : Gh) (l1 : List UInt8) (g : Option Nat) (v39 : Value) (es : List (Nat × ByteArray × Nat)) (K : List UInt8) (O : Nat → Nat) (cb co cc : Nat), LRs w0 G0 V b db wr l B E cur vals s xs Gr l1 g v39 es K O cb co cc

theorem sB_out {s : ByteArray} (h : s.size = 0) (i : Nat) (u : UInt8) : ¬ (sB s)[i]? = some u := by
  intro e
  rw [List.getElem?_eq_none (by simp; omega)] at e
  cases e

/-- The Decbuf alone is turned, and new things are laid. -/
theorem LR.db {w0 : World} {G0 : Gh} {V : Vw} {b db : Nat} {wr w' : World} {l l' : List UInt8} {B E : Nat} {cur vals : Value} {s : ByteArray} {xs : List Nat} (h : LR w0 G0 V b db wr l B E cur vals s xs) (hk : Kept (dbP db) wr w') (hd : DB w' db b l') : LR w0 G0 V b db w' l' B E cur vals s xs := by
  obtain ⟨Gr, l1, g, v39, es, K, O, cb, co, cc, q⟩ := h
  have hdl := q.d.lt
  obtain ⟨G', r', v', tn, tO⟩ := q.R.locv q.v hk (fun k o hk' hp => by unfold dbP at hp; subst hp; exact ⟨q.dw, q.tdb⟩)
  have hbl : ∀ k, k < wr.heap.size → k ≠ db → w'.heap[k]? = wr.heap[k]? := fun k hk' hne => hk.block k hk' (fun _ hp => hne hp)
  refine ⟨G', l1, g, v39, es, K, O, cb, co, cc, r', v', q.bud, q.li.kept (P := fun k => k = db) hk (fun k _ ha e => by rw [e, q.odb] at ha; exact absurd ha.2 (by decide)) (fun k hk' ha => ⟨⟨ha.1.1, (tO k hk').trans ha.1.2⟩, ha.2⟩), q.el, hd, (tO db hdl).trans q.tdb, q.odb,
    ownsRow_block q.row (fun k e => hbl k (q.row.lt k e).2 (fun e' => by have := (q.rb k e).2; rw [e', q.odb] at this; cases this)), fun k e => ⟨⟨(q.rb k e).1.1, (tO k (q.row.lt k e).2).trans (q.rb k e).1.2⟩, (q.rb k e).2⟩, q.xl, q.cur, fun i u hi => ?_, q.cbb, q.ss, q.dw, (tO b q.bl).trans q.tb, Nat.lt_of_lt_of_le q.bl hk.size⟩
  rcases q.cbb with h0 | h0
  · exact absurd hi (sB_out h0 i u)
  · have hc := q.cells i u hi
    rw [hk.cell _ _ (World.block_lt_of_cell? _ _ hc) (fun hp : cb = db => q.d.ne (by rw [← h0]; exact hp))]
    exact hc

theorem LR.mono {w0 : World} {G0 : Gh} {V : Vw} {b db : Nat} {wr : World} {l : List UInt8} {B B' E E' : Nat} {cur vals : Value} {s : ByteArray} {xs : List Nat} (h : LR w0 G0 V b db wr l B E cur vals s xs) (hB : B ≤ B') (hE : E ≤ E') : LR w0 G0 V b db wr l B' E' cur vals s xs := by
  obtain ⟨Gr, l1, g, v39, es, K, O, cb, co, cc, q⟩ := h
  exact ⟨Gr, l1, g, v39, es, K, O, cb, co, cc, { q with bud := Nat.le_trans q.bud hB, el := Nat.le_trans q.el hE }⟩

theorem LR.name {w0 : World} {G0 : Gh} {V : Vw} {b db : Nat} {wr : World} {l : List UInt8} {B E : Nat} {cur vals : Value} {s : ByteArray} {xs : List Nat} (h : LR w0 G0 V b db wr l B E cur vals s xs) (nm : ByteArray) (o c : Nat) (hs : nm.size < 256) (hc : ∀ i u, (sB nm)[i]? = some u → wr.cell? ⟨b, o + i, none⟩ = some (bV u)) :
    LR w0 G0 V b db wr l B E (.slice (some ⟨b, o, none⟩) nm.size c) vals nm xs := by
  obtain ⟨Gr, l1, g, v39, es, K, O, cb, co, cc, q⟩ := h
  exact ⟨Gr, l1, g, v39, es, K, O, b, o, c, { q with cur := rfl, cells := hc, cbb := .inr rfl, ss := hs }⟩

theorem ownsRow_take0 {w : World} {e : TypeId} {ao : Option Addr} {n c : Nat} {xs : List Value} (h : w.ownsRow 0 e 1 (.slice ao n c) n xs) : w.ownsRow 0 e 1 (.slice ao 0 c) 0 [] := by
  refine ⟨rfl, ?_⟩
  rcases h.2 with ⟨he, _⟩ | ⟨g, cap, cur, he, hb, hg, _, hm, hs, _⟩
  · cases he; exact .inl ⟨rfl, rfl⟩
  · cases he; exact .inr ⟨g, c, cur, rfl, hb, hg, Nat.zero_le _, hm, hs, by simp⟩
theorem upd_upd (f : Nat → Value) (i : Nat) (a b : Value) : upd (upd f i a) i b = upd f i b := by funext j; simp only [upd]; split <;> rfl

def LRA (w0 : World) (Gr : Gh) (O : Nat → Nat) (i : Nat) : Prop := (w0.heap.size ≤ i ∧ Gr.T i = 0) ∧ O i = 1

/-- Behind writeLabelIndex. -/
theorem LRs.flush {w0 : World} {G0 : Gh} {V : Vw} {b db : Nat} {wr w' : World} {l : List UInt8} {B E : Nat} {cur : Value} {ao : Option Addr} {n c : Nat} {s nm : ByteArray} {xs : List Nat} {Gr : Gh} {l1 : List UInt8} {g : Option Nat} {v39 : Value} {es : List (Nat × ByteArray × Nat)} {K : List UInt8} {O : Nat → Nat} {cb co cc : Nat} {e : Ending}
    (hn : n = xs.length) (q : LRs w0 G0 V b db wr l B E cur (.slice ao n c) s xs Gr l1 g v39 es K O cb co cc) (hzo : V.zo = true) (h : WLI w0 G0 wr Gr { V with l1 := l1, gf := g, lf := V.lf ++ K, cs := upd V.cs 39 v39 } (LRA w0 Gr O) es nm n e w') :
    e = .returned .nilIface ∧ LR w0 G0 V b db w' l (B + 19) (E + 1) cur (.slice ao 0 c) s [] ∧ ∀ o, w'.cell? ⟨b, o, none⟩ = wr.cell? ⟨b, o, none⟩ := by
  subst hn
  obtain ⟨he, G', l1', g', k39, k, r', v', hk, ⟨kb, off, hli⟩, hT, hkp⟩ := h
  have hz : Gr.zo = true := (congrArg Vw.zo q.v).trans hzo
  have hno : ∀ i, i < wr.heap.size → (Gr.T i = 0 ∧ O i ≠ 1 ∨ Gr.T i = 13) → ∀ o : Nat, ¬ (wiZ Gr i o ∨ LRA w0 Gr O i) := by
    rintro i _ (⟨h1, h2⟩ | h1) o (hp | hp)
    · exact hp.1 h1
    · exact h2 hp.2
    · exact hp.2.2 hz h1
    · have h2 := hp.1.2
      rw [h1] at h2; cases h2
  have hdl := q.d.lt
  have hdb := hno db hdl (.inl ⟨q.tdb, by rw [q.odb]; decide⟩)
  have hbb := hno b q.bl (.inr q.tb)
  have hrow := ownsRow_block q.row (fun k e => hkp.block k (q.row.lt k e).2 (hno k (q.row.lt k e).2 (.inl ⟨(q.rb k e).1.2, by rw [(q.rb k e).2]; decide⟩)))
  have hw0 : w0.heap.size ≤ wr.heap.size := q.R.kp.size
  refine ⟨he, ⟨G', l1', g', k39, es ++ [(kb, nm, off)], K ++ k, fun i => if wr.heap.size ≤ i then 1 else O i, cb, co, cc, ⟨r', ?_, ?_, ?_, ?_, q.d.kept hkp hdb (fun _ => hbb), (hT db hdl).trans q.tdb, ?_, ownsRow_take0 hrow, fun k e => ?_, (fun x hx => by cases hx), q.cur, fun i u hi => ?_, q.cbb, q.ss, q.dw, (hT b q.bl).trans q.tb, Nat.lt_of_lt_of_le q.bl hkp.size⟩⟩, fun o => hkp.cell _ _ q.bl (hbb o)⟩
  · rw [v']; simp [upd_upd]
  · have := padN_lt (V.lf ++ K).length 4 (by decide)
    have h2 := q.bud
    simp at hk this ⊢
    omega
  · refine hli.kept (P := fun _ => False) (Kept.refl _ _) (fun _ _ _ => id) (fun i hi ha => ?_)
    rcases Nat.lt_or_ge i wr.heap.size with hlt | hge
    · have ha' : LRA w0 Gr O i := ha.2.resolve_right (by omega)
      exact ⟨⟨ha'.1.1, ha.1⟩, by rw [if_neg (by omega)]; exact ha'.2⟩
    · exact ⟨⟨by omega, ha.1⟩, by rw [if_pos hge]⟩
  · simp; exact q.el
  · rw [if_neg (by omega)]; exact q.odb
  · have e' : (Value.slice ao xs.length c).ownBlock = some k := by cases ao <;> exact e
    have h1 := q.rb k e'
    have h2 := (q.row.lt k e').2
    exact ⟨⟨h1.1.1, (hT k h2).trans h1.1.2⟩, by rw [if_neg (by omega)]; exact h1.2⟩
  · rcases q.cbb with h0 | h0
    · exact absurd hi (sB_out h0 i u)
    · have hc := q.cells i u hi
      rw [h0] at hc ⊢
      rw [hkp.cell _ _ q.bl (hbb _)]
      exact hc

/-- Behind the append of a number. -/
theorem LR.push {w0 : World} {G0 : Gh} {V : Vw} {b db : Nat} {wr wa w' : World} {l : List UInt8} {B E : Nat} {cur vals v' : Value} {s : ByteArray} {xs : List Nat} {n x : Nat} (h : LR w0 G0 V b db wr l B E cur vals s xs) (ka : Kept (fun _ _ => False) wr wa) (hn : n = xs.length) (hx : x < 4294967296) (ha : App wa w' 94 1 vals v' (n + 1) (xs.map u32V ++ [.int .u32 x])) :
    LR w0 G0 V b db w' l (B + 4) E cur v' s (xs ++ [x]) := by
  subst hn
  obtain ⟨Gr, l1, g, v39, es, K, O, cb, co, cc, q⟩ := h
  have hrow := ownsRow_block q.row (w' := wa) (fun k e => ka.block k (q.row.lt k e).2 (fun _ => id))
  have hk := (ka.mono (Q := fun k _ => vals.ownBlock = some k) (fun _ _ _ => False.elim)).trans (ha.kept hrow) (fun _ _ _ h => h)
  obtain ⟨G', r', v'', tn, tO⟩ := q.R.locv q.v hk (fun k o hk' hp => (q.rb k hp).1)
  have hdl := q.d.lt
  have hdb : ∀ o : Nat, ¬ vals.ownBlock = some db := fun _ e => by have := (q.rb db e).2; rw [q.odb] at this; cases this
  have hbb : ∀ o : Nat, ¬ vals.ownBlock = some b := fun _ e => by have := (q.rb b e).1.2; rw [q.tb] at this; cases this
  have hw0 : w0.heap.size ≤ wr.heap.size := q.R.kp.size
  have hwa := ka.size
  refine ⟨G', l1, g, v39, es, K, fun i => if wr.heap.size ≤ i then 2 else O i, cb, co, cc, ⟨r', v'', ?_, q.li.kept (P := fun k => vals.ownBlock = some k) hk (fun k _ hA e => by rw [(q.rb k e).2] at hA; exact absurd hA.2 (by decide)) (fun k hk' hA => ⟨⟨hA.1.1, (tO k hk').trans hA.1.2⟩, by rw [if_neg (by omega)]; exact hA.2⟩), q.el, q.d.kept hk hdb (fun _ => hbb), (tO db hdl).trans q.tdb, ?_, ?_, fun k e => ?_, fun y hy => ?_, q.cur, fun i u hi => ?_, q.cbb, q.ss, q.dw, (tO b q.bl).trans q.tb, Nat.lt_of_lt_of_le q.bl hk.size⟩⟩
  · have := q.bud; simp; omega
  · rw [if_neg (by omega)]; exact q.odb
  · have := ha.own
    simpa [u32V] using this
  · rcases ha.mv with h | ⟨g2, h, hg⟩
    · have e' := h.symm.trans e
      have h1 := q.rb k e'
      have h2 := (q.row.lt k e').2
      exact ⟨⟨h1.1.1, (tO k h2).trans h1.1.2⟩, by rw [if_neg (by omega)]; exact h1.2⟩
    · obtain rfl : g2 = k := Option.some.inj (h.symm.trans e)
      exact ⟨⟨by omega, tn _ (by omega)⟩, by rw [if_pos (by omega)]⟩
  · rcases List.mem_append.1 hy with hy | hy
    · exact q.xl y hy
    · obtain rfl := List.mem_singleton.1 hy; exact hx
  · rcases q.cbb with h0 | h0
    · exact absurd hi (sB_out h0 i u)
    · have hc := q.cells i u hi
      rw [h0] at hc ⊢
      rw [hk.cell _ _ q.bl (hbb 0)]
      exact hc

theorem LRs.u32s {w0 : World} {G0 : Gh} {V : Vw} {b db : Nat} {wr : World} {l : List UInt8} {B E : Nat} {cur : Value} {ao : Option Addr} {n c : Nat} {s : ByteArray} {xs : List Nat} {Gr : Gh} {l1 : List UInt8} {g : Option Nat} {v39 : Value} {es : List (Nat × ByteArray × Nat)} {K : List UInt8} {O : Nat → Nat} {cb co cc : Nat}
    (q : LRs w0 G0 V b db wr l B E cur (.slice ao n c) s xs Gr l1 g v39 es K O cb co cc) : U32s wr Gr ao xs := fun j x hj => by
  have hx : (xs.map u32V)[j]? = some (.int .u32 x) := by simp [hj, u32V]
  rcases q.row.2 with ⟨he, h0⟩ | ⟨g2, cap, cur2, he, _⟩
  · obtain rfl := List.eq_nil_of_length_eq_zero h0
    simp at hj
  · have hao : ao = some ⟨g2, 0, none⟩ := by cases he; rfl
    have hob : (Value.slice ao n c).ownBlock = some g2 := by rw [hao]; rfl
    have hc := q.row.cells hob j _ hx
    rw [Addr.add_lit, Nat.zero_add] at hc
    exact ⟨g2, 0, hao, (q.rb g2 hob).1.2, by rw [Nat.zero_add]; exact hc, q.xl x (List.mem_of_getElem? hj)⟩

theorem und149 : Tryz.prog.underlying 149 = some (.slice 94) := by kernel_rfl
theorem info94 : (Tryz.prog.info? 94).map (fun i => (i.zero, i.size, i.bytes)) = some (some (.int .u32 0), 1, 4) := by kernel_rfl

theorem ss2 {w : World} {k b o : Nat} {v v' : Value} (h : b < k) : ((w.setCell ⟨k, 0, none⟩ v).setCell ⟨k, 1, none⟩ v').cell? ⟨b, o, none⟩ = w.cell? ⟨b, o, none⟩ := by
  have hne : ∀ j, (⟨k, j, none⟩ : Addr) ≠ ⟨b, o, none⟩ := fun j e => by have := congrArg Addr.block e; simp at this; omega
  have hne' : ∀ j, (⟨b, o, none⟩ : Addr) ≠ ⟨k, j, none⟩ := fun j e => hne j e.symm
  rw [World.cell?_setCell_other _ _ _ _ (by first | exact hne _ | exact hne' _), World.cell?_setCell_other _ _ _ _ (by first | exact hne _ | exact hne' _)]
/-- A Decbuf that is stored behind a call that laid things. -/
theorem DB.made2 {w1 w5 : World} {b n c : Nat} {l : List UInt8} (k5 : Kept (fun _ _ => False) (w1.alloc (.cells #[.slice none 0 0, .nilIface] 154)).drew w5) (hn : n = l.length) (hnc : n ≤ c) (hc : ∀ j u, l[j]? = some u → w1.cell? ⟨b, 0 + j, none⟩ = some (bV u)) (hb : b < w1.heap.size) :
    DB ((w5.setCell ⟨w1.heap.size, 0, none⟩ (.slice (some ⟨b, 0, none⟩) n c)).setCell ⟨w1.heap.size, 1, none⟩ .nilIface) w1.heap.size b l ∧ Kept (fun _ _ => False) w1 ((w5.setCell ⟨w1.heap.size, 0, none⟩ (.slice (some ⟨b, 0, none⟩) n c)).setCell ⟨w1.heap.size, 1, none⟩ .nilIface) := by
  have k0 : Kept (fun _ _ => False) w1 (w1.alloc (.cells #[.slice none 0 0, .nilIface] 154)).drew := (Kept.alloc _ w1 _).trans (Kept.drew _ _) (fun _ _ _ => id)
  have hlt : w1.heap.size < (w1.alloc (.cells #[.slice none 0 0, .nilIface] 154)).drew.heap.size := by simp
  have z0 : w5.cell? ⟨w1.heap.size, 0, none⟩ = some (.slice none 0 0) := (k5.cell _ _ hlt id).trans (by show World.cell? (World.alloc _ _) _ = _; rw [World.cell?_alloc_new]; rfl)
  have z1 : w5.cell? ⟨w1.heap.size, 1, none⟩ = some .nilIface := (k5.cell _ _ hlt id).trans (by show World.cell? (World.alloc _ _) _ = _; rw [World.cell?_alloc_new]; rfl)
  have z2 : w5.frozen? ⟨w1.heap.size, 0, none⟩ = false := (k5.fr _ _ hlt).trans (by simp)
  have kk : Kept (fun _ _ => False) w1 ((w5.setCell ⟨w1.heap.size, 0, none⟩ (.slice (some ⟨b, 0, none⟩) n c)).setCell ⟨w1.heap.size, 1, none⟩ .nilIface) :=
    ((k0.trans k5 (fun _ _ _ => id)).trans (Q := fun k _ => k = w1.heap.size) ((Kept.setCell (P := fun k _ => k = w1.heap.size) w5 w1.heap.size 0 _ rfl).trans (Kept.setCell (P := fun k _ => k = w1.heap.size) _ w1.heap.size 1 _ rfl) (fun _ _ _ => id)) (fun i o hi e => by omega))
  refine ⟨⟨⟨0, c, ?_, by omega, rd_kept kk (fun _ _ => id) hc⟩, World.cell?_setCell_same _ _ _ (by rw [World.cell?_setCell_other _ _ _ _ (by simp)]; exact z1), by simp [World.frozen?_setCell, z2], by omega⟩, kk⟩
  rw [World.cell?_setCell_other _ _ _ _ (by simp), ← hn]
  exact World.cell?_setCell_same _ _ _ z0

end Go.Proofs.YtfipfoplmopkaaaGreatDoor

namespace Go.Proofs.YtfipfoplmopkaaaGreatDoor
open Go.RowKit Go.Maps

theorem keyU : Keyed Tryz.prog 94 := int_keyed Tryz.underlying94
def rawE (v : Value) : Option (DataW Value × List MemPlace) := some (.held v, [])
def uK (a : Nat) : Lit := .int .u32 (a : Int)
theorem uK_inj {a b : Nat} (h : uK a = uK b) : a = b := by unfold uK at h; cases h; rfl
theorem keyU_mk {a : Nat} (h : a < 4294967296) : keyOf Tryz.prog 94 (.int .u32 (a : Int)) = some (uK a) := keyOf_int_mk Tryz.underlying94 (wf_u32 h)
theorem keyU_lit {a : Nat} (h : a < 4294967296) : WideAt.IsKeyLit (uK a) := keyU.key (keyU_mk h)

theorem atKey_has {H : Type} {D : DataW H} {k : Lit} (h : Maps.has D k = true) (z z' : DataW H) : D.atKey k z = D.atKey k z' := by
  cases D <;> try (cases h; done)
  rename_i es
  obtain ⟨p, hp, hpk⟩ := List.any_eq_true.1 h
  have hs : (es.find? (fun p => p.1.sameKey k)).isSome = true := List.find?_isSome.2 ⟨p, hp, hpk⟩
  obtain ⟨x, hx⟩ := Option.isSome_iff_exists.1 hs
  simp [DataW.atKey, hx]

/-- Block b is a map of at most n entries; each entry has E. -/
def RM (w : World) (b n : Nat) (E : Nat → Value → Prop) : Prop :=
  ∃ D : DataW Value, w.ownsMap Tryz.prog 94 rawE b n D ∧ ∀ a v, a < 4294967296 → D.atKey (uK a) .nil = .held v → E a v

theorem RM.lt {w : World} {b n : Nat} {E : Nat → Value → Prop} (h : RM w b n E) : b < w.heap.size := by
  obtain ⟨D, h, _⟩ := h
  exact ownsMap_lt h
theorem RM.made (w : World) (E : Nat → Value → Prop) : RM (w.alloc (.map #[] 0)) w.heap.size 0 E :=
  ⟨_, World.ownsMap_made _ _ _ _, fun a v _ h => by cases h⟩
theorem RM.kept {w w' : World} {b n : Nat} {E : Nat → Value → Prop} {P : Nat → Nat → Prop} (h : RM w b n E) (hk : Kept P w w') (hn : ∀ o, ¬ P b o) : RM w' b n E := by
  obtain ⟨D, h, hE⟩ := h
  exact ⟨D, ownsMap_kept h hk hn, hE⟩
theorem RM.imp {w : World} {b n n' : Nat} {E F : Nat → Value → Prop} (h : RM w b n E) (hn : n ≤ n') (hF : ∀ a v, E a v → F a v) : RM w b n' F := by
  obtain ⟨D, h, hE⟩ := h
  exact ⟨D, h.mono hn, fun a v ha hv => hF a v (hE a v ha hv)⟩

/-- Block b is a map; x stands at a. -/
def RA (w : World) (b a : Nat) (x : Value) : Prop := ∃ (n : Nat) (D : DataW Value), w.ownsMap Tryz.prog 94 rawE b n D ∧ Maps.has D (uK a) = true ∧ D.atKey (uK a) .nil = .held x
theorem RA.look {w : World} {b a : Nat} {x : Value} (h : RA w b a x) {t e : TypeId} (ht : Tryz.prog.underlying t = some (.map 94 e)) {z : Value} (hz : (zeroValue e).run Tryz.prog w = .ok z w) (ha : a < 4294967296) : (Instr.lookup t (.map (some b)) (.int .u32 (a : Int)) false).run Tryz.prog w = .ok x w := by
  obtain ⟨n, D, h, hh, hx⟩ := h
  obtain ⟨v', ps', h3, h4⟩ := h.lookup keyU ht hz (zd := .held z) (zp := []) rfl (keyU_mk ha)
  have e4 : D.atKey (uK a) (.held z) = .held v' := (congrArg Prod.fst (Option.some.inj h4)).symm
  rw [atKey_has hh _ .nil, hx] at e4
  cases e4
  exact h3
theorem RA.blk {w w' : World} {b a : Nat} {x : Value} (h : RA w b a x) (hb : w'.heap[b]? = w.heap[b]?) : RA w' b a x := by
  obtain ⟨n, D, ⟨es, clock, h1, h2⟩, hh⟩ := h
  exact ⟨n, D, ⟨es, clock, hb.trans h1, h2⟩, hh⟩

/-- m[a], with and without 'ok'. -/
theorem RM.look {w : World} {b n : Nat} {E : Nat → Value → Prop} (h : RM w b n E) {t e : TypeId} (ht : Tryz.prog.underlying t = some (.map 94 e)) {z : Value} (hz : ∀ w, (zeroValue e).run Tryz.prog w = .ok z w) {a : Nat} (ha : a < 4294967296) :
    ∃ (ok : Bool) (v : Value), (Instr.lookup t (.map (some b)) (.int .u32 (a : Int)) true).run Tryz.prog w = .ok (.tuple #[v, .bool ok]) w ∧ (∀ W : World, W.heap[b]? = w.heap[b]? → (Instr.lookup t (.map (some b)) (.int .u32 (a : Int)) false).run Tryz.prog W = .ok v W) ∧ ((ok = true ∧ E a v ∧ RM w b n (fun c x => E c x ∧ (c = a → x = v)) ∧ RA w b a v) ∨ (ok = false ∧ v = z)) := by
  obtain ⟨D, h, hE⟩ := h
  obtain ⟨v, ps, h1, h2⟩ := h.look_ok keyU ht (hz w) (zd := .held z) (zp := []) rfl (keyU_mk ha)
  have e2 : D.atKey (uK a) (.held z) = .held v := (congrArg Prod.fst (Option.some.inj h2)).symm
  refine ⟨_, v, h1, fun W hW => ?_, ?_⟩
  · obtain ⟨es, clock, hb, h5⟩ := h
    have hW2 : W.ownsMap Tryz.prog 94 rawE b n D := ⟨es, clock, hW.trans hb, h5⟩
    obtain ⟨v', ps', h3, h4⟩ := hW2.lookup keyU ht (hz W) (zd := .held z) (zp := []) rfl (keyU_mk ha)
    have e4 : D.atKey (uK a) (.held z) = .held v' := (congrArg Prod.fst (Option.some.inj h4)).symm
    obtain rfl : v = v' := by rw [e2] at e4; cases e4; rfl
    exact h3
  · cases hh : Maps.has D (uK a) with
    | true =>
      have e5 := (atKey_has hh .nil (.held z)).trans e2
      refine .inl ⟨rfl, hE a v ha e5, ⟨D, h, fun c x hc hx => ⟨hE c x hc hx, fun e => ?_⟩⟩, n, D, h, hh, e5⟩
      subst e
      rw [e5] at hx; cases hx; rfl
    | false => refine .inr ⟨rfl, ?_⟩; rw [atKey_of_not_has hh] at e2; cases e2; rfl

/-- m[a] = x. -/
theorem RM.put {w : World} {b n : Nat} {E : Nat → Value → Prop} (h : RM w b n E) {t e : TypeId} (ht : Tryz.prog.underlying t = some (.map 94 e)) (hn : n < maxLen) {a : Nat} (ha : a < 4294967296) (x : Value) :
    ∃ w', (Instr.mapUpdate t (.map (some b)) (.int .u32 (a : Int)) x).run Tryz.prog w = .ok () w' ∧ RM w' b (n + 1) (fun c v => if c = a then v = x else E c v) ∧ Kept (fun k _ => k = b) w w' ∧ RA w' b a x := by
  obtain ⟨D, h, hE⟩ := h
  obtain ⟨w', h1, h2, h3⟩ := h.store keyU ht hn (d := .held x) (ps := []) (keyU_mk ha) rfl
  refine ⟨w', h1, ⟨_, h2, fun c v hc hv => ?_⟩, turned_kept h3, _, _, h2, has_put_same h.isMap (keyU_lit ha) _, atKey_put_same h.isMap (keyU_lit ha) _ _⟩
  by_cases e : c = a
  · subst e
    rw [atKey_put_same h.isMap (keyU_lit hc)] at hv
    simp only [if_true]
    cases hv; rfl
  · rw [atKey_put_other (fun e' => e (uK_inj e'))] at hv
    simp only [if_neg e]
    exact hE c v hc hv

/-- len(m). -/
theorem RM.len {w : World} {b n : Nat} {E : Nat → Value → Prop} (h : RM w b n E) {t e : TypeId} (ht : Tryz.prog.underlying t = some (.map 94 e)) (ty : TypeId) : ∃ m : Nat, m ≤ n ∧ (Builtin.len_ #[t] ty #[.map (some b)]).run Tryz.prog w = .ok (.int .i64 (m : Int)) w := by
  obtain ⟨D, h, _⟩ := h
  exact ⟨_, h.size_le, h.len ht ty⟩

/-- The loop over such a map: cnt are still to come. -/
def RG (w : World) (b r n : Nat) (E : Nat → Value → Prop) (cnt : Nat) : Prop :=
  ∃ (D : DataW Value) (left : Lit → Bool), w.ranges Tryz.prog 94 rawE b r n D left cnt ∧ ∀ a v, a < 4294967296 → D.atKey (uK a) .nil = .held v → E a v
theorem RG.left {w : World} {b r n : Nat} {E : Nat → Value → Prop} {cnt : Nat} (h : RG w b r n E cnt) : w.rangeLeft b r = cnt := by
  obtain ⟨D, l, h, _⟩ := h
  exact h.left_eq
theorem RG.kept {w w' : World} {b r n : Nat} {E : Nat → Value → Prop} {cnt : Nat} {P : Nat → Nat → Prop} (h : RG w b r n E cnt) (hk : Kept P w w') (hb : ∀ o, ¬ P b o) (hr : ∀ o, ¬ P r o) : RG w' b r n E cnt := by
  obtain ⟨D, l, h, hE⟩ := h
  have h1 := h.owns.lt
  have h2 := h.lt
  obtain ⟨es, clock, since, seen, c0, hb', F, hs, hD, hr', rest⟩ := h
  exact ⟨D, l, ⟨es, clock, since, seen, c0, (hk.block b h1 hb).trans hb', F, hs, hD, (hk.block r h2 hr).trans hr', rest⟩, hE⟩

theorem kept_grown {w w' : World} (h : w.grownBy w' none) : Kept (fun _ _ => False) w w' :=
  Kept.grown h (fun _ _ e => by cases e) (fun _ _ e => by cases e)

/-- range m, at the operation. -/
theorem RM.range {w : World} {b n : Nat} {E : Nat → Value → Prop} (h : RM w b n E) {t e : TypeId} (ht : Tryz.prog.underlying t = some (.map 94 e)) :
    ∃ w' cnt, (Instr.range t (.map (some b))).run Tryz.prog w = .ok (.pointer (some ⟨w.heap.size, 0, none⟩)) w' ∧ RG w' b w.heap.size n E cnt ∧ cnt ≤ n ∧ Kept (fun _ _ => False) w w' ∧ w'.heap.size = w.heap.size + 1 := by
  obtain ⟨D, h, hE⟩ := h
  obtain ⟨w', h1, h2, h3, h4⟩ := h.range keyU ht
  exact ⟨w', _, h1, ⟨D, _, h2, hE⟩, h.size_le, kept_grown h3, h4⟩

/-- The loop's step. -/
theorem RG.next {w : World} {b r n : Nat} {E : Nat → Value → Prop} {cnt : Nat} (h : RG w b r n E cnt) (ty : TypeId) :
    (cnt = 0 ∧ (Instr.next (.pointer (some ⟨r, 0, none⟩)) false ty).run Tryz.prog w = .ok (.tuple #[.bool false]) w) ∨
    ∃ (x : Nat) (v : Value) (w' : World) (cnt' : Nat), x < 4294967296 ∧ E x v ∧ (Instr.next (.pointer (some ⟨r, 0, none⟩)) false ty).run Tryz.prog w = .ok (.tuple #[.bool true, .int .u32 (x : Int), v]) w' ∧
      RG w' b r n E cnt' ∧ cnt' < cnt ∧ Kept (fun k _ => k = r) w w' ∧ w'.heap.size = w.heap.size ∧ (Instr.entry (.pointer (some ⟨r, 0, none⟩))).run Tryz.prog w' = .ok (.tuple #[.int .u32 (x : Int), v]) w' := by
  obtain ⟨D, l, h, hE⟩ := h
  rcases h.next keyU ty with ⟨h0, _, h1⟩ | ⟨key, v, kl, y, w', cnt', hkey, hlk, hv, hat, hrun, hrg, hlt, hgr, hsz, hen⟩
  · exact .inl ⟨h0, h1⟩
  · obtain ⟨x, rfl, rfl, hx⟩ := Maps.keyOf_int_inv Tryz.underlying94 hkey
    have e1 : IntKind.u32.min = 0 := rfl
    have e2 : IntKind.u32.max = 4294967295 := rfl
    have hx' : 0 ≤ x ∧ x < 4294967296 := by simp [Lit.wf, e1, e2] at hx; omega
    have hxx : ((x.toNat : Nat) : Int) = x := by omega
    have hat' := hat .nil
    unfold rawE at hv
    cases hv
    refine .inr ⟨x.toNat, v, w', cnt', by omega, hE _ _ (by omega) (by unfold uK; rw [hxx]; exact hat'), by rw [hxx]; exact hrun, ⟨D, _, hrg, hE⟩, hlt, ?_, hsz, by rw [hxx]; exact hen⟩
    refine Kept.grown hgr (fun k _ e => by cases e; rfl) (fun k o e => ?_)
    cases e
    obtain ⟨es, clock, since, seen, c0, _, _, _, _, hr, _⟩ := h
    obtain ⟨es', clock', since', seen', c0', _, _, _, _, hr', _⟩ := hrg
    simp [World.frozen?, hr, hr']

end Go.Proofs.YtfipfoplmopkaaaGreatDoor
