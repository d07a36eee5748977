/- The table of offsets, read again: what the round of writeLabelIndices keeps. Conditions: bounds on lengths. -/
import Derived.Test.YtfipfoplmopkaaaGreatDoorZ24
import Derived.Test.YtfipfoplmopkaaaGreatDoorZ26
import Derived.Deep.RegionHeld3
import Derived.Deep.QuietTactic
import Derived.BigQuiet

namespace Go.Proofs.YtfipfoplmopkaaaGreatDoor
open Go.RowKit Go.Maps

/-- The offsets' bytes. -/
theorem Reach.fileo {w w' : World} {G G' : Gh} {V : Vw} (r : Reach w G w' G') (hV : G'.v = V) {n : Nat} (hn : n = V.lo.length) (h0 : 0 < n) : ∃ b cap, w'.cell? ⟨G.ob, 0, none⟩ = some (.slice (some ⟨b, 0, none⟩) n cap) ∧ n ≤ cap ∧ V.go = some b ∧ (∀ j u, V.lo[j]? = some u → w'.cell? ⟨b, 0 + j, none⟩ = some (bV u)) ∧ G'.T b = 13 := by
  subst hV
  subst hn
  rw [← r.nx.ob]
  obtain ⟨v, hv, hb⟩ := r.wi.o.b
  rcases hb.form with ⟨_, _, h⟩ | ⟨b, cap, rfl, hg, hle, _⟩
  · rw [show G'.v.lo = G'.lo from rfl, h] at h0; cases h0
  · exact ⟨b, cap, hv, hle, hg, fun j u hj => by rw [Nat.zero_add]; exact (hg ▸ hb : Bf w' _ (some b) G'.lo).cells j u hj, r.wi.t13 b hg⟩

/-- The number of a symbol. -/
theorem WI.symLook {w : World} {G : Gh} (h : WI w G) (s : ByteArray) (hs : s.size < 256) (hh : Maps.has G.S (.string s.data.toList) = true) :
    ∃ c : Nat, (Instr.lookup 114 (.map (some G.sm)) (.string s) true).run Tryz.prog w = .ok (.tuple #[.int .u32 c, .bool true]) w ∧ G.S.atKey (.string s.data.toList) (.lit (.int .u32 0)) = .lit (.int .u32 c) ∧ c < 4294967296 := by
  obtain ⟨v, ps, h1, h2⟩ := h.s.look_ok keyS Tryz.underlying114 (z := .int .u32 0) (by kernel_rfl) (plainElem_int Tryz.underlying94 (by decide)) (WideMaps.keyOf_string_mk Tryz.underlying9 (by unfold maxLen; omega : s.size ≤ maxLen))
  obtain ⟨c, rfl, h3, h4⟩ := plainElem_int_inv Tryz.underlying94 h2
  have h5 : 0 ≤ c ∧ c < 4294967296 := by
    have e1 : IntKind.u32.min = 0 := rfl
    have e2 : IntKind.u32.max = 4294967295 := rfl
    simp [Lit.wf, e1, e2] at h4
    omega
  refine ⟨c.toNat, ?_, ?_, by omega⟩
  · rw [h1, hh, show ((c.toNat : Nat) : Int) = c by omega]
  · rw [show ((c.toNat : Nat) : Int) = c by omega]; exact congrArg Prod.fst h3

def pE (e : ByteArray × ByteArray × Nat) : List UInt8 := postE e.1 e.2.1 e.2.2
def pEs (l : List (ByteArray × ByteArray × Nat)) : List UInt8 := (l.map pE).flatten
theorem pEs_drop {l : List (ByteArray × ByteArray × Nat)} {j : Nat} (h : j < l.length) : pEs (l.drop j) = pE l[j] ++ pEs (l.drop (j + 1)) := by
  unfold pEs; rw [List.drop_eq_getElem_cons h, List.map_cons, List.flatten_cons]
def u32V (x : Nat) : Value := .int .u32 x

/-- The round of writeLabelIndices: l is still tO be read, the name at hand s, the values' numbers xs; B, E: bounds on what has been written. -/
structure LRs (w0 : World) (G0 : Gh) (V : Vw) (b db : Nat) (wr : World) (l : List UInt8) (B E : Nat) (cur vals : Value) (s : ByteArray) (xs : List Nat) (Gr : Gh) (l1 : List UInt8) (g : Option Nat) (v39 : Value) (es : List (Nat × ByteArray × Nat)) (K : List UInt8) (O : Nat → Nat) (cb co cc : Nat) : Prop where
  R : Reach w0 G0 wr Gr
  v : Gr.v = { V with l1 := l1, gf := g, lf := V.lf ++ K, cs := upd V.cs 39 v39 }
  bud : K.length + 4 * xs.length ≤ B
  li : LI (fun i => (w0.heap.size ≤ i ∧ Gr.T i = 0) ∧ O i = 1) wr v39 es
  el : es.length ≤ E
  d : DB wr db b l
  tdb : Gr.T db = 0
  odb : O db = 0
  row : wr.ownsRow 0 94 1 vals xs.length (xs.map u32V)
  rb : ∀ k, vals.ownBlock = some k → (w0.heap.size ≤ k ∧ Gr.T k = 0) ∧ O k = 2
  xl : ∀ x ∈ xs, x < 4294967296
  cur : cur = .slice (some ⟨cb, co, none⟩) s.size cc
  cells : ∀ i u, (sB s)[i]? = some u → wr.cell? ⟨cb, co + i, none⟩ = some (bV u)
  cbb : s.size = 0 ∨ cb = b
  ss : s.size < 256
  dw : w0.heap.size ≤ db
  tb : Gr.T b = 13
  bl : b < wr.heap.size
def LR (w0 : World) (G0 : Gh) (V : Vw) (b db : Nat) (wr : World) (l : List UInt8) (B E : Nat) (cur vals : Value) (s : ByteArray) (xs : List Nat) : Prop :=
  ∃ (Gr : Gh) (l1 : List UInt8) (g : Option Nat) (v39 : Value) (es : List (Nat × ByteArray × Nat)) (K : List UInt8) (O : Nat → Nat) (cb co cc : Nat), LRs w0 G0 V b db wr l B E cur vals s xs Gr l1 g v39 es K O cb co cc

theorem sB_out {s : ByteArray} (h : s.size = 0) (i : Nat) (u : UInt8) : ¬ (sB s)[i]? = some u := by
  intro e
  rw [List.getElem?_eq_none (by simp; omega)] at e
  cases e

/-- The Decbuf alone is turned, and new things are laid. -/
theorem LR.db {w0 : World} {G0 : Gh} {V : Vw} {b db : Nat} {wr w' : World} {l l' : List UInt8} {B E : Nat} {cur vals : Value} {s : ByteArray} {xs : List Nat} (h : LR w0 G0 V b db wr l B E cur vals s xs) (hk : Kept (dbP db) wr w') (hd : DB w' db b l') : LR w0 G0 V b db w' l' B E cur vals s xs := by
  obtain ⟨Gr, l1, g, v39, es, K, O, cb, co, cc, q⟩ := h
  have hdl := q.d.lt
  obtain ⟨G', r', v', tn, tO⟩ := q.R.locv q.v hk (fun k o hk' hp => by unfold dbP at hp; subst hp; exact ⟨q.dw, q.tdb⟩)
  have hbl : ∀ k, k < wr.heap.size → k ≠ db → w'.heap[k]? = wr.heap[k]? := fun k hk' hne => hk.block k hk' (fun _ hp => hne hp)
  refine ⟨G', l1, g, v39, es, K, O, cb, co, cc, r', v', q.bud, q.li.kept (P := fun k => k = db) hk (fun k _ ha e => by rw [e, q.odb] at ha; exact absurd ha.2 (by decide)) (fun k hk' ha => ⟨⟨ha.1.1, (tO k hk').trans ha.1.2⟩, ha.2⟩), q.el, hd, (tO db hdl).trans q.tdb, q.odb,
    ownsRow_block q.row (fun k e => hbl k (q.row.lt k e).2 (fun e' => by have := (q.rb k e).2; rw [e', q.odb] at this; cases this)), fun k e => ⟨⟨(q.rb k e).1.1, (tO k (q.row.lt k e).2).trans (q.rb k e).1.2⟩, (q.rb k e).2⟩, q.xl, q.cur, fun i u hi => ?_, q.cbb, q.ss, q.dw, (tO b q.bl).trans q.tb, Nat.lt_of_lt_of_le q.bl hk.size⟩
  rcases q.cbb with h0 | h0
  · exact absurd hi (sB_out h0 i u)
  · have hc := q.cells i u hi
    rw [hk.cell _ _ (World.block_lt_of_cell? _ _ hc) (fun hp : cb = db => q.d.ne (by rw [← h0]; exact hp))]
    exact hc

theorem LR.mono {w0 : World} {G0 : Gh} {V : Vw} {b db : Nat} {wr : World} {l : List UInt8} {B B' E E' : Nat} {cur vals : Value} {s : ByteArray} {xs : List Nat} (h : LR w0 G0 V b db wr l B E cur vals s xs) (hB : B ≤ B') (hE : E ≤ E') : LR w0 G0 V b db wr l B' E' cur vals s xs := by
  obtain ⟨Gr, l1, g, v39, es, K, O, cb, co, cc, q⟩ := h
  exact ⟨Gr, l1, g, v39, es, K, O, cb, co, cc, { q with bud := Nat.le_trans q.bud hB, el := Nat.le_trans q.el hE }⟩

theorem LR.name {w0 : World} {G0 : Gh} {V : Vw} {b db : Nat} {wr : World} {l : List UInt8} {B E : Nat} {cur vals : Value} {s : ByteArray} {xs : List Nat} (h : LR w0 G0 V b db wr l B E cur vals s xs) (nm : ByteArray) (o c : Nat) (hs : nm.size < 256) (hc : ∀ i u, (sB nm)[i]? = some u → wr.cell? ⟨b, o + i, none⟩ = some (bV u)) :
    LR w0 G0 V b db wr l B E (.slice (some ⟨b, o, none⟩) nm.size c) vals nm xs := by
  obtain ⟨Gr, l1, g, v39, es, K, O, cb, co, cc, q⟩ := h
  exact ⟨Gr, l1, g, v39, es, K, O, b, o, c, { q with cur := rfl, cells := hc, cbb := .inr rfl, ss := hs }⟩

theorem ownsRow_take0 {w : World} {e : TypeId} {ao : Option Addr} {n c : Nat} {xs : List Value} (h : w.ownsRow 0 e 1 (.slice ao n c) n xs) : w.ownsRow 0 e 1 (.slice ao 0 c) 0 [] := by
  refine ⟨rfl, ?_⟩
  rcases h.2 with ⟨he, _⟩ | ⟨g, cap, cur, he, hb, hg, _, hm, hs, _⟩
  · cases he; exact .inl ⟨rfl, rfl⟩
  · cases he; exact .inr ⟨g, c, cur, rfl, hb, hg, Nat.zero_le _, hm, hs, by simp⟩
theorem upd_upd (f : Nat → Value) (i : Nat) (a b : Value) : upd (upd f i a) i b = upd f i b := by funext j; simp only [upd]; split <;> rfl

def LRA (w0 : World) (Gr : Gh) (O : Nat → Nat) (i : Nat) : Prop := (w0.heap.size ≤ i ∧ Gr.T i = 0) ∧ O i = 1

/-- Behind writeLabelIndex. -/
theorem LRs.flush {w0 : World} {G0 : Gh} {V : Vw} {b db : Nat} {wr w' : World} {l : List UInt8} {B E : Nat} {cur : Value} {ao : Option Addr} {n c : Nat} {s nm : ByteArray} {xs : List Nat} {Gr : Gh} {l1 : List UInt8} {g : Option Nat} {v39 : Value} {es : List (Nat × ByteArray × Nat)} {K : List UInt8} {O : Nat → Nat} {cb co cc : Nat} {e : Ending}
    (hn : n = xs.length) (q : LRs w0 G0 V b db wr l B E cur (.slice ao n c) s xs Gr l1 g v39 es K O cb co cc) (hzo : V.zo = true) (h : WLI w0 G0 wr Gr { V with l1 := l1, gf := g, lf := V.lf ++ K, cs := upd V.cs 39 v39 } (LRA w0 Gr O) es nm n e w') :
    e = .returned .nilIface ∧ LR w0 G0 V b db w' l (B + 19) (E + 1) cur (.slice ao 0 c) s [] ∧ ∀ o, w'.cell? ⟨b, o, none⟩ = wr.cell? ⟨b, o, none⟩ := by
  subst hn
  obtain ⟨he, G', l1', g', k39, k, r', v', hk, ⟨kb, off, hli⟩, hT, hkp⟩ := h
  have hz : Gr.zo = true := (congrArg Vw.zo q.v).trans hzo
  have hno : ∀ i, i < wr.heap.size → (Gr.T i = 0 ∧ O i ≠ 1 ∨ Gr.T i = 13) → ∀ o : Nat, ¬ (wiZ Gr i o ∨ LRA w0 Gr O i) := by
    rintro i _ (⟨h1, h2⟩ | h1) o (hp | hp)
    · exact hp.1 h1
    · exact h2 hp.2
    · exact hp.2.2 hz h1
    · have h2 := hp.1.2
      rw [h1] at h2; cases h2
  have hdl := q.d.lt
  have hdb := hno db hdl (.inl ⟨q.tdb, by rw [q.odb]; decide⟩)
  have hbb := hno b q.bl (.inr q.tb)
  have hrow := ownsRow_block q.row (fun k e => hkp.block k (q.row.lt k e).2 (hno k (q.row.lt k e).2 (.inl ⟨(q.rb k e).1.2, by rw [(q.rb k e).2]; decide⟩)))
  have hw0 : w0.heap.size ≤ wr.heap.size := q.R.kp.size
  refine ⟨he, ⟨G', l1', g', k39, es ++ [(kb, nm, off)], K ++ k, fun i => if wr.heap.size ≤ i then 1 else O i, cb, co, cc, ⟨r', ?_, ?_, ?_, ?_, q.d.kept hkp hdb (fun _ => hbb), (hT db hdl).trans q.tdb, ?_, ownsRow_take0 hrow, fun k e => ?_, (fun x hx => by cases hx), q.cur, fun i u hi => ?_, q.cbb, q.ss, q.dw, (hT b q.bl).trans q.tb, Nat.lt_of_lt_of_le q.bl hkp.size⟩⟩, fun o => hkp.cell _ _ q.bl (hbb o)⟩
  · rw [v']; simp [upd_upd]
  · have := padN_lt (V.lf ++ K).length 4 (by decide)
    have h2 := q.bud
    simp at hk this ⊢
    omega
  · refine hli.kept (P := fun _ => False) (Kept.refl _ _) (fun _ _ _ => id) (fun i hi ha => ?_)
    rcases Nat.lt_or_ge i wr.heap.size with hlt | hge
    · have ha' : LRA w0 Gr O i := ha.2.resolve_right (by omega)
      exact ⟨⟨ha'.1.1, ha.1⟩, by rw [if_neg (by omega)]; exact ha'.2⟩
    · exact ⟨⟨by omega, ha.1⟩, by rw [if_pos hge]⟩
  · simp; exact q.el
  · rw [if_neg (by omega)]; exact q.odb
  · have e' : (Value.slice ao xs.length c).ownBlock = some k := by cases ao <;> exact e
    have h1 := q.rb k e'
    have h2 := (q.row.lt k e').2
    exact ⟨⟨h1.1.1, (hT k h2).trans h1.1.2⟩, by rw [if_neg (by omega)]; exact h1.2⟩
  · rcases q.cbb with h0 | h0
    · exact absurd hi (sB_out h0 i u)
    · have hc := q.cells i u hi
      rw [h0] at hc ⊢
      rw [hkp.cell _ _ q.bl (hbb _)]
      exact hc

/-- Behind the append of a number. -/
theorem LR.push {w0 : World} {G0 : Gh} {V : Vw} {b db : Nat} {wr wa w' : World} {l : List UInt8} {B E : Nat} {cur vals v' : Value} {s : ByteArray} {xs : List Nat} {n x : Nat} (h : LR w0 G0 V b db wr l B E cur vals s xs) (ka : Kept (fun _ _ => False) wr wa) (hn : n = xs.length) (hx : x < 4294967296) (ha : App wa w' 94 1 vals v' (n + 1) (xs.map u32V ++ [.int .u32 x])) :
    LR w0 G0 V b db w' l (B + 4) E cur v' s (xs ++ [x]) := by
  subst hn
  obtain ⟨Gr, l1, g, v39, es, K, O, cb, co, cc, q⟩ := h
  have hrow := ownsRow_block q.row (w' := wa) (fun k e => ka.block k (q.row.lt k e).2 (fun _ => id))
  have hk := (ka.mono (Q := fun k _ => vals.ownBlock = some k) (fun _ _ _ => False.elim)).trans (ha.kept hrow) (fun _ _ _ h => h)
  obtain ⟨G', r', v'', tn, tO⟩ := q.R.locv q.v hk (fun k o hk' hp => (q.rb k hp).1)
  have hdl := q.d.lt
  have hdb : ∀ o : Nat, ¬ vals.ownBlock = some db := fun _ e => by have := (q.rb db e).2; rw [q.odb] at this; cases this
  have hbb : ∀ o : Nat, ¬ vals.ownBlock = some b := fun _ e => by have := (q.rb b e).1.2; rw [q.tb] at this; cases this
  have hw0 : w0.heap.size ≤ wr.heap.size := q.R.kp.size
  have hwa := ka.size
  refine ⟨G', l1, g, v39, es, K, fun i => if wr.heap.size ≤ i then 2 else O i, cb, co, cc, ⟨r', v'', ?_, q.li.kept (P := fun k => vals.ownBlock = some k) hk (fun k _ hA e => by rw [(q.rb k e).2] at hA; exact absurd hA.2 (by decide)) (fun k hk' hA => ⟨⟨hA.1.1, (tO k hk').trans hA.1.2⟩, by rw [if_neg (by omega)]; exact hA.2⟩), q.el, q.d.kept hk hdb (fun _ => hbb), (tO db hdl).trans q.tdb, ?_, ?_, fun k e => ?_, fun y hy => ?_, q.cur, fun i u hi => ?_, q.cbb, q.ss, q.dw, (tO b q.bl).trans q.tb, Nat.lt_of_lt_of_le q.bl hk.size⟩⟩
  · have := q.bud; simp; omega
  · rw [if_neg (by omega)]; exact q.odb
  · have := ha.own
    simpa [u32V] using this
  · rcases ha.mv with h | ⟨g2, h, hg⟩
    · have e' := h.symm.trans e
      have h1 := q.rb k e'
      have h2 := (q.row.lt k e').2
      exact ⟨⟨h1.1.1, (tO k h2).trans h1.1.2⟩, by rw [if_neg (by omega)]; exact h1.2⟩
    · obtain rfl : g2 = k := Option.some.inj (h.symm.trans e)
      exact ⟨⟨by omega, tn _ (by omega)⟩, by rw [if_pos (by omega)]⟩
  · rcases List.mem_append.1 hy with hy | hy
    · exact q.xl y hy
    · obtain rfl := List.mem_singleton.1 hy; exact hx
  · rcases q.cbb with h0 | h0
    · exact absurd hi (sB_out h0 i u)
    · have hc := q.cells i u hi
      rw [h0] at hc ⊢
      rw [hk.cell _ _ q.bl (hbb 0)]
      exact hc

theorem LRs.u32s {w0 : World} {G0 : Gh} {V : Vw} {b db : Nat} {wr : World} {l : List UInt8} {B E : Nat} {cur : Value} {ao : Option Addr} {n c : Nat} {s : ByteArray} {xs : List Nat} {Gr : Gh} {l1 : List UInt8} {g : Option Nat} {v39 : Value} {es : List (Nat × ByteArray × Nat)} {K : List UInt8} {O : Nat → Nat} {cb co cc : Nat}
    (q : LRs w0 G0 V b db wr l B E cur (.slice ao n c) s xs Gr l1 g v39 es K O cb co cc) : U32s wr Gr ao xs := fun j x hj => by
  have hx : (xs.map u32V)[j]? = some (.int .u32 x) := by simp [hj, u32V]
  rcases q.row.2 with ⟨he, h0⟩ | ⟨g2, cap, cur2, he, _⟩
  · obtain rfl := List.eq_nil_of_length_eq_zero h0
    simp at hj
  · have hao : ao = some ⟨g2, 0, none⟩ := by cases he; rfl
    have hob : (Value.slice ao n c).ownBlock = some g2 := by rw [hao]; rfl
    have hc := q.row.cells hob j _ hx
    rw [Addr.add_lit, Nat.zero_add] at hc
    exact ⟨g2, 0, hao, (q.rb g2 hob).1.2, by rw [Nat.zero_add]; exact hc, q.xl x (List.mem_of_getElem? hj)⟩

theorem und149 : Tryz.prog.underlying 149 = some (.slice 94) := by kernel_rfl
theorem info94 : (Tryz.prog.info? 94).map (fun i => (i.zero, i.size, i.bytes)) = some (some (.int .u32 0), 1, 4) := by kernel_rfl

theorem ss2 {w : World} {k b o : Nat} {v v' : Value} (h : b < k) : ((w.setCell ⟨k, 0, none⟩ v).setCell ⟨k, 1, none⟩ v').cell? ⟨b, o, none⟩ = w.cell? ⟨b, o, none⟩ := by
  have hne : ∀ j, (⟨k, j, none⟩ : Addr) ≠ ⟨b, o, none⟩ := fun j e => by have := congrArg Addr.block e; simp at this; omega
  have hne' : ∀ j, (⟨b, o, none⟩ : Addr) ≠ ⟨k, j, none⟩ := fun j e => hne j e.symm
  rw [World.cell?_setCell_other _ _ _ _ (by first | exact hne _ | exact hne' _), World.cell?_setCell_other _ _ _ _ (by first | exact hne _ | exact hne' _)]
/-- A Decbuf that is stored behind a call that laid things. -/
theorem DB.made2 {w1 w5 : World} {b n c : Nat} {l : List UInt8} (k5 : Kept (fun _ _ => False) (w1.alloc (.cells #[.slice none 0 0, .nilIface] 154)).drew w5) (hn : n = l.length) (hnc : n ≤ c) (hc : ∀ j u, l[j]? = some u → w1.cell? ⟨b, 0 + j, none⟩ = some (bV u)) (hb : b < w1.heap.size) :
    DB ((w5.setCell ⟨w1.heap.size, 0, none⟩ (.slice (some ⟨b, 0, none⟩) n c)).setCell ⟨w1.heap.size, 1, none⟩ .nilIface) w1.heap.size b l ∧ Kept (fun _ _ => False) w1 ((w5.setCell ⟨w1.heap.size, 0, none⟩ (.slice (some ⟨b, 0, none⟩) n c)).setCell ⟨w1.heap.size, 1, none⟩ .nilIface) := by
  have k0 : Kept (fun _ _ => False) w1 (w1.alloc (.cells #[.slice none 0 0, .nilIface] 154)).drew := (Kept.alloc _ w1 _).trans (Kept.drew _ _) (fun _ _ _ => id)
  have hlt : w1.heap.size < (w1.alloc (.cells #[.slice none 0 0, .nilIface] 154)).drew.heap.size := by simp
  have z0 : w5.cell? ⟨w1.heap.size, 0, none⟩ = some (.slice none 0 0) := (k5.cell _ _ hlt id).trans (by show World.cell? (World.alloc _ _) _ = _; rw [World.cell?_alloc_new]; rfl)
  have z1 : w5.cell? ⟨w1.heap.size, 1, none⟩ = some .nilIface := (k5.cell _ _ hlt id).trans (by show World.cell? (World.alloc _ _) _ = _; rw [World.cell?_alloc_new]; rfl)
  have z2 : w5.frozen? ⟨w1.heap.size, 0, none⟩ = false := (k5.fr _ _ hlt).trans (by simp)
  have kk : Kept (fun _ _ => False) w1 ((w5.setCell ⟨w1.heap.size, 0, none⟩ (.slice (some ⟨b, 0, none⟩) n c)).setCell ⟨w1.heap.size, 1, none⟩ .nilIface) :=
    ((k0.trans k5 (fun _ _ _ => id)).trans (Q := fun k _ => k = w1.heap.size) ((Kept.setCell (P := fun k _ => k = w1.heap.size) w5 w1.heap.size 0 _ rfl).trans (Kept.setCell (P := fun k _ => k = w1.heap.size) _ w1.heap.size 1 _ rfl) (fun _ _ _ => id)) (fun i o hi e => by omega))
  refine ⟨⟨⟨0, c, ?_, by omega, rd_kept kk (fun _ _ => id) hc⟩, World.cell?_setCell_same _ _ _ (by rw [World.cell?_setCell_other _ _ _ _ (by simp)]; exact z1), by simp [World.frozen?_setCell, z2], by omega⟩, kk⟩
  rw [World.cell?_setCell_other _ _ _ _ (by simp), ← hn]
  exact World.cell?_setCell_same _ _ _ z0

end Go.Proofs.YtfipfoplmopkaaaGreatDoor
