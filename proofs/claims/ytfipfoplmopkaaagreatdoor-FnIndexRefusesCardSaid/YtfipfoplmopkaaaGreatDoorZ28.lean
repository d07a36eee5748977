/- writePostingsToTmpFiles: what it asks, what its first loops keep. Conditions: bounds on lengths. AddSeries' closure(62). Conditions: words below 256, bounds on counts. Validate(61) with AddSeries' closure. Conditions: the labels in order and short, bounds on counts. -/
import Derived.Test.YtfipfoplmopkaaaGreatDoorZ27
import Derived.Test.YtfipfoplmopkaaaGreatDoorZ16
import Derived.Test.YtfipfoplmopkaaaGreatDoorZ17
import Derived.Test.YtfipfoplmopkaaaGreatDoorZ26
import Derived.Test.YtfipfoplmopkaaaGreatDoorZ20
import Derived.Deep.LoopGhost

namespace Go.Proofs.YtfipfoplmopkaaaGreatDoor
open Go.RowKit Go.Maps

/-- What is asked of the Writer ahead of writePostingsToTmpFiles. -/
structure PH (w : World) (G : Gh) (V : Vw) (F : Fx) (pre : List UInt8) (p L : Nat) (SL : List Se) : Prop where
  lf : V.lf = pre ++ serBs p SL
  hp : pre.length = p
  p0 : 0 < p
  hL : L = V.lf.length
  ll : L < 80000000
  h5 : V.cs 5 = .int .u64 p
  h6 : V.cs 6 = .int .u64 L
  h1 : V.cs 1 = .pointer (some ⟨G.pb, 0, none⟩)
  h2 : V.cs 2 = .pointer (some ⟨G.ob, 0, none⟩)
  h3 : V.cs 3 = .int .u64 (0 : Nat)
  h46 : V.cs 46 = .func (.func 80) #[] #[]
  h35 : V.cs 35 = .pointer (some ⟨F.sb, 0, none⟩)
  lo : V.lo = []
  lp : V.lp = []
  zm : V.zm = true
  zo : V.zo = false
  ok : ∀ s ∈ SL, Se.ok F.ss.length s
  sl : SL.length ≤ 200
  sn : seN SL ≤ 200
  nl : V.nl ≤ 200
  L9 : ∀ l : List UInt8, Maps.has V.L (.string l) = true → l.length < 256 ∧ Maps.has V.S (.string l) = true ∧ ∃ c : Nat, c ≤ SL.length ∧ ∀ z, V.L.atKey (.string l) z = .lit (.int .u64 (c : Int))
  ssl : F.ss.length < 100000
  ss : ∀ s ∈ F.ss, s.size < 256 ∧ Maps.has V.S (.string s.data.toList) = true
  sy : SY (fun k => k < w.heap.size ∧ k ≠ F.sb ∧ G.T k = 0) w F.sb F.b0 F.p0 F.l0.length F.c0 F.ss F.ss.length
  tsb : G.T F.sb = 0
  c0 : ∀ j u, F.l0[j]? = some u → w.cell? ⟨F.b0, 0 + j, none⟩ = some (bV u)
  t0 : G.T F.b0 = 11
  hA : F.A.length = F.p0 + 8
  nc : F.l0.length ≤ F.c0
  l0l : F.l0.length < 100000000
  gf : V.gf = some F.b

/-- What writePostingsToTmpFiles leaves. -/
def WPTT (w : World) (G : Gh) (V : Vw) (e : Ending) (w' : World) : Prop :=
  e = .returned .nilIface ∧ ∃ G' PL l1 l2 lp go, Reach w G w' G' ∧ G'.v = ptV V PL l1 l2 lp go ∧ lp.length ≤ 900 * PL.length ∧ (∀ e ∈ PL, peOk V.S e) ∧ 0 < PL.length ∧ PL.length < 40002

theorem info9 : (Tryz.prog.info? 9).map (fun i => (i.zero, i.size, i.bytes)) = some (some (.string ByteArray.empty), 1, 16) := by kernel_rfl

/-- The names, as they are gathered. -/
structure NC (w0 : World) (G0 : Gh) (V : Vw) (r : Nat) (wr : World) (Gr : Gh) (left : Lit → Bool) (cnt : Nat) (v : Value) (ss : List (List UInt8)) : Prop where
  R : Reach w0 G0 wr Gr
  hv : Gr.v = V
  rg : wr.ranges Tryz.prog 9 (plainElem Tryz.prog 32) G0.lm r V.nl V.L left cnt
  row : wr.ownsRow 0 9 1 v ss.length (ss.map encStr)
  ob : ∃ g, v.ownBlock = some g ∧ w0.heap.size ≤ g ∧ Gr.T g = 0 ∧ g ≠ r
  tr : w0.heap.size ≤ r ∧ Gr.T r = 0
  has : ∀ x ∈ ss, Maps.has V.L (.string x) = true
  bd : ss.length + cnt ≤ 200

theorem keyOf_encStr {x : List UInt8} {kl : Lit} (h : keyOf Tryz.prog 9 (encStr x) = some kl) : kl = .string x := by
  obtain ⟨y, h1, h2, _⟩ := Maps.keyOf_str Tryz.underlying9 h
  rw [h2, encStr_inj h1]

theorem ranges_kept {H : Type} {P : Program} {k : TypeId} {R : Value → Option (DataW H × List MemPlace)} {w w' : World} {b r n : Nat} {D : DataW H} {left : Lit → Bool} {cnt : Nat} {Q : Nat → Nat → Prop} (h : w.ranges P k R b r n D left cnt) (hk : Kept Q w w') (hb : ∀ o, ¬ Q b o) (hr : ∀ o, ¬ Q r o) : w'.ranges P k R b r n D left cnt := by
  have h1 := h.owns.lt
  have h2 := h.lt
  obtain ⟨es, clock, since, seen, c0, hb', F, hs, hD, hr', rest⟩ := h
  exact ⟨es, clock, since, seen, c0, (hk.block b h1 hb).trans hb', F, hs, hD, (hk.block r h2 hr).trans hr', rest⟩
theorem ranges_next_kept {H : Type} {P : Program} {k : TypeId} {R : Value → Option (DataW H × List MemPlace)} {w w' : World} {b r n : Nat} {D : DataW H} {left left' : Lit → Bool} {cnt cnt' : Nat} (h : w.ranges P k R b r n D left cnt) (h' : w'.ranges P k R b r n D left' cnt') (hg : w.grownBy w' (some r)) : Kept (fun k _ => k = r) w w' :=
  Kept.grown hg (fun _ _ e => by cases e; rfl) (fun k o e => by
    cases e
    obtain ⟨_, _, _, _, _, _, _, _, _, hr, _⟩ := h
    obtain ⟨_, _, _, _, _, _, _, _, _, hr', _⟩ := h'
    simp [World.frozen?, hr, hr'])

/-- Behind the next name. -/
theorem NC.step {w0 : World} {G0 : Gh} {V : Vw} {r : Nat} {wr w1 w2 : World} {Gr : Gh} {left left' : Lit → Bool} {cnt cnt' : Nat} {v v' : Value} {ss : List (List UInt8)} {x : List UInt8} {o : Obj} {n : Nat} {y : DataW Unit}
    (h : NC w0 G0 V r wr Gr left cnt v ss) (hg : wr.grownBy w1 (some r)) (hrg : w1.ranges Tryz.prog 9 (plainElem Tryz.prog 32) G0.lm r V.nl V.L left' cnt') (hlt : cnt' < cnt) (hat : ∀ z, V.L.atKey (.string x) z = y) (hn : n = ss.length)
    (ha : App (w1.alloc o) w2 9 1 v v' (n + 1) (ss.map encStr ++ [encStr x])) : ∃ G', NC w0 G0 V r w2 G' left' cnt' v' (ss ++ [x]) := by
  subst hn
  obtain ⟨g, hg0, hg1, hg2, hg3⟩ := h.ob
  have hrl := h.rg.lt
  have hml := h.rg.owns.lt
  have hgl := (h.row.lt g hg0).2
  have k1 := ranges_next_kept h.rg hrg hg
  have hrow1 := ownsRow_block h.row (w' := w1) (fun k e => k1.block k (h.row.lt k e).2 (fun _ e' => by rw [hg0] at e; cases e; exact hg3 e'))
  have hrowa := ownsRow_block hrow1 (w' := w1.alloc o) (fun k e => heap_alloc_old _ _ (hrow1.lt k e).2)
  have k2 : Kept (fun i _ => v.ownBlock = some i) w1 w2 := ((Kept.alloc (fun _ _ => False) w1 o).mono (Q := fun i _ => v.ownBlock = some i) (fun _ _ _ e => e.elim)).trans (ha.kept hrowa) (fun _ _ _ e => e)
  have k : Kept (fun i _ => i = r ∨ v.ownBlock = some i) wr w2 := (k1.mono (Q := fun i _ => i = r ∨ v.ownBlock = some i) (fun _ _ _ e => .inl e)).trans (k2.mono (Q := fun i _ => i = r ∨ v.ownBlock = some i) (fun _ _ _ e => .inr e)) (fun _ _ _ e => e)
  obtain ⟨G', r', v'', tn, tO⟩ := h.R.locv h.hv k (fun i o' _ e => by
    rcases e with rfl | e
    · exact h.tr
    · rw [hg0] at e; cases e; exact ⟨hg1, hg2⟩)
  have hlm : Gr.T G0.lm = 8 := by rw [← h.R.nx.lm]; exact h.R.wi.t8
  refine ⟨G', r', v'', ranges_kept hrg k2 (fun _ e => by rw [hg0] at e; cases e; rw [hg2] at hlm; cases hlm) (fun _ e => by rw [hg0] at e; cases e; exact hg3 rfl), by simpa using ha.own, ?_, ⟨h.tr.1, (tO r hrl).trans h.tr.2⟩, fun z hz => ?_, by have := h.bd; simp; omega⟩
  · rcases ha.mv with e | ⟨g2, e, hg4⟩
    · exact ⟨g, e.trans hg0, hg1, (tO g hgl).trans hg2, hg3⟩
    · have hs1 := k1.size
      have hw0 := h.R.kp.size
      simp at hg4
      exact ⟨g2, e, by omega, tn g2 (by omega), by omega⟩
  · rcases List.mem_append.1 hz with hz | hz
    · exact h.has z hz
    · obtain rfl := List.mem_singleton.1 hz
      exact has_true_of_atKey hat

/-- The names in their row. -/
structure NR (w0 wr : World) (Gr : Gh) (V : Vw) (nb no : Nat) (NM : List (List UInt8)) : Prop where
  c : ∀ i x, NM[i]? = some x → wr.cell? ⟨nb, no + i, none⟩ = some (encStr x)
  t : Gr.T nb = 0
  lo : w0.heap.size ≤ nb
  lt : nb < wr.heap.size
  has : ∀ x ∈ NM, Maps.has V.L (.string x) = true
theorem NR.blk {w0 wr w' : World} {Gr G' : Gh} {V : Vw} {nb no : Nat} {NM : List (List UInt8)} (h : NR w0 wr Gr V nb no NM) (hb : w'.heap[nb]? = wr.heap[nb]?) (hT : G'.T nb = Gr.T nb) (hs : wr.heap.size ≤ w'.heap.size) : NR w0 w' G' V nb no NM :=
  ⟨fun i x hi => (World.cell?_of_block (a := ⟨nb, no + i, none⟩) hb).trans (h.c i x hi), hT.trans h.t, h.lo, Nat.lt_of_lt_of_le h.lt hs, h.has⟩
theorem NR.tail {w0 wr : World} {Gr : Gh} {V : Vw} {nb no : Nat} {x : List UInt8} {NM : List (List UInt8)} (h : NR w0 wr Gr V nb no (x :: NM)) : NR w0 wr Gr V nb (no + 1) NM :=
  ⟨fun i y hi => by rw [show no + 1 + i = no + (i + 1) by omega]; exact h.c (i + 1) y (by simpa using hi), h.t, h.lo, h.lt, fun y hy => h.has y (by simp [hy])⟩

open Go.Sort in
/-- Behind the sort. -/
theorem NC.sorted {w0 wr : World} {G0 Gr : Gh} {V : Vw} {r : Nat} {left : Lit → Bool} {cnt g n c k : Nat} {ss ts : List (List UInt8)} {os : Array Obj} (h : NC w0 G0 V r wr Gr left cnt (.slice (some ⟨g, 0, none⟩) n c) ss) (hn : n = ss.length) (hts : ts.length = ss.length) (hm : ∀ x ∈ ts, x ∈ ss) :
    ∃ G', Reach w0 G0 (grow (putRow encStr (Sort.ahead wr k) g 0 ts.toArray) os) G' ∧ G'.v = V ∧ NR w0 (grow (putRow encStr (Sort.ahead wr k) g 0 ts.toArray) os) G' V g 0 ts := by
  subst hn
  rcases h.row.2 with ⟨he, _⟩ | ⟨g', cap, cur, he, hbase, hb, h1, h2, h3, h4⟩
  · cases he
  cases he
  obtain ⟨g2, e2, o1, o2, o3⟩ := h.ob
  cases e2
  have hrow := ownsRow_sorted (n := k) (os := os) hts hbase hb h1 h2 h3
  have hk : Kept (fun i _ => i = g) wr (grow (putRow encStr (Sort.ahead wr k) g 0 ts.toArray) os) :=
    Kept.grown (grownBy_sorted (g := g) ts.toArray) (fun _ _ e => by cases e; rfl) (fun i o e => by cases e; rw [ownsRow_frz hrow rfl, ownsRow_frz h.row rfl])
  obtain ⟨G', r', v', tn, tO⟩ := h.R.locv h.hv hk (fun i o _ e => by rw [e]; exact ⟨o1, o2⟩)
  have hlt : g < wr.heap.size := (h.row.lt g rfl).2
  refine ⟨G', r', v', fun i x hi => ?_, (tO g hlt).trans o2, o1, Nat.lt_of_lt_of_le hlt hk.size, fun x hx => h.has x (hm x hx)⟩
  have h5 := hrow.cells (g := g) rfl i (encStr x) (by simp [hi])
  rw [Addr.add_lit, Nat.zero_add] at h5
  rw [Nat.zero_add]
  exact h5

def NSo (w0 : World) (G0 : Gh) (V : Vw) (g n : Nat) (e : Ending) (w' : World) : Prop := e = .returned (.tuple #[]) ∧ ∃ G' NM, Reach w0 G0 w' G' ∧ G'.v = V ∧ NR w0 w' G' V g 0 NM ∧ NM.length = n
theorem NC.sortc {w0 wr : World} {G0 Gr : Gh} {V : Vw} {r : Nat} {left : Lit → Bool} {cnt n c : Nat} {ao : Option Addr} {ss : List (List UInt8)} (h : NC w0 G0 V r wr Gr left cnt (.slice ao n c) ss) (hn : n = ss.length) :
    ∃ g, ao = some ⟨g, 0, none⟩ ∧ n ≤ c ∧ n ≤ 200 ∧ Calls Tryz.prog 132 #[.slice ao n c] wr (NSo w0 G0 V g n) := by
  obtain ⟨g, hg0, o1, o2, o3⟩ := h.ob
  have hbd := h.bd
  rcases h.row.2 with ⟨he, _⟩ | ⟨g', cap, cur, he, hbase, hb, h1, h2, h3, h4⟩
  · rw [he] at hg0; cases hg0
  · injection he with e1 e2 e3
    subst e1
    subst e3
    obtain rfl : g' = g := by cases hg0; rfl
    refine ⟨g', rfl, by omega, by omega, ?_⟩
    have hc := Tryz.slices_Sort_string g' 0 c ss wr (holds_of_block hb (by simpa using h4)) (h.row.lt g' rfl).2 (by omega)
    rw [← hn] at hc
    refine hc.mono ?_
    rintro e w' ⟨he, k, os, rfl⟩
    have hp := List.mergeSort_perm ss (fun x y => decide (x ≤ y))
    obtain ⟨G', r', v', nr⟩ := h.sorted (k := k) (os := os) (ts := ss.mergeSort fun x y => decide (x ≤ y)) hn hp.length_eq (fun x hx => hp.mem_iff.1 hx)
    exact ⟨he, G', _, r', v', nr, by rw [hp.length_eq, hn]⟩

theorem ptV_nil {V : Vw} (h1 : V.lo = []) (h3 : V.cs 3 = .int .u64 ((0 : Nat) : Int)) : ptV V [] V.l1 V.l2 V.lp V.go = V := by
  have e : upd V.cs 3 (.int .u64 ((([] : List PE).length : Nat) : Int)) = V.cs := by
    funext j; simp only [upd]; split
    · rename_i h; rw [h]; exact h3.symm
    · rfl
  unfold ptV
  rw [e]
  have e2 : pEs [] = V.lo := by rw [h1]; rfl
  rw [e2]

/-- At the start. -/
theorem PT.start {w wr : World} {G Gr : Gh} {V : Vw} {F : Fx} {pre : List UInt8} {p L sf cap : Nat} {SL : List Se} (H : PH w G V F pre p L SL) (hG : WI w G) (hV : G.v = V) (R : Reach w G wr Gr) (hv : Gr.v = V) (hc : wr.cell? ⟨sf, 0, none⟩ = some (.slice (some ⟨F.b, 0, none⟩) V.lf.length cap)) (ht : Gr.T sf = 0) (hl : w.heap.size ≤ sf) :
    PT w G V F sf cap wr Gr [] V.l1 V.l2 V.lp V.go := by
  have hz : G.zm = true := (congrArg Vw.zm hV).trans H.zm
  have hsb := H.sy.sbl
  have hlf : 0 < V.lf.length := by rw [H.lf]; have := H.hp; have := H.p0; simp; omega
  have hgf : G.gf = some F.b := (congrArg Vw.gf hV).trans H.gf
  have hb : F.b < w.heap.size := hG.f.gl F.b hgf
  have ht11 : G.T F.b = 11 := hG.t11 F.b hgf
  have hb0 : F.b0 < w.heap.size := World.block_lt_of_cell? _ _ (H.c0 0 _ (List.getElem?_eq_getElem (by have := H.hA; simp [Fx.l0]; omega)))
  have hlf2 : G.lf = V.lf := congrArg Vw.lf hV
  have hcf : ∀ j u, V.lf[j]? = some u → w.cell? ⟨F.b, 0 + j, none⟩ = some (bV u) := fun j u hj => by
    obtain ⟨v, _, hbf⟩ := hG.f.b
    rw [hgf, hlf2] at hbf
    rw [Nat.zero_add]
    exact hbf.cells j u hj
  have h0 : ∀ k, k < w.heap.size → G.T k = 0 → wr.heap[k]? = w.heap[k]? := fun k hk ht => KT.block R.kp hk ht
  have h11 : ∀ k, k < w.heap.size → G.T k = 11 → wr.heap[k]? = w.heap[k]? := fun k hk ht => R.hp.m hz k hk ht
  refine ⟨R, by rw [ptV_nil H.lo H.h3]; exact hv, by rw [H.lp]; simp, (fun e he => by cases he), hc, ht, hl, H.sy.blocks (h0 F.sb hsb H.tsb) (fun k hA hl => ⟨h0 k hl hA.2.2, hA.1, hA.2.1, (R.nx.T k hl).trans hA.2.2⟩), (R.nx.T F.sb hsb).trans H.tsb, hsb, fun j u hj => ?_, (R.nx.T F.b0 hb0).trans H.t0, hb0, fun j u hj => ?_, (R.nx.T F.b hb).trans ht11, hb⟩
  · rw [World.cell?_of_block (a := ⟨F.b0, 0 + j, none⟩) (h11 F.b0 hb0 H.t0)]; exact H.c0 j u hj
  · rw [World.cell?_of_block (a := ⟨F.b, 0 + j, none⟩) (h11 F.b hb ht11)]; exact hcf j u hj

/-- The offsets, as they are gathered: l is still to be read. -/
structure OL (w0 : World) (G0 : Gh) (V : Vw) (F : Fx) (sf cap g db : Nat) (NM : List (List UInt8)) (wr : World) (Gr : Gh) (l : List UInt8) (v : Value) (xs : List Nat) : Prop where
  P : PT w0 G0 V F sf cap wr Gr [] V.l1 V.l2 V.lp V.go
  N : NR w0 wr Gr V g 0 NM
  d : DB wr db F.b l
  td : w0.heap.size ≤ db ∧ Gr.T db = 0 ∧ db ≠ sf ∧ db ≠ g ∧ g ≠ sf
  row : wr.ownsRow 0 94 1 v xs.length (xs.map u32V)
  rb : ∀ k, v.ownBlock = some k → w0.heap.size ≤ k ∧ Gr.T k = 0 ∧ k ≠ sf ∧ k ≠ db ∧ k ≠ g
  xl : ∀ x ∈ xs, x < 4294967296

theorem OL.db {w0 wr w' : World} {G0 Gr : Gh} {V : Vw} {F : Fx} {sf cap g db : Nat} {NM : List (List UInt8)} {l l' : List UInt8} {v : Value} {xs : List Nat} (h : OL w0 G0 V F sf cap g db NM wr Gr l v xs) (hk : Kept (dbP db) wr w') (hd : DB w' db F.b l') : ∃ G', OL w0 G0 V F sf cap g db NM w' G' l' v xs := by
  obtain ⟨G', p', tn, tO⟩ := h.P.loc hk (fun k o _ e => by unfold dbP at e; subst e; exact ⟨h.td.1, h.td.2.1, h.td.2.2.1⟩)
  have hbl : ∀ k, k < wr.heap.size → k ≠ db → w'.heap[k]? = wr.heap[k]? := fun k hk' hne => hk.block k hk' (fun _ hp => hne hp)
  exact ⟨G', p', h.N.blk (hbl g h.N.lt h.td.2.2.2.1.symm) (tO g h.N.lt) hk.size, hd, ⟨h.td.1, (tO db h.d.lt).trans h.td.2.1, h.td.2.2⟩, ownsRow_block h.row (fun k e => hbl k (h.row.lt k e).2 (h.rb k e).2.2.2.1),
    fun k e => ⟨(h.rb k e).1, (tO k (h.row.lt k e).2).trans (h.rb k e).2.1, (h.rb k e).2.2⟩, h.xl⟩

theorem OL.push {w0 wr wa w' : World} {G0 Gr : Gh} {V : Vw} {F : Fx} {sf cap g db n x : Nat} {NM : List (List UInt8)} {l : List UInt8} {v v' : Value} {xs : List Nat} (h : OL w0 G0 V F sf cap g db NM wr Gr l v xs) (ka : Kept (fun _ _ => False) wr wa) (hn : n = xs.length) (hx : x < 4294967296)
    (ha : App wa w' 94 1 v v' (n + 1) (xs.map u32V ++ [.int .u32 x])) : ∃ G', OL w0 G0 V F sf cap g db NM w' G' l v' (xs ++ [x]) := by
  subst hn
  have hrow := ownsRow_block h.row (w' := wa) (fun k e => ka.block k (h.row.lt k e).2 (fun _ => id))
  have hk := (ka.mono (Q := fun k _ => v.ownBlock = some k) (fun _ _ _ => False.elim)).trans (ha.kept hrow) (fun _ _ _ h => h)
  obtain ⟨G', p', tn, tO⟩ := h.P.loc hk (fun k o _ e => ⟨(h.rb k e).1, (h.rb k e).2.1, (h.rb k e).2.2.1⟩)
  have hbl : ∀ k, k < wr.heap.size → v.ownBlock ≠ some k → w'.heap[k]? = wr.heap[k]? := fun k hk' hne => hk.block k hk' (fun _ hp => hne hp)
  have hw0 : w0.heap.size ≤ wr.heap.size := h.P.R.kp.size
  have hwa := ka.size
  have hsf : sf < wr.heap.size := World.block_lt_of_cell? _ _ h.P.fc
  have hdl := h.d.lt
  have hgl := h.N.lt
  have hbb : v.ownBlock ≠ some F.b := fun e => by have := h.P.bl; have := (h.rb _ e).1; omega
  refine ⟨G', p', h.N.blk (hbl g hgl (fun e => (h.rb g e).2.2.2.2 rfl)) (tO g hgl) hk.size, h.d.kept hk (fun _ e => (h.rb db e).2.2.2.1 rfl) (fun _ _ e => hbb e), ⟨h.td.1, (tO db hdl).trans h.td.2.1, h.td.2.2⟩, ?_, fun k e => ?_, fun y hy => ?_⟩
  · have := ha.own
    simpa [u32V] using this
  · rcases ha.mv with e1 | ⟨g2, e1, hg2⟩
    · have e' := e1.symm.trans e
      have h1 := h.rb k e'
      exact ⟨h1.1, (tO k (h.row.lt k e').2).trans h1.2.1, h1.2.2⟩
    · obtain rfl : g2 = k := Option.some.inj (e1.symm.trans e)
      exact ⟨by omega, tn _ (by omega), by omega, by omega, by omega⟩
  · rcases List.mem_append.1 hy with hy | hy
    · exact h.xl y hy
    · obtain rfl := List.mem_singleton.1 hy; exact hx

theorem OL.u32s {w0 wr : World} {G0 Gr : Gh} {V : Vw} {F : Fx} {sf cap g db n c : Nat} {ao : Option Addr} {NM : List (List UInt8)} {l : List UInt8} {xs : List Nat} (h : OL w0 G0 V F sf cap g db NM wr Gr l (.slice ao n c) xs) : U32s wr Gr ao xs := fun j x hj => by
  have hx : (xs.map u32V)[j]? = some (.int .u32 x) := by simp [hj, u32V]
  rcases h.row.2 with ⟨he, h0⟩ | ⟨g2, cap, cur2, he, _⟩
  · obtain rfl := List.eq_nil_of_length_eq_zero h0
    simp at hj
  · have hao : ao = some ⟨g2, 0, none⟩ := by cases he; rfl
    have hob : (Value.slice ao n c).ownBlock = some g2 := by rw [hao]; rfl
    have hc := h.row.cells hob j _ hx
    rw [Addr.add_lit, Nat.zero_add] at hc
    exact ⟨g2, 0, hao, (h.rb g2 hob).2.1, by rw [Nat.zero_add]; exact hc, h.xl x (List.mem_of_getElem? hj)⟩

theorem PT.f6 {w0 wr : World} {G0 Gr : Gh} {V : Vw} {F : Fx} {sf cap : Nat} {PL : List PE} {l1 l2 lp : List UInt8} {go : Option Nat} (h : PT w0 G0 V F sf cap wr Gr PL l1 l2 lp go) (i : Nat) (hi : i < 47) (hr : i < 12 ∨ 33 < i) (h3 : i ≠ 3) {x : Value} (hx : V.cs i = x) : wr.cell? ⟨G0.wb, i, none⟩ = some x :=
  h.R.cv h.v i ((ptV_cs _ _ _ _ _ _ i h3).trans hx) hi hr

theorem keyOf_enc {x : List UInt8} (h : x.length < 256) : keyOf Tryz.prog 9 (encStr x) = some (.string x) := by
  have := WideMaps.keyOf_string_mk (P := Tryz.prog) Tryz.underlying9 (s := ⟨x.toArray⟩) (by unfold maxLen; show x.toArray.size ≤ _; simp; omega)
  simpa using this

/-- labelNames[x], in whatever number of draws. -/
theorem PT.ln {w wr : World} {G Gr : Gh} {V : Vw} {F : Fx} {sf cap : Nat} {PL : List PE} {l1 l2 lp : List UInt8} {go : Option Nat} (h : PT w G V F sf cap wr Gr PL l1 l2 lp go) {x : List UInt8} {cx : Nat} (h1 : x.length < 256) (h4 : ∀ z, V.L.atKey (.string x) z = .lit (.int .u64 (cx : Int))) :
    ∀ m, (Instr.lookup 116 (.map (some G.lm)) (encStr x) false).run Tryz.prog (wr.drewN m) = .ok (.int .u64 (cx : Int)) (wr.drewN m) := by
  have hm := h.R.wi.l
  have e1 : Gr.L = V.L := congrArg Vw.L h.v
  rw [h.R.nx.lm, e1] at hm
  intro m
  have hmd : (wr.drewN m).ownsMap Tryz.prog 9 (plainElem Tryz.prog 32) G.lm Gr.nl V.L := hm
  obtain ⟨c', hr', ha', _⟩ := hmd.lookup_int keyS Tryz.underlying116 Tryz.underlying32 (by kernel_rfl) (keyOf_enc h1)
  have e3 := (h4 _).symm.trans ha'
  cases e3
  exact hr'

/-- symbolCache[x]. -/
theorem PT.sc {w wr : World} {G Gr : Gh} {V : Vw} {F : Fx} {sf cap : Nat} {PL : List PE} {l1 l2 lp : List UInt8} {go : Option Nat} (h : PT w G V F sf cap wr Gr PL l1 l2 lp go) {x : List UInt8} (hl : x.length < 256) (hx : Maps.has V.S (.string x) = true) :
    ∃ c : Nat, c < 4294967296 ∧ (Instr.lookup 114 (.map (some G.sm)) (encStr x) true).run Tryz.prog wr = .ok (.tuple #[.int .u32 (c : Int), .bool true]) wr := by
  have e1 : Gr.S = V.S := congrArg Vw.S h.v
  obtain ⟨c, h1, _, h3⟩ := h.R.wi.symLook ⟨x.toArray⟩ (by show x.toArray.size < _; simpa using hl) (by rw [e1]; simpa using hx)
  rw [h.R.nx.sm] at h1
  exact ⟨c, h3, h1⟩

/-- The names of a batch, as they are gathered. -/
structure B4 (w0 : World) (G0 : Gh) (V : Vw) (F : Fx) (sf cap g no : Nat) (wr : World) (Gr : Gh) (PL : List PE) (l1 l2 lp : List UInt8) (go : Option Nat) (NM BN : List (List UInt8)) (v : Value) : Prop where
  P : PT w0 G0 V F sf cap wr Gr PL l1 l2 lp go
  N : NR w0 wr Gr V g no NM
  row : wr.ownsRow 0 9 1 v BN.length (BN.map encStr)
  rb : ∀ k, v.ownBlock = some k → w0.heap.size ≤ k ∧ Gr.T k = 0 ∧ k ≠ sf ∧ k ≠ g
  has : ∀ x ∈ BN, Maps.has V.L (.string x) = true
  gs : g ≠ sf

section
variable {w0 wr wa w' : World} {G0 Gr : Gh} {V : Vw} {F : Fx} {sf cap g no n : Nat} {PL : List PE} {l1 l2 lp : List UInt8} {go : Option Nat} {NM BN : List (List UInt8)} {v v' : Value} {x : List UInt8}
theorem NR.drew {nb : Nat} (h : NR w0 wr Gr V nb no NM) : NR w0 wr.drew Gr V nb no NM := ⟨h.c, h.t, h.lo, h.lt, h.has⟩
theorem B4.drew (h : B4 w0 G0 V F sf cap g no wr Gr PL l1 l2 lp go NM BN v) : B4 w0 G0 V F sf cap g no wr.drew Gr PL l1 l2 lp go NM BN v := ⟨h.P.drew, h.N.drew, h.row, h.rb, h.has, h.gs⟩
theorem PT.drewN (h : PT w0 G0 V F sf cap wr Gr PL l1 l2 lp go) (m : Nat) : PT w0 G0 V F sf cap (wr.drewN m) Gr PL l1 l2 lp go := by
  have k : Kept (fun _ _ => False) wr (wr.drewN m) := ⟨rfl, rfl, rfl, Nat.le_refl _, fun _ _ _ _ => rfl, fun _ _ _ => rfl, fun _ _ _ => rfl⟩
  have hw := h.R.wi.kept k (fun _ _ _ => False.elim)
  refine ⟨h.R.trans ⟨hw, Nx.refl _ _, k.mono (fun _ _ _ e => e.elim), Hp.none _ k⟩, h.v, h.lpl, h.pe, h.fc, h.tsf, h.sfl, ⟨h.sy.c0, h.sy.c1, h.sy.c3, h.sy.c4, h.sy.f3, h.sy.f4, h.sy.c2⟩, h.tsb, h.sbl, h.c0, h.t0, h.l0, h.cf, h.tb, h.bl⟩
theorem NR.drewN {nb : Nat} (h : NR w0 wr Gr V nb no NM) (m : Nat) : NR w0 (wr.drewN m) Gr V nb no NM := ⟨h.c, h.t, h.lo, h.lt, h.has⟩
theorem B4.drewN (h : B4 w0 G0 V F sf cap g no wr Gr PL l1 l2 lp go NM BN v) (m : Nat) : B4 w0 G0 V F sf cap g no (wr.drewN m) Gr PL l1 l2 lp go NM BN v := ⟨h.P.drewN m, h.N.drewN m, h.row, h.rb, h.has, h.gs⟩
theorem B4.tail (h : B4 w0 G0 V F sf cap g no wr Gr PL l1 l2 lp go (x :: NM) BN v) : B4 w0 G0 V F sf cap g (no + 1) wr Gr PL l1 l2 lp go NM BN v := ⟨h.P, h.N.tail, h.row, h.rb, h.has, h.gs⟩
theorem B4.any (h : B4 w0 G0 V F sf cap g no wr Gr PL l1 l2 lp go [] BN v) (no' : Nat) : B4 w0 G0 V F sf cap g no' wr Gr PL l1 l2 lp go [] BN v := ⟨h.P, ⟨fun i x hi => by simp at hi, h.N.t, h.N.lo, h.N.lt, fun x hx => by simp at hx⟩, h.row, h.rb, h.has, h.gs⟩
/-- The batch begins. -/
theorem B4.start (h : PT w0 G0 V F sf cap wr Gr PL l1 l2 lp go) (hn : NR w0 wr Gr V g no NM) (hg : g ≠ sf) : ∃ G', B4 w0 G0 V F sf cap g no (wr.alloc (.cells #[] 9)) G' PL l1 l2 lp go NM [] (.slice (some ⟨wr.heap.size, 0, none⟩) 0 0) := by
  have k : Kept (fun _ _ => False) wr (wr.alloc (.cells #[] 9)) := Kept.alloc _ _ _
  obtain ⟨G', p', tn, tO⟩ := h.loc k (fun _ _ _ => False.elim)
  have hsf : sf < wr.heap.size := World.block_lt_of_cell? _ _ h.fc
  have hgl := hn.lt
  refine ⟨G', p', hn.blk (k.block g hgl (fun _ => id)) (tO g hgl) k.size, ?_, fun i e => ?_, (fun x hx => by cases hx), hg⟩
  · exact ⟨rfl, .inr ⟨wr.heap.size, 0, #[], rfl, Nat.zero_le _, (MapKept.heap_alloc wr (.cells #[] 9)).1, Nat.le_refl _, by unfold maxLen; omega, rfl, rfl⟩⟩
  · obtain rfl : wr.heap.size = i := Option.some.inj e
    exact ⟨h.R.kp.size, tn _ (Nat.le_refl _), by omega, by omega⟩
theorem B4.push (h : B4 w0 G0 V F sf cap g no wr Gr PL l1 l2 lp go NM BN v) (hx : Maps.has V.L (.string x) = true) (ka : Kept (fun _ _ => False) wr wa) (hn : n = BN.length) (ha : App wa w' 9 1 v v' (n + 1) (BN.map encStr ++ [encStr x])) :
    ∃ G', B4 w0 G0 V F sf cap g no w' G' PL l1 l2 lp go NM (BN ++ [x]) v' := by
  subst hn
  have hrow := ownsRow_block h.row (w' := wa) (fun k e => ka.block k (h.row.lt k e).2 (fun _ => id))
  have hk := (ka.mono (Q := fun k _ => v.ownBlock = some k) (fun _ _ _ => False.elim)).trans (ha.kept hrow) (fun _ _ _ h => h)
  obtain ⟨G', p', tn, tO⟩ := h.P.loc hk (fun k o _ e => ⟨(h.rb k e).1, (h.rb k e).2.1, (h.rb k e).2.2.1⟩)
  have hbl : ∀ k, k < wr.heap.size → v.ownBlock ≠ some k → w'.heap[k]? = wr.heap[k]? := fun k hk' hne => hk.block k hk' (fun _ hp => hne hp)
  have hw0 : w0.heap.size ≤ wr.heap.size := h.P.R.kp.size
  have hwa := ka.size
  have hsf : sf < wr.heap.size := World.block_lt_of_cell? _ _ h.P.fc
  have hgl := h.N.lt
  refine ⟨G', p', h.N.blk (hbl g hgl (fun e => (h.rb g e).2.2.2 rfl)) (tO g hgl) hk.size, by simpa using ha.own, fun k e => ?_, fun y hy => ?_, h.gs⟩
  · rcases ha.mv with e1 | ⟨g2, e1, hg2⟩
    · have e' := e1.symm.trans e
      have h1 := h.rb k e'
      exact ⟨h1.1, (tO k (h.row.lt k e').2).trans h1.2.1, h1.2.2⟩
    · obtain rfl : g2 = k := Option.some.inj (e1.symm.trans e)
      exact ⟨by omega, tn _ (by omega), by omega, by omega⟩
  · rcases List.mem_append.1 hy with hy | hy
    · exact h.has y hy
    · obtain rfl := List.mem_singleton.1 hy; exact hx
end

end Go.Proofs.YtfipfoplmopkaaaGreatDoor

namespace Go.Proofs.YtfipfoplmopkaaaGreatDoor
open Go.RowKit Go.Maps

theorem Kept.drewN (P : Nat → Nat → Prop) (w : World) (n : Nat) : Kept P w (w.drewN n) := ⟨rfl, rfl, rfl, Nat.le_refl _, fun _ _ _ _ => rfl, fun _ _ _ => rfl, fun _ _ _ => rfl⟩
theorem WI.drewN {w : World} {G : Gh} (h : WI w G) (n : Nat) : WI (w.drewN n) G := h.kept (Kept.drewN (fun _ _ => False) _ _) (fun _ _ _ => False.elim)
theorem Reach.drewN {w w1 : World} {G G1 : Gh} (h : Reach w G w1 G1) (n : Nat) : Reach w G (w1.drewN n) G1 := h.trans ⟨h.wi.drewN n, Nx.refl _ _, Kept.drewN _ _ _, Hp.none _ (Kept.drewN _ _ _)⟩

/-- symbolCache[s], with 'ok'. -/
theorem WI.symOk {w : World} {G : Gh} (h : WI w G) (s : ByteArray) (hs : s.size < 256) :
    ∃ c : Nat, c < 4294967296 ∧ G.S.atKey (.string s.data.toList) (.lit (.int .u32 0)) = .lit (.int .u32 (c : Int)) ∧ ∀ m, (Instr.lookup 114 (.map (some G.sm)) (.string s) true).run Tryz.prog (w.drewN m) = .ok (.tuple #[.int .u32 (c : Int), .bool (Maps.has G.S (.string s.data.toList))]) (w.drewN m) := by
  have key : ∀ w, WI w G → ∃ c : Nat, c < 4294967296 ∧ G.S.atKey (.string s.data.toList) (.lit (.int .u32 0)) = .lit (.int .u32 (c : Int)) ∧ (Instr.lookup 114 (.map (some G.sm)) (.string s) true).run Tryz.prog w = .ok (.tuple #[.int .u32 (c : Int), .bool (Maps.has G.S (.string s.data.toList))]) w := by
    intro w h
    obtain ⟨v, ps, h1, h2⟩ := h.s.look_ok keyS Tryz.underlying114 (z := .int .u32 0) (by kernel_rfl) (plainElem_int Tryz.underlying94 (by decide)) (WideMaps.keyOf_string_mk Tryz.underlying9 (by unfold maxLen; omega : s.size ≤ maxLen))
    obtain ⟨c, rfl, h3, h4⟩ := plainElem_int_inv Tryz.underlying94 h2
    have h5 : 0 ≤ c ∧ c < 4294967296 := by
      have e1 : IntKind.u32.min = 0 := rfl
      have e2 : IntKind.u32.max = 4294967295 := rfl
      simp [Lit.wf, e1, e2] at h4
      omega
    refine ⟨c.toNat, by omega, ?_, ?_⟩
    · rw [show ((c.toNat : Nat) : Int) = c by omega]; exact congrArg Prod.fst h3
    · rw [h1, show ((c.toNat : Nat) : Int) = c by omega]
  obtain ⟨c, h1, h2, _⟩ := key w h
  refine ⟨c, h1, h2, fun m => ?_⟩
  obtain ⟨c', _, h4, h5⟩ := key (w.drewN m) (h.drewN m)
  rw [h2] at h4
  cases h4
  exact h5

/-- labelNames[s]. -/
theorem WI.lnAt {w : World} {G : Gh} (h : WI w G) (s : ByteArray) (hs : s.size < 256) (c : Nat) (hc : G.L.atKey (.string s.data.toList) (.lit (.int .u64 0)) = .lit (.int .u64 (c : Int))) :
    (Instr.lookup 116 (.map (some G.lm)) (.string s) false).run Tryz.prog w = .ok (.int .u64 (c : Int)) w := by
  obtain ⟨c', hr', ha', _⟩ := h.l.lookup_int keyS Tryz.underlying116 Tryz.underlying32 (by kernel_rfl) (WideMaps.keyOf_string_mk Tryz.underlying9 (by unfold maxLen; omega : s.size ≤ maxLen))
  rw [hc] at ha'
  cases ha'
  exact hr'

theorem wf_u64 {n : Nat} (h : n < 18446744073709551616) : (Lit.int .u64 (n : Int)).wf = true := by
  have h1 : IntKind.u64.min = 0 := rfl
  have h2 : IntKind.u64.max = 18446744073709551615 := rfl
  simp [Lit.wf, h1, h2]; omega

set_option maxRecDepth 100000 in
set_option maxHeartbeats 4000000 in
theorem cl62_good (w : World) (G : Gh) (V : Vw) (wx : Nat) (X Y : ByteArray) (hG : WI w G) (hV : G.v = V) (hbox : w.cell? ⟨wx, 0, none⟩ = some (.pointer (some ⟨G.wb, 0, none⟩))) (hT : G.T wx = 0)
    (hX : X.size < 256) (hY : Y.size < 256) (hl2 : V.l2.length < 100000000) (hnl : V.nl < 100000) (cx cy c : Nat) (yb : Bool) (hx1 : Maps.has V.S (.string X.data.toList) = true) (hy1 : Maps.has V.S (.string Y.data.toList) = yb)
    (hcx : V.S.atKey (.string X.data.toList) (.lit (.int .u32 0)) = .lit (.int .u32 (cx : Int))) (hcy : V.S.atKey (.string Y.data.toList) (.lit (.int .u32 0)) = .lit (.int .u32 (cy : Int))) (hc : V.L.atKey (.string X.data.toList) (.lit (.int .u64 0)) = .lit (.int .u64 (c : Int))) (hc9 : c < 100000) :
    Calls Tryz.prog 62 #[.agg #[.string X, .string Y], .pointer (some ⟨wx, 0, none⟩)] w (fun e w' => (yb = true ∧ StE w G { V with l2 := V.l2 ++ (Lib.uvarint cx ++ Lib.uvarint cy), nl := V.nl + 1, L := V.L.put (.string X.data.toList) (.lit (.int .u64 ((c : Int) + 1))) } e w') ∨ (yb = false ∧ (∃ t v, e = .returned (.iface t v)) ∧ ∃ G', Reach w G w' G')) := by
  have hwx := World.block_lt_of_cell? _ _ hbox
  obtain ⟨w1, hw1⟩ : ∃ w1, w1 = w.alloc (.cells #[.string X, .string Y] 130) := ⟨_, rfl⟩
  obtain ⟨xb, hxb⟩ : ∃ xb, xb = w.heap.size := ⟨_, rfl⟩
  obtain ⟨G1, r1, v1, t1, t1'⟩ := (Reach.refl hG).newv hV (.cells #[.string X, .string Y] 130)
  rw [← hw1] at r1
  rw [← hxb] at t1
  have b1 : w1.cell? ⟨wx, 0, none⟩ = some (.pointer (some ⟨G.wb, 0, none⟩)) := by rw [hw1, World.cell?_alloc_old _ _ _ (Nat.ne_of_lt hwx)]; exact hbox
  have tx1 : G1.T wx = 0 := (t1' _ hwx).trans hT
  have x1 : w1.cell? ⟨xb, 0, none⟩ = some (.string X) := by rw [hw1, hxb, World.cell?_alloc_new]; rfl
  have x2 : w1.cell? ⟨xb, 1, none⟩ = some (.string Y) := by rw [hw1, hxb, World.cell?_alloc_new]; rfl
  have hxl : xb < w1.heap.size := World.block_lt_of_cell? _ _ x1
  have hwl : wx < w1.heap.size := World.block_lt_of_cell? _ _ b1
  have HW1 := Lib.hid hw1
  have HXB := Lib.hid hxb
  have R1 := Lib.hid r1
  have V1 := Lib.hid v1
  have HL2 := Lib.hid hl2
  have HNL := Lib.hid hnl
  have eS : G1.S = V.S := congrArg Vw.S v1
  obtain ⟨cx', lcx, ecx, LX⟩ := r1.wi.symOk X hX
  rw [eS, hcx] at ecx
  cases ecx
  obtain ⟨cy', lcy, ecy, LY⟩ := r1.wi.symOk Y hY
  rw [eS, hcy] at ecy
  cases ecy
  rw [r1.nx.sm, eS, hx1] at LX
  rw [eS, hy1] at LY
  have m1 := R1.out.c38
  have HCX := Lib.hid hcx
  have HCY := Lib.hid hcy
  have HY1 := Lib.hid hy1
  have HC := Lib.hid hc
  clear hw1 hxb r1 v1 hl2 hnl hG hV hbox hT hwx hx1 hy1 hcx hcy hc LY eS t1'
  go_enter Tryz.func62, Tryz.ntmps62
  go_wp2_with fail
  simp only [← HW1.out, ← HXB.out]
  go_quiet (fail)
  have R2 := Lib.hid (R1.out.drewN nq)
  change Exit.then _ _ _ _ (w1.drewN nq)
  have b2 : (w1.drewN nq).cell? ⟨wx, 0, none⟩ = _ := b1
  have x3 : (w1.drewN nq).cell? ⟨xb, 0, none⟩ = _ := x1
  have x4 : (w1.drewN nq).cell? ⟨xb, 1, none⟩ = _ := x2
  have hxl2 : xb < (w1.drewN nq).heap.size := hxl
  have hwl2 : wx < (w1.drewN nq).heap.size := hwl
  clear b1 x1 x2 hxl hwl m1 LX HW1 HXB R1
  generalize w1.drewN nq = w2 at *
  have m2 := R2.out.c40
  have LN := R2.out.drew.wi.lnAt X hX c (by rw [show G1.L = V.L from congrArg Vw.L V1.out]; exact HC.out)
  rw [R2.out.nx.lm] at LN
  go_wp2_with fail
  go_still_tail 8, (by kernel_rfl)
  have hm := R2.out.drew.wi.l
  rw [R2.out.nx.lm, show G1.nl = V.nl from congrArg Vw.nl V1.out, show G1.L = V.L from congrArg Vw.L V1.out] at hm
  have HM := Lib.hid hm
  have hwf : (plainElem (H := Unit) Tryz.prog 32) (.int .u64 (IntKind.u64.wrap ((c : Int) + 1))) = some (.lit (.int .u64 ((c : Int) + 1)), []) := by
    rw [show IntKind.u64.wrap ((c : Int) + 1) = ((c + 1 : Nat) : Int) by rw [IntKind.wrap_u64]; omega, show (c : Int) + 1 = ((c + 1 : Nat) : Int) by omega]
    exact plainElem_int Tryz.underlying32 (wf_u64 (by omega))
  have HWF := Lib.hid hwf
  have HKEY := Lib.hid (WideMaps.keyOf_string_mk (P := Tryz.prog) (s := X) Tryz.underlying9 (by unfold maxLen; omega))
  have HNM : Hid (V.nl < maxLen) := Lib.hid (by have := HNL.out; unfold maxLen; omega)
  clear hm hwf LN
  go_wp2_with (at_mapUpdate; refine wpList_mapUpdate_in _ rfl _ _ _ 116 rfl 9 32 keyS Tryz.underlying116 (plainElem Tryz.prog 32) G.lm V.nl V.L rfl HM.out HNM.out _ _ (.string X.data.toList) rfl rfl HKEY.out (.lit (.int .u64 ((c : Int) + 1))) [] HWF.out ?_)
  intro w3 ho ht
  rw [← R2.out.nx.lm] at ho ht
  have r3 := R2.out.drew.wi.lnr ho ht
  obtain ⟨G3, hG3⟩ : ∃ G3, G3 = G1.ln (V.nl + 1) (V.L.put (.string X.data.toList) (.lit (.int .u64 ((c : Int) + 1)))) := ⟨_, rfl⟩
  rw [← hG3] at r3
  have v3 : G3.v = { V with nl := V.nl + 1, L := V.L.put (.string X.data.toList) (.lit (.int .u64 ((c : Int) + 1))) } := by
    rw [hG3, ← V1.out]; rfl
  have b3 := (KT.cell r3.kp hwl2 tx1 0).trans b2
  have x5 := (KT.cell r3.kp hxl2 t1 0).trans x3
  have x6 := (KT.cell r3.kp hxl2 t1 1).trans x4
  have tx3 : G3.T wx = 0 := (r3.nx.T _ hwl2).trans tx1
  have t3 : G3.T xb = 0 := (r3.nx.T _ hxl2).trans t1
  have hwl3 : wx < w3.heap.size := Nat.lt_of_lt_of_le hwl2 r3.kp.size
  have hxl3 : xb < w3.heap.size := Nat.lt_of_lt_of_le hxl2 r3.kp.size
  have R3 := Lib.hid (R2.out.drew.trans r3)
  have V3 := Lib.hid v3
  clear ho ht r3 hG3 v3 b2 x3 x4 tx1 t1 hwl2 hxl2 m2 HM HWF V1 R2
  go_wp2_with fail
  refine (R3.out.u32_2s V3.out cx (by have := HL2.out; show V.l2.length < _; omega) lcx).mono ?_
  rintro e w4 ⟨rfl, G4, r4, v4, s4⟩
  have b4 := (KT.cell s4.kp hwl3 tx3 0).trans b3
  have x7 := (KT.cell s4.kp hxl3 t3 0).trans x5
  have x8 := (KT.cell s4.kp hxl3 t3 1).trans x6
  have m4 := r4.c38
  have eS4 : G4.S = V.S := congrArg Vw.S v4
  obtain ⟨cy', _, ecy, LY⟩ := r4.wi.symOk Y hY
  rw [eS4, HCY.out] at ecy
  cases ecy
  rw [r4.nx.sm, eS4, HY1.out] at LY
  have R4 := Lib.hid r4
  have V4 := Lib.hid v4
  have B4 := Lib.hid b4
  have HU := Lib.hid (Lib.uvarint_length64 (x := cx) (by omega))
  clear b3 x5 x6 tx3 t3 hwl3 hxl3 r4 v4 s4 R3 V3 eS4
  go_wp2_with fail
  go_quiet (fail)
  have R5 := Lib.hid (R4.out.drewN nq)
  clear LY m4 b4 x7 x8 R4
  change Exit.then _ _ _ _ (w4.drewN nq)
  have b5 : (w4.drewN nq).cell? ⟨wx, 0, none⟩ = some (.pointer (some ⟨G.wb, 0, none⟩)) := B4.out
  generalize w4.drewN nq = w5 at *
  cases yb with
  | true =>
    go_wp2_with fail
    refine (R5.out.u32_2s V4.out cy (by have := HL2.out; have := HU.out; simp only [List.length_append]; omega) lcy).mono ?_
    rintro e w6 ⟨rfl, G6, r6, v6, s6⟩
    have R6 := Lib.hid r6
    have V6 := Lib.hid v6
    clear r6 v6 s6
    go_wp2_with fail
    go_ret
    exact ⟨rfl, G6, R6.out, by rw [V6.out, List.append_assoc]⟩
  | false =>
    go_wp2_with fail
    refine (errNew_any _ _).mono ?_
    rintro e w6 ⟨t, v, rfl, k6⟩
    have K6 := Lib.hid k6
    clear k6
    go_wp2_with fail
    go_ret
    exact ⟨⟨t, v, rfl⟩, G4, R5.out.trans ⟨R5.out.wi.kept K6.out (fun _ _ _ => False.elim), Nx.refl _ _, K6.out.mono (fun _ _ _ => False.elim), Hp.none _ K6.out⟩⟩

set_option maxRecDepth 100000 in
set_option maxHeartbeats 4000000 in
theorem cl62_bad (w : World) (G : Gh) (V : Vw) (wx : Nat) (X Y : ByteArray) (hG : WI w G) (hV : G.v = V) (hbox : w.cell? ⟨wx, 0, none⟩ = some (.pointer (some ⟨G.wb, 0, none⟩)))
    (hX : X.size < 256) (hx1 : Maps.has V.S (.string X.data.toList) = false) :
    Calls Tryz.prog 62 #[.agg #[.string X, .string Y], .pointer (some ⟨wx, 0, none⟩)] w (fun e w' => (∃ t v, e = .returned (.iface t v)) ∧ ∃ G', Reach w G w' G') := by
  have hwx := World.block_lt_of_cell? _ _ hbox
  obtain ⟨w1, hw1⟩ : ∃ w1, w1 = w.alloc (.cells #[.string X, .string Y] 130) := ⟨_, rfl⟩
  obtain ⟨xb, hxb⟩ : ∃ xb, xb = w.heap.size := ⟨_, rfl⟩
  have r1 := (Reach.refl hG).alloc (.cells #[.string X, .string Y] 130)
  rw [← hw1] at r1
  have b1 : w1.cell? ⟨wx, 0, none⟩ = some (.pointer (some ⟨G.wb, 0, none⟩)) := by rw [hw1, World.cell?_alloc_old _ _ _ (Nat.ne_of_lt hwx)]; exact hbox
  have x1 : w1.cell? ⟨xb, 0, none⟩ = some (.string X) := by rw [hw1, hxb, World.cell?_alloc_new]; rfl
  have HW1 := Lib.hid hw1
  have HXB := Lib.hid hxb
  have R1 := Lib.hid r1
  have eS : G.S = V.S := congrArg Vw.S hV
  obtain ⟨cx, _, _, LX⟩ := r1.wi.symOk X hX
  rw [eS, hx1] at LX
  have m1 := R1.out.c38
  clear hw1 hxb r1 hG hV hbox hwx hx1 eS
  go_enter Tryz.func62, Tryz.ntmps62
  go_wp2_with fail
  simp only [← HW1.out, ← HXB.out]
  go_quiet (fail)
  have R2 := Lib.hid (R1.out.drewN nq)
  clear b1 x1 m1 LX HW1 HXB R1
  generalize w1.drewN nq = w2 at *
  go_wp2_with fail
  refine (errNew_any _ _).mono ?_
  rintro e w6 ⟨t, v, rfl, k6⟩
  have K6 := Lib.hid k6
  clear k6
  go_wp2_with fail
  go_ret
  exact ⟨⟨t, v, rfl⟩, G, R2.out.trans ⟨R2.out.wi.kept K6.out (fun _ _ _ => False.elim), Nx.refl _ _, K6.out.mono (fun _ _ _ => False.elim), Hp.none _ K6.out⟩⟩

end Go.Proofs.YtfipfoplmopkaaaGreatDoor

namespace Go.Proofs.YtfipfoplmopkaaaGreatDoor
open Go.RowKit Go.Maps

/-- Every word of the labels is a symbol. -/
def AllS (S : DataW Unit) (ls : List Lab) : Prop := ∀ x ∈ ls, Maps.has S (.string x.1.data.toList) = true ∧ Maps.has S (.string x.2.data.toList) = true
/-- The symbols' numbers are below n. -/
def SN (S : DataW Unit) (n : Nat) : Prop := ∀ l : List UInt8, Maps.has S (.string l) = true → ∃ c : Nat, c < n ∧ S.atKey (.string l) (.lit (.int .u32 0)) = .lit (.int .u32 (c : Int))
/-- The label names: how often each one stands in the series. -/
def LNB (L S : DataW Unit) (B : List UInt8 → Nat) : Prop :=
  ∀ l : List UInt8, Maps.has L (.string l) = true → l.length < 256 ∧ Maps.has S (.string l) = true ∧ ∃ c : Nat, c ≤ B l ∧ ∀ z, L.atKey (.string l) z = .lit (.int .u64 (c : Int))

theorem AscL.lt {ls : List Lab} (h : AscL ls) : ∀ (j i : Nat) (hj : j < ls.length) (hi : i < j), (ls[i]'(by omega)).1.data.toList < (ls[j]'hj).1.data.toList
  | 0, i, _, hi => by omega
  | j + 1, i, hj, hi => by
    have h1 := h j hj
    by_cases e : i = j
    · subst e; exact h1
    · exact List.lt_trans (h.lt j i (by omega) (by omega)) h1

theorem AscL.new {ls : List Lab} (h : AscL ls) {k : Nat} (hk : k < ls.length) : (ls[k]'hk).1.data.toList ∉ (ls.take k).map (fun x => x.1.data.toList) := by
  intro hm
  simp only [List.mem_map] at hm
  obtain ⟨x, hx, e⟩ := hm
  obtain ⟨i, hi, rfl⟩ := List.getElem_of_mem hx
  rw [List.length_take] at hi
  rw [List.getElem_take] at e
  have := h.lt k i hk (by omega)
  rw [e] at this
  exact List.lt_irrefl _ this

theorem keyLit (l : List UInt8) : WideAt.IsKeyLit (.string l) := by trivial

theorem LNB.put {L S : DataW Unit} {B B' : List UInt8 → Nat} (h : LNB L S B) (hm : IsMap L) (x : List UInt8) (hx : x.length < 256) (hs : Maps.has S (.string x) = true) (c : Nat) (hc : L.atKey (.string x) (.lit (.int .u64 0)) = .lit (.int .u64 (c : Int))) (hB : ∀ l, l ≠ x → B l ≤ B' l) (hBx : B x + 1 ≤ B' x) :
    LNB (L.put (.string x) (.lit (.int .u64 ((c : Int) + 1)))) S B' := by
  intro l hl
  by_cases e : l = x
  · subst e
    refine ⟨hx, hs, c + 1, ?_, fun z => by rw [atKey_put_same hm (keyLit l)]; simp⟩
    by_cases hh : Maps.has L (.string l) = true
    · obtain ⟨_, _, c', hc', ha⟩ := h l hh
      rw [ha] at hc
      cases hc
      omega
    · rw [atKey_of_not_has (by simpa using hh)] at hc
      have : (c : Int) = 0 := by injection hc with h1; injection h1 with _ h2; exact h2.symm
      omega
  · have hne : (Lit.string l) ≠ (.string x) := fun h => e (by injection h)
    rw [has_put_other hne] at hl
    obtain ⟨h1, h2, c', h3, h4⟩ := h l hl
    exact ⟨h1, h2, c', Nat.le_trans h3 (hB l e), fun z => by rw [atKey_put_other hne]; exact h4 z⟩

def LN (L S : DataW Unit) (m : Nat) : Prop := LNB L S (fun _ => m)
def LNk (L S : DataW Unit) (m : Nat) (ls : List Lab) (k : Nat) : Prop := LNB L S (fun l => m + if l ∈ (ls.take k).map (fun x => x.1.data.toList) then 1 else 0)

theorem LNk.zero {L S : DataW Unit} {m : Nat} {ls : List Lab} (h : LN L S m) : LNk L S m ls 0 := by
  intro l hl
  obtain ⟨h1, h2, c, h3, h4⟩ := h l hl
  exact ⟨h1, h2, c, Nat.le_trans h3 (Nat.le_add_right _ _), h4⟩
theorem LNk.fin {L S : DataW Unit} {m k : Nat} {ls : List Lab} (h : LNk L S m ls k) : LN L S (m + 1) := by
  intro l hl
  obtain ⟨h1, h2, c, h3, h4⟩ := h l hl
  refine ⟨h1, h2, c, ?_, h4⟩
  show c ≤ m + 1
  have h5 : c ≤ m + (if l ∈ (ls.take k).map (fun x => x.1.data.toList) then 1 else 0) := h3
  split at h5 <;> omega
theorem LNk.step {L S : DataW Unit} {m k : Nat} {ls : List Lab} (h : LNk L S m ls k) (hm : IsMap L) (ha : AscL ls) (hk : k < ls.length) (hx : (ls[k]'hk).1.data.toList.length < 256) (hs : Maps.has S (.string (ls[k]'hk).1.data.toList) = true) (c : Nat) (hc : L.atKey (.string (ls[k]'hk).1.data.toList) (.lit (.int .u64 0)) = .lit (.int .u64 (c : Int))) :
    LNk (L.put (.string (ls[k]'hk).1.data.toList) (.lit (.int .u64 ((c : Int) + 1)))) S m ls (k + 1) := by
  refine LNB.put h hm _ hx hs c hc (fun l hne => ?_) ?_
  · rw [List.take_succ_eq_append_getElem hk, List.map_append]
    simp only [List.mem_append, List.map_cons, List.map_nil, List.mem_singleton, hne, or_false]
    exact Nat.le_refl _
  · rw [if_neg (ha.new hk), List.take_succ_eq_append_getElem hk, List.map_append]
    simp

theorem pairsB_snoc (ps : List (Nat × Nat)) (p : Nat × Nat) : pairsB (ps ++ [p]) = pairsB ps ++ (Lib.uvarint p.1 ++ Lib.uvarint p.2) := by
  simp [pairsB, pairB]
theorem pairsB_len (ps : List (Nat × Nat)) (n : Nat) (hn : n ≤ 4294967296) (h : ∀ p ∈ ps, p.1 < n ∧ p.2 < n) : (pairsB ps).length ≤ 20 * ps.length := by
  induction ps with
  | nil => simp [pairsB]
  | cons p t ih =>
    have h1 := h p (by simp)
    have h2 := ih (fun q hq => h q (by simp [hq]))
    have u1 := Lib.uvarint_length64 (x := p.1) (by omega)
    have u2 := Lib.uvarint_length64 (x := p.2) (by omega)
    rw [pairsB_cons]
    simp only [List.length_append, List.length_cons]
    omega

/-- What Validate leaves. -/
def VR (w : World) (G : Gh) (V : Vw) (ls : List Lab) (nS m : Nat) (w' : World) : Prop :=
  ∃ G' ps L', Reach w G w' G' ∧ G'.v = { V with l2 := V.l2 ++ pairsB ps, nl := V.nl + ls.length, L := L' } ∧ ps.length = ls.length ∧ (∀ p ∈ ps, p.1 < nS ∧ p.2 < nS) ∧ LN L' V.S (m + 1)

structure VI (w : World) (G : Gh) (V : Vw) (wx gb : Nat) (D : ByteArray) (ls : List Lab) (nS m k : Nat) (wr : World) (Gr : Gh) (ps : List (Nat × Nat)) (L : DataW Unit) : Prop where
  R : Reach w G wr Gr
  v : Gr.v = { V with l2 := V.l2 ++ pairsB ps, nl := V.nl + k, L := L }
  n : ps.length = k
  p : ∀ p ∈ ps, p.1 < nS ∧ p.2 < nS
  ln : LNk L V.S m ls k
  b : wr.cell? ⟨wx, 0, none⟩ = some (.pointer (some ⟨G.wb, 0, none⟩))
  tb : Gr.T wx = 0
  d : wr.cell? ⟨gb, 0, none⟩ = some (.string D)
  td : Gr.T gb = 0
  s : ∀ i (_ : i < k) (h2 : i < ls.length), Maps.has V.S (.string (ls[i]'h2).1.data.toList) = true ∧ Maps.has V.S (.string (ls[i]'h2).2.data.toList) = true

set_option maxHeartbeats 2000000 in
theorem val_any (w : World) (G : Gh) (V : Vw) (wx : Nat) (D : ByteArray) (ls : List Lab) (hG : WI w G) (hV : G.v = V) (hbox : w.cell? ⟨wx, 0, none⟩ = some (.pointer (some ⟨G.wb, 0, none⟩))) (hT : G.T wx = 0) (hD : LD D (fsL ls)) (hl : LOK ls) (ha : AscL ls) (nS : Nat) (hnS : nS ≤ 4294967296) (hSN : SN V.S nS) (m : Nat) (hm : m < 1000) (hLN : LN V.L V.S m) (hl2 : V.l2.length < 1000000) (hnl : V.nl < 10000) :
    Calls Tryz.prog 61 #[.agg #[.string D], .func (.func 62) #[] #[.pointer (some ⟨wx, 0, none⟩)]] w (fun e w' => (e = .returned .nilIface ∧ AllS V.S ls ∧ VR w G V ls nS m w') ∨ ((∃ t v, e = .returned (.iface t v)) ∧ ¬ AllS V.S ls ∧ ∃ G', Reach w G w' G')) := by
  have hwx : wx < w.heap.size := World.block_lt_of_cell? _ _ hbox
  obtain ⟨G1, r1, v1, t1, t1'⟩ := (Reach.refl hG).newv hV (.cells #[.string D] 73)
  refine (validate_any D ls hD (.pointer (some ⟨wx, 0, none⟩)) (fun k wr => ∃ Gr ps L, VI w G V wx w.heap.size D ls nS m k wr Gr ps L) (fun w' => ¬ AllS V.S ls ∧ ∃ G', Reach w G w' G') ?_ w ⟨G1, [], V.L, r1, by rw [v1]; simp [pairsB], rfl, fun p hp => by simp at hp, LNk.zero hLN, ?_, (t1' _ hwx).trans hT, by rw [World.cell?_alloc_new]; rfl, t1, fun i h => by omega⟩ (fun k w' ⟨Gr, ps, L, h⟩ => h.d)).mono ?_
  · intro k hk X Y wr hX hY ⟨Gr, ps, L, h⟩
    have hxa := hl.a _ (List.getElem_mem hk)
    have eX : X.size = (ls[k]'hk).1.size := by have := congrArg List.length hX; simpa using this
    have eY : Y.size = (ls[k]'hk).2.size := by have := congrArg List.length hY; simpa using this
    have hk9 : k ≤ 12 := by have := hl.n; omega
    have hbox' : wr.cell? ⟨wx, 0, none⟩ = some (.pointer (some ⟨Gr.wb, 0, none⟩)) := by rw [h.R.nx.wb]; exact h.b
    have hlen := pairsB_len ps nS hnS h.p
    rw [h.n] at hlen
    cases hx1 : Maps.has V.S (.string X.data.toList) with
    | false =>
      refine (cl62_bad wr Gr _ wx X Y h.R.wi h.v hbox' (by omega) (by simpa using hx1)).mono ?_
      rintro e w' ⟨he, G', r⟩
      refine Or.inr ⟨he, fun hall => ?_, G', h.R.trans r⟩
      have := (hall _ (List.getElem_mem hk)).1
      rw [← hX, hx1] at this
      cases this
    | true =>
      obtain ⟨cx, hcx9, hcx⟩ := hSN _ hx1
      have hcy : ∃ cy : Nat, V.S.atKey (.string Y.data.toList) (.lit (.int .u32 0)) = .lit (.int .u32 (cy : Int)) ∧ (Maps.has V.S (.string Y.data.toList) = true → cy < nS) := by
        cases hy1 : Maps.has V.S (.string Y.data.toList) with
        | true => obtain ⟨cy, h1, h2⟩ := hSN _ hy1; exact ⟨cy, h2, fun _ => h1⟩
        | false => exact ⟨0, atKey_of_not_has hy1 _, fun h => by cases h⟩
      obtain ⟨cy, hcy, hcy9⟩ := hcy
      have hc : ∃ c : Nat, c ≤ m + 1 ∧ L.atKey (.string X.data.toList) (.lit (.int .u64 0)) = .lit (.int .u64 (c : Int)) := by
        cases hh : Maps.has L (.string X.data.toList) with
        | true =>
          obtain ⟨_, _, c, h1, h2⟩ := h.ln _ hh
          refine ⟨c, ?_, h2 _⟩
          have h1' : c ≤ m + (if X.data.toList ∈ (ls.take k).map (fun x => x.1.data.toList) then 1 else 0) := h1
          split at h1' <;> omega
        | false => exact ⟨0, by omega, atKey_of_not_has hh _⟩
      obtain ⟨c, hc9, hc⟩ := hc
      have hML : IsMap L := by
        have := h.R.wi.l.isMap
        rwa [show Gr.L = L from congrArg Vw.L h.v] at this
      refine (cl62_good wr Gr _ wx X Y h.R.wi h.v hbox' h.tb (by omega) (by omega) (by simp only [List.length_append]; omega) (by show V.nl + k < 100000; omega) cx cy c (Maps.has V.S (.string Y.data.toList)) hx1 rfl hcx hcy hc (by omega)).mono ?_
      rintro e w' (⟨hy1, he, G', r, v⟩ | ⟨hy1, he, G', r⟩)
      · refine Or.inl ⟨he, G', ps ++ [(cx, cy)], _, h.R.trans r, by rw [v, pairsB_snoc, List.append_assoc]; rfl, by simp [h.n], ?_, ?_, ?_, ?_, ?_, ?_, ?_⟩
        · intro p hp
          rcases List.mem_append.1 hp with hp | hp
          · exact h.p p hp
          · simp at hp; subst hp; exact ⟨hcx9, hcy9 hy1⟩
        · rw [hX] at hc hx1 ⊢
          exact h.ln.step hML ha hk (by simp; omega) hx1 c hc
        · exact (KT.cell r.kp (World.block_lt_of_cell? _ _ h.b) h.tb 0).trans h.b
        · exact (r.nx.T _ (World.block_lt_of_cell? _ _ h.b)).trans h.tb
        · exact (KT.cell r.kp (World.block_lt_of_cell? _ _ h.d) h.td 0).trans h.d
        · exact (r.nx.T _ (World.block_lt_of_cell? _ _ h.d)).trans h.td
        · intro i hi h2
          by_cases e : i = k
          · subst e; rw [← hX, ← hY]; exact ⟨hx1, hy1⟩
          · exact h.s i (by omega) h2
      · refine Or.inr ⟨he, fun hall => ?_, G', h.R.trans r⟩
        have := (hall _ (List.getElem_mem hk)).2
        rw [← hY, hy1] at this
        cases this
  · rw [World.cell?_alloc_old _ _ _ (Nat.ne_of_lt hwx)]; exact hbox
  · rintro e w' (⟨he, Gr, ps, L, h⟩ | ⟨he, hb⟩)
    · refine Or.inl ⟨he, fun x hx => ?_, Gr, ps, L, h.R, h.v, h.n, h.p, h.ln.fin⟩
      obtain ⟨i, hi, rfl⟩ := List.getElem_of_mem hx
      exact h.s i hi hi
    · exact Or.inr ⟨he, hb⟩

end Go.Proofs.YtfipfoplmopkaaaGreatDoor
