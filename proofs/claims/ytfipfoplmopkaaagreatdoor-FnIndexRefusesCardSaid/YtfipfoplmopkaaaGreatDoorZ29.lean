/- writePostingsToTmpFiles: what it keeps. Conditions: bounds on lengths. writePostingsToTmpFiles: what it asks, what its first loops keep. Conditions: bounds on lengths. -/
import Derived.Test.YtfipfoplmopkaaaGreatDoorZ28
import Derived.Test.YtfipfoplmopkaaaGreatDoorZ23
import Derived.Sort.OwnSorted
import Derived.Sort.KeysCollected
import Derived.Deep.LoopGhost

namespace Go.Proofs.YtfipfoplmopkaaaGreatDoor
open Go.RowKit Go.Maps

abbrev PE := ByteArray × ByteArray × Nat
def peOk (S : DataW Unit) (e : PE) : Prop := e.1.size < 256 ∧ e.2.1.size < 256 ∧ e.2.2 < 268435456 ∧ (e.1.size ≠ 0 → Maps.has S (.string e.2.1.data.toList) = true)
/-- The view behind the postings PL. -/
def ptV (V : Vw) (PL : List PE) (l1 l2 lp : List UInt8) (go : Option Nat) : Vw := { V with l1 := l1, l2 := l2, lp := lp, go := go, lo := pEs PL, cs := upd V.cs 3 (.int .u64 (PL.length : Nat)) }

theorem ptV_cs (V : Vw) (PL : List PE) (l1 l2 lp : List UInt8) (go : Option Nat) (i : Nat) (h : i ≠ 3) : (ptV V PL l1 l2 lp go).cs i = V.cs i := upd_other V.cs 3 i (.int .u64 (PL.length : Nat)) h
theorem ptV_3 (V : Vw) (PL : List PE) (l1 l2 lp : List UInt8) (go : Option Nat) : (ptV V PL l1 l2 lp go).cs 3 = .int .u64 (PL.length : Nat) := upd_same V.cs 3 (.int .u64 (PL.length : Nat))

/-- What lies fast: the symbols (their struct at sb, their bytes l0 in block b0) and the file's bytes in block b. -/
structure Fx where
  ss : List ByteArray
  sb : Nat
  b0 : Nat
  p0 : Nat
  c0 : Nat
  A : List UInt8
  B : List UInt8
  b : Nat
def Fx.l0 (F : Fx) : List UInt8 := F.A ++ (symB F.ss ++ F.B)

structure PT (w0 : World) (G0 : Gh) (V : Vw) (F : Fx) (sf cap : Nat) (wr : World) (Gr : Gh) (PL : List PE) (l1 l2 lp : List UInt8) (go : Option Nat) : Prop where
  R : Reach w0 G0 wr Gr
  v : Gr.v = ptV V PL l1 l2 lp go
  lpl : lp.length ≤ 900 * PL.length
  pe : ∀ e ∈ PL, peOk V.S e
  fc : wr.cell? ⟨sf, 0, none⟩ = some (.slice (some ⟨F.b, 0, none⟩) V.lf.length cap)
  tsf : Gr.T sf = 0
  sfl : w0.heap.size ≤ sf
  sy : SY (fun k => k < w0.heap.size ∧ k ≠ F.sb ∧ Gr.T k = 0) wr F.sb F.b0 F.p0 F.l0.length F.c0 F.ss F.ss.length
  tsb : Gr.T F.sb = 0
  sbl : F.sb < w0.heap.size
  c0 : ∀ j u, F.l0[j]? = some u → wr.cell? ⟨F.b0, 0 + j, none⟩ = some (bV u)
  t0 : Gr.T F.b0 = 11
  l0 : F.b0 < w0.heap.size
  cf : ∀ j u, V.lf[j]? = some u → wr.cell? ⟨F.b, 0 + j, none⟩ = some (bV u)
  tb : Gr.T F.b = 11
  bl : F.b < w0.heap.size

section
variable {w0 wr w' : World} {G0 Gr G' : Gh} {V : Vw} {F : Fx} {sf cap : Nat} {PL : List PE} {l1 l2 lp : List UInt8} {go : Option Nat}

theorem SY.blocks {A B : Nat → Prop} {w w' : World} {sb b p n c : Nat} {ss : List ByteArray} {j : Nat} (h : SY A w sb b p n c ss j) (hs : w'.heap[sb]? = w.heap[sb]?) (hA : ∀ k, A k → k < w.heap.size → w'.heap[k]? = w.heap[k]? ∧ B k) : SY B w' sb b p n c ss j := by
  obtain ⟨v, h1, h2, h3⟩ := h.c3
  have hc : ∀ o, w'.cell? ⟨sb, o, none⟩ = w.cell? ⟨sb, o, none⟩ := fun o => World.cell?_of_block (a := ⟨sb, o, none⟩) hs
  have hf : ∀ o, w'.frozen? ⟨sb, o, none⟩ = w.frozen? ⟨sb, o, none⟩ := fun o => World.frozen?_of_block (a := ⟨sb, o, none⟩) hs
  exact ⟨(hc _).trans h.c0, (hc _).trans h.c1, ⟨v, (hc _).trans h1, ownsRow_block h2 (fun k e => (hA k (h3 k e) (h2.lt k e).2).1), fun k e => (hA k (h3 k e) (h2.lt k e).2).2⟩, (hc _).trans h.c4, (hf _).trans h.f3, (hf _).trans h.f4, (hc _).trans h.c2⟩

theorem SY.sbl {A : Nat → Prop} {w : World} {sb b p n c : Nat} {ss : List ByteArray} {j : Nat} (h : SY A w sb b p n c ss j) : sb < w.heap.size := World.block_lt_of_cell? _ _ h.c4

/-- Local blocks are turned, and new ones laid. -/
theorem PT.loc (h : PT w0 G0 V F sf cap wr Gr PL l1 l2 lp go) {P : Nat → Nat → Prop} (hk : Kept P wr w') (hP : ∀ k o, k < wr.heap.size → P k o → w0.heap.size ≤ k ∧ Gr.T k = 0 ∧ k ≠ sf) :
    ∃ G', PT w0 G0 V F sf cap w' G' PL l1 l2 lp go ∧ (∀ k, wr.heap.size ≤ k → G'.T k = 0) ∧ ∀ k, k < wr.heap.size → G'.T k = Gr.T k := by
  obtain ⟨G', r', v', tn, tO⟩ := h.R.locv h.v hk (fun k o hk' hp => ⟨(hP k o hk' hp).1, (hP k o hk' hp).2.1⟩)
  have hsz : w0.heap.size ≤ wr.heap.size := h.R.kp.size
  have hlow : ∀ k, k < w0.heap.size → w'.heap[k]? = wr.heap[k]? := fun k hk0 => hk.block k (by omega) (fun o hp => by have := (hP k o (by omega) hp).1; omega)
  have hsfl := World.block_lt_of_cell? _ _ h.fc
  have hs := h.sbl
  have hb := h.bl
  have hb0 := h.l0
  refine ⟨G', ⟨r', v', h.lpl, h.pe, ?_, ?_, h.sfl, h.sy.blocks (hlow _ hs) (fun k hA hl => ⟨hlow k hA.1, hA.1, hA.2.1, (tO k hl).trans hA.2.2⟩), ?_, h.sbl, fun j u hj => ?_, ?_, h.l0, fun j u hj => ?_, ?_, h.bl⟩, tn, tO⟩
  · rw [World.cell?_of_block (a := ⟨sf, 0, none⟩) (hk.block sf hsfl (fun o hp => (hP sf o hsfl hp).2.2 rfl))]; exact h.fc
  · exact (tO sf hsfl).trans h.tsf
  · exact (tO F.sb (by omega)).trans h.tsb
  · rw [World.cell?_of_block (a := ⟨F.b0, 0 + j, none⟩) (hlow _ hb0)]; exact h.c0 j u hj
  · exact (tO F.b0 (by omega)).trans h.t0
  · rw [World.cell?_of_block (a := ⟨F.b, 0 + j, none⟩) (hlow _ hb)]; exact h.cf j u hj
  · exact (tO F.b (by omega)).trans h.tb

/-- A step of the Writer's. -/
theorem PT.step {PL' : List PE} {l1' l2' lp' : List UInt8} {go' : Option Nat} (h : PT w0 G0 V F sf cap wr Gr PL l1 l2 lp go) (r : Reach wr Gr w' G') (hv : G'.v = ptV V PL' l1' l2' lp' go') (hz : Gr.zm = true) (hl : lp'.length ≤ 900 * PL'.length) (hpe : ∀ e ∈ PL', peOk V.S e) :
    PT w0 G0 V F sf cap w' G' PL' l1' l2' lp' go' := by
  have hsz : w0.heap.size ≤ wr.heap.size := h.R.kp.size
  have hsfl := World.block_lt_of_cell? _ _ h.fc
  have hs := h.sbl
  have hb := h.bl
  have hb0 := h.l0
  have h0 : ∀ k, k < wr.heap.size → Gr.T k = 0 → w'.heap[k]? = wr.heap[k]? := fun k hk ht => KT.block r.kp hk ht
  have h11 : ∀ k, k < wr.heap.size → Gr.T k = 11 → w'.heap[k]? = wr.heap[k]? := fun k hk ht => r.hp.m hz k hk ht
  refine ⟨h.R.trans r, hv, hl, hpe, ?_, ?_, h.sfl, h.sy.blocks (h0 F.sb (by omega) h.tsb) (fun k hA hl => ⟨h0 k hl hA.2.2, hA.1, hA.2.1, (r.nx.T k hl).trans hA.2.2⟩), ?_, h.sbl, fun j u hj => ?_, ?_, h.l0, fun j u hj => ?_, ?_, h.bl⟩
  · rw [World.cell?_of_block (a := ⟨sf, 0, none⟩) (h0 sf hsfl h.tsf)]; exact h.fc
  · exact (r.nx.T sf hsfl).trans h.tsf
  · exact (r.nx.T F.sb (by omega)).trans h.tsb
  · rw [World.cell?_of_block (a := ⟨F.b0, 0 + j, none⟩) (h11 F.b0 (by omega) h.t0)]; exact h.c0 j u hj
  · exact (r.nx.T F.b0 (by omega)).trans h.t0
  · rw [World.cell?_of_block (a := ⟨F.b, 0 + j, none⟩) (h11 F.b (by omega) h.tb)]; exact h.cf j u hj
  · exact (r.nx.T F.b (by omega)).trans h.tb

theorem PT.drew (h : PT w0 G0 V F sf cap wr Gr PL l1 l2 lp go) : PT w0 G0 V F sf cap wr.drew Gr PL l1 l2 lp go := ⟨h.R.drew, h.v, h.lpl, h.pe, h.fc, h.tsf, h.sfl, ⟨h.sy.c0, h.sy.c1, h.sy.c3, h.sy.c4, h.sy.f3, h.sy.f4, h.sy.c2⟩, h.tsb, h.sbl, h.c0, h.t0, h.l0, h.cf, h.tb, h.bl⟩

/-- The posting behind writePosting. -/
def PTp (w0 : World) (G0 : Gh) (V : Vw) (F : Fx) (sf cap : Nat) (wr : World) (Gr : Gh) (PL : List PE) (nm va : ByteArray) (e : Ending) (w' : World) : Prop :=
  e = .returned .nilIface ∧ ∃ G' off l1 l2 lp go, PT w0 G0 V F sf cap w' G' (PL ++ [(nm, va, off)]) l1 l2 lp go ∧ Reach wr Gr w' G'

theorem pEs_snoc (l : List PE) (e : PE) : pEs (l ++ [e]) = pEs l ++ pE e := by simp [pEs]

theorem symE_len (s : ByteArray) (h : s.size < 256) : (symE s).length ≤ 2 + s.size := by
  have : (Lib.uvarint s.size).length ≤ 2 := Lib.uvarint_length 1 s.size (by omega)
  simp [symE]; omega
theorem pE_len (S : DataW Unit) (e : PE) (h : peOk S e) : (pE e).length ≤ 600 := by
  obtain ⟨h1, h2, h3, _⟩ := h
  have a := symE_len e.1 h1
  have b := symE_len e.2.1 h2
  have c := (uvarint_len4 h3).2
  have d : (Lib.uvarint 2).length = 1 := by rw [Lib.uvarint_small (by decide)]; rfl
  simp [pE, postE, d]; omega
theorem pEs_len (S : DataW Unit) (l : List PE) (h : ∀ e ∈ l, peOk S e) : (pEs l).length ≤ 600 * l.length := by
  induction l with
  | nil => simp [pEs]
  | cons e r ih =>
    have a := pE_len S e (h e (by simp))
    have b := ih (fun e' h' => h e' (by simp [h']))
    have : pEs (e :: r) = pE e ++ pEs r := by simp [pEs]
    rw [this]; simp; omega

set_option maxRecDepth 100000 in
theorem PT.post (h : PT w0 G0 V F sf cap wr Gr PL l1 l2 lp go) (nm va : ByteArray) (ao : Option Addr) (n c : Nat) (xs : List Nat) (hn : n = xs.length) (hx : U32s wr Gr ao xs) (hn2 : n ≤ 200) (hnm : nm.size < 256) (hva : va.size < 256) (hS : nm.size ≠ 0 → Maps.has V.S (.string va.data.toList) = true)
    (h1 : V.cs 1 = .pointer (some ⟨G0.pb, 0, none⟩)) (h2 : V.cs 2 = .pointer (some ⟨G0.ob, 0, none⟩)) (h46 : V.cs 46 = .func (.func 80) #[] #[]) (hPL : PL.length < 60000) (hzm : V.zm = true) (hfo : V.zo = false) :
    Calls Tryz.prog 138 #[.pointer (some ⟨G0.wb, 0, none⟩), .string nm, .string va, .slice ao n c] wr (PTp w0 G0 V F sf cap wr Gr PL nm va) := by
  have hpl := pEs_len V.S PL h.pe
  have hll := h.lpl
  have hz : Gr.zm = true := (congrArg Vw.zm h.v).trans hzm
  have a1 : (ptV V PL l1 l2 lp go).cs 1 = .pointer (some ⟨Gr.pb, 0, none⟩) := (ptV_cs _ _ _ _ _ _ 1 (by decide)).trans (by rw [h1, h.R.nx.pb])
  have a2 : (ptV V PL l1 l2 lp go).cs 2 = .pointer (some ⟨Gr.ob, 0, none⟩) := (ptV_cs _ _ _ _ _ _ 2 (by decide)).trans (by rw [h2, h.R.nx.ob])
  have a3 : (ptV V PL l1 l2 lp go).cs 3 = .int .u64 (PL.length : Nat)  := ptV_3 _ _ _ _ _ _
  have a46 : (ptV V PL l1 l2 lp go).cs 46 = .func (.func 80) #[] #[] := (ptV_cs _ _ _ _ _ _ 46 (by decide)).trans h46
  have hc := writePosting_any wr Gr (ptV V PL l1 l2 lp go) h.R.wi h.v nm va ao n c xs hn hx PL.length
    a1 a2 a3 a46
    (by omega) (by show (pEs PL).length < _; omega) (by show lp.length < _; omega) (by omega) (by omega) (by omega) hfo
  rw [h.R.nx.wb] at hc
  refine hc.mono ?_
  rintro e w' ⟨l1', l2', k, go', hk, he, G', r, hv⟩
  have hp4 := padN_lt lp.length 4 (by decide)
  have hk' : k.length = 12 + 4 * n + padN lp.length 4 := hk
  refine ⟨he, G', lp.length + padN lp.length 4, l1', l2', lp ++ k, go', h.step r ?_ hz (by simp; omega) (fun e' h' => ?_), r⟩
  · rw [hv]
    simp only [ptV, pEs_snoc, upd_upd, List.length_append, List.length_singleton]
    rfl
  · rcases List.mem_append.1 h' with h' | h'
    · exact h.pe e' h'
    · obtain rfl := List.mem_singleton.1 h'
      exact ⟨hnm, hva, by show lp.length + padN lp.length 4 < 268435456; omega, hS⟩

end

end Go.Proofs.YtfipfoplmopkaaaGreatDoor

namespace Go.Proofs.YtfipfoplmopkaaaGreatDoor
open Go.RowKit Go.Maps

/-- What is asked of the Writer ahead of writePostingsToTmpFiles. -/
structure PH (w : World) (G : Gh) (V : Vw) (F : Fx) (pre : List UInt8) (p L : Nat) (SL : List Se) : Prop where
  lf : V.lf = pre ++ serBs p SL
  hp : pre.length = p
  p0 : 0 < p
  hL : L = V.lf.length
  ll : L < 80000000
  h5 : V.cs 5 = .int .u64 p
  h6 : V.cs 6 = .int .u64 L
  h1 : V.cs 1 = .pointer (some ⟨G.pb, 0, none⟩)
  h2 : V.cs 2 = .pointer (some ⟨G.ob, 0, none⟩)
  h3 : V.cs 3 = .int .u64 (0 : Nat)
  h46 : V.cs 46 = .func (.func 80) #[] #[]
  h35 : V.cs 35 = .pointer (some ⟨F.sb, 0, none⟩)
  lo : V.lo = []
  lp : V.lp = []
  zm : V.zm = true
  zo : V.zo = false
  ok : ∀ s ∈ SL, Se.ok F.ss.length s
  sl : SL.length ≤ 200
  sn : seN SL ≤ 200
  nl : V.nl ≤ 200
  L9 : ∀ l : List UInt8, Maps.has V.L (.string l) = true → l.length < 256 ∧ Maps.has V.S (.string l) = true ∧ ∃ c : Nat, c ≤ SL.length ∧ ∀ z, V.L.atKey (.string l) z = .lit (.int .u64 (c : Int))
  ssl : F.ss.length < 100000
  ss : ∀ s ∈ F.ss, s.size < 256 ∧ Maps.has V.S (.string s.data.toList) = true
  sy : SY (fun k => k < w.heap.size ∧ k ≠ F.sb ∧ G.T k = 0) w F.sb F.b0 F.p0 F.l0.length F.c0 F.ss F.ss.length
  tsb : G.T F.sb = 0
  c0 : ∀ j u, F.l0[j]? = some u → w.cell? ⟨F.b0, 0 + j, none⟩ = some (bV u)
  t0 : G.T F.b0 = 11
  hA : F.A.length = F.p0 + 8
  nc : F.l0.length ≤ F.c0
  l0l : F.l0.length < 100000000
  gf : V.gf = some F.b

/-- What writePostingsToTmpFiles leaves. -/
def WPTT (w : World) (G : Gh) (V : Vw) (e : Ending) (w' : World) : Prop :=
  e = .returned .nilIface ∧ ∃ G' PL l1 l2 lp go, Reach w G w' G' ∧ G'.v = ptV V PL l1 l2 lp go ∧ lp.length ≤ 900 * PL.length ∧ (∀ e ∈ PL, peOk V.S e) ∧ 0 < PL.length ∧ PL.length < 40002

theorem info9 : (Tryz.prog.info? 9).map (fun i => (i.zero, i.size, i.bytes)) = some (some (.string ByteArray.empty), 1, 16) := by kernel_rfl

/-- The names, as they are gathered. -/
structure NC (w0 : World) (G0 : Gh) (V : Vw) (r : Nat) (wr : World) (Gr : Gh) (left : Lit → Bool) (cnt : Nat) (v : Value) (ss : List (List UInt8)) : Prop where
  R : Reach w0 G0 wr Gr
  hv : Gr.v = V
  rg : wr.ranges Tryz.prog 9 (plainElem Tryz.prog 32) G0.lm r V.nl V.L left cnt
  row : wr.ownsRow 0 9 1 v ss.length (ss.map encStr)
  ob : ∃ g, v.ownBlock = some g ∧ w0.heap.size ≤ g ∧ Gr.T g = 0 ∧ g ≠ r
  tr : w0.heap.size ≤ r ∧ Gr.T r = 0
  has : ∀ x ∈ ss, Maps.has V.L (.string x) = true
  bd : ss.length + cnt ≤ 200

theorem keyOf_encStr {x : List UInt8} {kl : Lit} (h : keyOf Tryz.prog 9 (encStr x) = some kl) : kl = .string x := by
  obtain ⟨y, h1, h2, _⟩ := Maps.keyOf_str Tryz.underlying9 h
  rw [h2, encStr_inj h1]

theorem ranges_kept {H : Type} {P : Program} {k : TypeId} {R : Value → Option (DataW H × List MemPlace)} {w w' : World} {b r n : Nat} {D : DataW H} {left : Lit → Bool} {cnt : Nat} {Q : Nat → Nat → Prop} (h : w.ranges P k R b r n D left cnt) (hk : Kept Q w w') (hb : ∀ o, ¬ Q b o) (hr : ∀ o, ¬ Q r o) : w'.ranges P k R b r n D left cnt := by
  have h1 := h.owns.lt
  have h2 := h.lt
  obtain ⟨es, clock, since, seen, c0, hb', F, hs, hD, hr', rest⟩ := h
  exact ⟨es, clock, since, seen, c0, (hk.block b h1 hb).trans hb', F, hs, hD, (hk.block r h2 hr).trans hr', rest⟩
theorem ranges_next_kept {H : Type} {P : Program} {k : TypeId} {R : Value → Option (DataW H × List MemPlace)} {w w' : World} {b r n : Nat} {D : DataW H} {left left' : Lit → Bool} {cnt cnt' : Nat} (h : w.ranges P k R b r n D left cnt) (h' : w'.ranges P k R b r n D left' cnt') (hg : w.grownBy w' (some r)) : Kept (fun k _ => k = r) w w' :=
  Kept.grown hg (fun _ _ e => by cases e; rfl) (fun k o e => by
    cases e
    obtain ⟨_, _, _, _, _, _, _, _, _, hr, _⟩ := h
    obtain ⟨_, _, _, _, _, _, _, _, _, hr', _⟩ := h'
    simp [World.frozen?, hr, hr'])

/-- Behind the next name. -/
theorem NC.step {w0 : World} {G0 : Gh} {V : Vw} {r : Nat} {wr w1 w2 : World} {Gr : Gh} {left left' : Lit → Bool} {cnt cnt' : Nat} {v v' : Value} {ss : List (List UInt8)} {x : List UInt8} {o : Obj} {n : Nat} {y : DataW Unit}
    (h : NC w0 G0 V r wr Gr left cnt v ss) (hg : wr.grownBy w1 (some r)) (hrg : w1.ranges Tryz.prog 9 (plainElem Tryz.prog 32) G0.lm r V.nl V.L left' cnt') (hlt : cnt' < cnt) (hat : ∀ z, V.L.atKey (.string x) z = y) (hn : n = ss.length)
    (ha : App (w1.alloc o) w2 9 1 v v' (n + 1) (ss.map encStr ++ [encStr x])) : ∃ G', NC w0 G0 V r w2 G' left' cnt' v' (ss ++ [x]) := by
  subst hn
  obtain ⟨g, hg0, hg1, hg2, hg3⟩ := h.ob
  have hrl := h.rg.lt
  have hml := h.rg.owns.lt
  have hgl := (h.row.lt g hg0).2
  have k1 := ranges_next_kept h.rg hrg hg
  have hrow1 := ownsRow_block h.row (w' := w1) (fun k e => k1.block k (h.row.lt k e).2 (fun _ e' => by rw [hg0] at e; cases e; exact hg3 e'))
  have hrowa := ownsRow_block hrow1 (w' := w1.alloc o) (fun k e => heap_alloc_old _ _ (hrow1.lt k e).2)
  have k2 : Kept (fun i _ => v.ownBlock = some i) w1 w2 := ((Kept.alloc (fun _ _ => False) w1 o).mono (Q := fun i _ => v.ownBlock = some i) (fun _ _ _ e => e.elim)).trans (ha.kept hrowa) (fun _ _ _ e => e)
  have k : Kept (fun i _ => i = r ∨ v.ownBlock = some i) wr w2 := (k1.mono (Q := fun i _ => i = r ∨ v.ownBlock = some i) (fun _ _ _ e => .inl e)).trans (k2.mono (Q := fun i _ => i = r ∨ v.ownBlock = some i) (fun _ _ _ e => .inr e)) (fun _ _ _ e => e)
  obtain ⟨G', r', v'', tn, tO⟩ := h.R.locv h.hv k (fun i o' _ e => by
    rcases e with rfl | e
    · exact h.tr
    · rw [hg0] at e; cases e; exact ⟨hg1, hg2⟩)
  have hlm : Gr.T G0.lm = 8 := by rw [← h.R.nx.lm]; exact h.R.wi.t8
  refine ⟨G', r', v'', ranges_kept hrg k2 (fun _ e => by rw [hg0] at e; cases e; rw [hg2] at hlm; cases hlm) (fun _ e => by rw [hg0] at e; cases e; exact hg3 rfl), by simpa using ha.own, ?_, ⟨h.tr.1, (tO r hrl).trans h.tr.2⟩, fun z hz => ?_, by have := h.bd; simp; omega⟩
  · rcases ha.mv with e | ⟨g2, e, hg4⟩
    · exact ⟨g, e.trans hg0, hg1, (tO g hgl).trans hg2, hg3⟩
    · have hs1 := k1.size
      have hw0 := h.R.kp.size
      simp at hg4
      exact ⟨g2, e, by omega, tn g2 (by omega), by omega⟩
  · rcases List.mem_append.1 hz with hz | hz
    · exact h.has z hz
    · obtain rfl := List.mem_singleton.1 hz
      exact has_true_of_atKey hat

/-- The names in their row. -/
structure NR (w0 wr : World) (Gr : Gh) (V : Vw) (nb no : Nat) (NM : List (List UInt8)) : Prop where
  c : ∀ i x, NM[i]? = some x → wr.cell? ⟨nb, no + i, none⟩ = some (encStr x)
  t : Gr.T nb = 0
  lo : w0.heap.size ≤ nb
  lt : nb < wr.heap.size
  has : ∀ x ∈ NM, Maps.has V.L (.string x) = true
theorem NR.blk {w0 wr w' : World} {Gr G' : Gh} {V : Vw} {nb no : Nat} {NM : List (List UInt8)} (h : NR w0 wr Gr V nb no NM) (hb : w'.heap[nb]? = wr.heap[nb]?) (hT : G'.T nb = Gr.T nb) (hs : wr.heap.size ≤ w'.heap.size) : NR w0 w' G' V nb no NM :=
  ⟨fun i x hi => (World.cell?_of_block (a := ⟨nb, no + i, none⟩) hb).trans (h.c i x hi), hT.trans h.t, h.lo, Nat.lt_of_lt_of_le h.lt hs, h.has⟩
theorem NR.tail {w0 wr : World} {Gr : Gh} {V : Vw} {nb no : Nat} {x : List UInt8} {NM : List (List UInt8)} (h : NR w0 wr Gr V nb no (x :: NM)) : NR w0 wr Gr V nb (no + 1) NM :=
  ⟨fun i y hi => by rw [show no + 1 + i = no + (i + 1) by omega]; exact h.c (i + 1) y (by simpa using hi), h.t, h.lo, h.lt, fun y hy => h.has y (by simp [hy])⟩

open Go.Sort in
/-- Behind the sort. -/
theorem NC.sorted {w0 wr : World} {G0 Gr : Gh} {V : Vw} {r : Nat} {left : Lit → Bool} {cnt g n c k : Nat} {ss ts : List (List UInt8)} {os : Array Obj} (h : NC w0 G0 V r wr Gr left cnt (.slice (some ⟨g, 0, none⟩) n c) ss) (hn : n = ss.length) (hts : ts.length = ss.length) (hm : ∀ x ∈ ts, x ∈ ss) :
    ∃ G', Reach w0 G0 (grow (putRow encStr (Sort.ahead wr k) g 0 ts.toArray) os) G' ∧ G'.v = V ∧ NR w0 (grow (putRow encStr (Sort.ahead wr k) g 0 ts.toArray) os) G' V g 0 ts := by
  subst hn
  rcases h.row.2 with ⟨he, _⟩ | ⟨g', cap, cur, he, hbase, hb, h1, h2, h3, h4⟩
  · cases he
  cases he
  obtain ⟨g2, e2, o1, o2, o3⟩ := h.ob
  cases e2
  have hrow := ownsRow_sorted (n := k) (os := os) hts hbase hb h1 h2 h3
  have hk : Kept (fun i _ => i = g) wr (grow (putRow encStr (Sort.ahead wr k) g 0 ts.toArray) os) :=
    Kept.grown (grownBy_sorted (g := g) ts.toArray) (fun _ _ e => by cases e; rfl) (fun i o e => by cases e; rw [ownsRow_frz hrow rfl, ownsRow_frz h.row rfl])
  obtain ⟨G', r', v', tn, tO⟩ := h.R.locv h.hv hk (fun i o _ e => by rw [e]; exact ⟨o1, o2⟩)
  have hlt : g < wr.heap.size := (h.row.lt g rfl).2
  refine ⟨G', r', v', fun i x hi => ?_, (tO g hlt).trans o2, o1, Nat.lt_of_lt_of_le hlt hk.size, fun x hx => h.has x (hm x hx)⟩
  have h5 := hrow.cells (g := g) rfl i (encStr x) (by simp [hi])
  rw [Addr.add_lit, Nat.zero_add] at h5
  rw [Nat.zero_add]
  exact h5

def NSo (w0 : World) (G0 : Gh) (V : Vw) (g n : Nat) (e : Ending) (w' : World) : Prop := e = .returned (.tuple #[]) ∧ ∃ G' NM, Reach w0 G0 w' G' ∧ G'.v = V ∧ NR w0 w' G' V g 0 NM ∧ NM.length = n
theorem NC.sortc {w0 wr : World} {G0 Gr : Gh} {V : Vw} {r : Nat} {left : Lit → Bool} {cnt n c : Nat} {ao : Option Addr} {ss : List (List UInt8)} (h : NC w0 G0 V r wr Gr left cnt (.slice ao n c) ss) (hn : n = ss.length) :
    ∃ g, ao = some ⟨g, 0, none⟩ ∧ n ≤ c ∧ n ≤ 200 ∧ Calls Tryz.prog 132 #[.slice ao n c] wr (NSo w0 G0 V g n) := by
  obtain ⟨g, hg0, o1, o2, o3⟩ := h.ob
  have hbd := h.bd
  rcases h.row.2 with ⟨he, _⟩ | ⟨g', cap, cur, he, hbase, hb, h1, h2, h3, h4⟩
  · rw [he] at hg0; cases hg0
  · injection he with e1 e2 e3
    subst e1
    subst e3
    obtain rfl : g' = g := by cases hg0; rfl
    refine ⟨g', rfl, by omega, by omega, ?_⟩
    have hc := Tryz.slices_Sort_string g' 0 c ss wr (holds_of_block hb (by simpa using h4)) (h.row.lt g' rfl).2 (by omega)
    rw [← hn] at hc
    refine hc.mono ?_
    rintro e w' ⟨he, k, os, rfl⟩
    have hp := List.mergeSort_perm ss (fun x y => decide (x ≤ y))
    obtain ⟨G', r', v', nr⟩ := h.sorted (k := k) (os := os) (ts := ss.mergeSort fun x y => decide (x ≤ y)) hn hp.length_eq (fun x hx => hp.mem_iff.1 hx)
    exact ⟨he, G', _, r', v', nr, by rw [hp.length_eq, hn]⟩

theorem ptV_nil {V : Vw} (h1 : V.lo = []) (h3 : V.cs 3 = .int .u64 ((0 : Nat) : Int)) : ptV V [] V.l1 V.l2 V.lp V.go = V := by
  have e : upd V.cs 3 (.int .u64 ((([] : List PE).length : Nat) : Int)) = V.cs := by
    funext j; simp only [upd]; split
    · rename_i h; rw [h]; exact h3.symm
    · rfl
  unfold ptV
  rw [e]
  have e2 : pEs [] = V.lo := by rw [h1]; rfl
  rw [e2]

/-- At the start. -/
theorem PT.start {w wr : World} {G Gr : Gh} {V : Vw} {F : Fx} {pre : List UInt8} {p L sf cap : Nat} {SL : List Se} (H : PH w G V F pre p L SL) (hG : WI w G) (hV : G.v = V) (R : Reach w G wr Gr) (hv : Gr.v = V) (hc : wr.cell? ⟨sf, 0, none⟩ = some (.slice (some ⟨F.b, 0, none⟩) V.lf.length cap)) (ht : Gr.T sf = 0) (hl : w.heap.size ≤ sf) :
    PT w G V F sf cap wr Gr [] V.l1 V.l2 V.lp V.go := by
  have hz : G.zm = true := (congrArg Vw.zm hV).trans H.zm
  have hsb := H.sy.sbl
  have hlf : 0 < V.lf.length := by rw [H.lf]; have := H.hp; have := H.p0; simp; omega
  have hgf : G.gf = some F.b := (congrArg Vw.gf hV).trans H.gf
  have hb : F.b < w.heap.size := hG.f.gl F.b hgf
  have ht11 : G.T F.b = 11 := hG.t11 F.b hgf
  have hb0 : F.b0 < w.heap.size := World.block_lt_of_cell? _ _ (H.c0 0 _ (List.getElem?_eq_getElem (by have := H.hA; simp [Fx.l0]; omega)))
  have hlf2 : G.lf = V.lf := congrArg Vw.lf hV
  have hcf : ∀ j u, V.lf[j]? = some u → w.cell? ⟨F.b, 0 + j, none⟩ = some (bV u) := fun j u hj => by
    obtain ⟨v, _, hbf⟩ := hG.f.b
    rw [hgf, hlf2] at hbf
    rw [Nat.zero_add]
    exact hbf.cells j u hj
  have h0 : ∀ k, k < w.heap.size → G.T k = 0 → wr.heap[k]? = w.heap[k]? := fun k hk ht => KT.block R.kp hk ht
  have h11 : ∀ k, k < w.heap.size → G.T k = 11 → wr.heap[k]? = w.heap[k]? := fun k hk ht => R.hp.m hz k hk ht
  refine ⟨R, by rw [ptV_nil H.lo H.h3]; exact hv, by rw [H.lp]; simp, (fun e he => by cases he), hc, ht, hl, H.sy.blocks (h0 F.sb hsb H.tsb) (fun k hA hl => ⟨h0 k hl hA.2.2, hA.1, hA.2.1, (R.nx.T k hl).trans hA.2.2⟩), (R.nx.T F.sb hsb).trans H.tsb, hsb, fun j u hj => ?_, (R.nx.T F.b0 hb0).trans H.t0, hb0, fun j u hj => ?_, (R.nx.T F.b hb).trans ht11, hb⟩
  · rw [World.cell?_of_block (a := ⟨F.b0, 0 + j, none⟩) (h11 F.b0 hb0 H.t0)]; exact H.c0 j u hj
  · rw [World.cell?_of_block (a := ⟨F.b, 0 + j, none⟩) (h11 F.b hb ht11)]; exact hcf j u hj

/-- The offsets, as they are gathered: l is still to be read. -/
structure OL (w0 : World) (G0 : Gh) (V : Vw) (F : Fx) (sf cap g db : Nat) (NM : List (List UInt8)) (wr : World) (Gr : Gh) (l : List UInt8) (v : Value) (xs : List Nat) : Prop where
  P : PT w0 G0 V F sf cap wr Gr [] V.l1 V.l2 V.lp V.go
  N : NR w0 wr Gr V g 0 NM
  d : DB wr db F.b l
  td : w0.heap.size ≤ db ∧ Gr.T db = 0 ∧ db ≠ sf ∧ db ≠ g ∧ g ≠ sf
  row : wr.ownsRow 0 94 1 v xs.length (xs.map u32V)
  rb : ∀ k, v.ownBlock = some k → w0.heap.size ≤ k ∧ Gr.T k = 0 ∧ k ≠ sf ∧ k ≠ db ∧ k ≠ g
  xl : ∀ x ∈ xs, x < 4294967296

theorem OL.db {w0 wr w' : World} {G0 Gr : Gh} {V : Vw} {F : Fx} {sf cap g db : Nat} {NM : List (List UInt8)} {l l' : List UInt8} {v : Value} {xs : List Nat} (h : OL w0 G0 V F sf cap g db NM wr Gr l v xs) (hk : Kept (dbP db) wr w') (hd : DB w' db F.b l') : ∃ G', OL w0 G0 V F sf cap g db NM w' G' l' v xs := by
  obtain ⟨G', p', tn, tO⟩ := h.P.loc hk (fun k o _ e => by unfold dbP at e; subst e; exact ⟨h.td.1, h.td.2.1, h.td.2.2.1⟩)
  have hbl : ∀ k, k < wr.heap.size → k ≠ db → w'.heap[k]? = wr.heap[k]? := fun k hk' hne => hk.block k hk' (fun _ hp => hne hp)
  exact ⟨G', p', h.N.blk (hbl g h.N.lt h.td.2.2.2.1.symm) (tO g h.N.lt) hk.size, hd, ⟨h.td.1, (tO db h.d.lt).trans h.td.2.1, h.td.2.2⟩, ownsRow_block h.row (fun k e => hbl k (h.row.lt k e).2 (h.rb k e).2.2.2.1),
    fun k e => ⟨(h.rb k e).1, (tO k (h.row.lt k e).2).trans (h.rb k e).2.1, (h.rb k e).2.2⟩, h.xl⟩

theorem OL.push {w0 wr wa w' : World} {G0 Gr : Gh} {V : Vw} {F : Fx} {sf cap g db n x : Nat} {NM : List (List UInt8)} {l : List UInt8} {v v' : Value} {xs : List Nat} (h : OL w0 G0 V F sf cap g db NM wr Gr l v xs) (ka : Kept (fun _ _ => False) wr wa) (hn : n = xs.length) (hx : x < 4294967296)
    (ha : App wa w' 94 1 v v' (n + 1) (xs.map u32V ++ [.int .u32 x])) : ∃ G', OL w0 G0 V F sf cap g db NM w' G' l v' (xs ++ [x]) := by
  subst hn
  have hrow := ownsRow_block h.row (w' := wa) (fun k e => ka.block k (h.row.lt k e).2 (fun _ => id))
  have hk := (ka.mono (Q := fun k _ => v.ownBlock = some k) (fun _ _ _ => False.elim)).trans (ha.kept hrow) (fun _ _ _ h => h)
  obtain ⟨G', p', tn, tO⟩ := h.P.loc hk (fun k o _ e => ⟨(h.rb k e).1, (h.rb k e).2.1, (h.rb k e).2.2.1⟩)
  have hbl : ∀ k, k < wr.heap.size → v.ownBlock ≠ some k → w'.heap[k]? = wr.heap[k]? := fun k hk' hne => hk.block k hk' (fun _ hp => hne hp)
  have hw0 : w0.heap.size ≤ wr.heap.size := h.P.R.kp.size
  have hwa := ka.size
  have hsf : sf < wr.heap.size := World.block_lt_of_cell? _ _ h.P.fc
  have hdl := h.d.lt
  have hgl := h.N.lt
  have hbb : v.ownBlock ≠ some F.b := fun e => by have := h.P.bl; have := (h.rb _ e).1; omega
  refine ⟨G', p', h.N.blk (hbl g hgl (fun e => (h.rb g e).2.2.2.2 rfl)) (tO g hgl) hk.size, h.d.kept hk (fun _ e => (h.rb db e).2.2.2.1 rfl) (fun _ _ e => hbb e), ⟨h.td.1, (tO db hdl).trans h.td.2.1, h.td.2.2⟩, ?_, fun k e => ?_, fun y hy => ?_⟩
  · have := ha.own
    simpa [u32V] using this
  · rcases ha.mv with e1 | ⟨g2, e1, hg2⟩
    · have e' := e1.symm.trans e
      have h1 := h.rb k e'
      exact ⟨h1.1, (tO k (h.row.lt k e').2).trans h1.2.1, h1.2.2⟩
    · obtain rfl : g2 = k := Option.some.inj (e1.symm.trans e)
      exact ⟨by omega, tn _ (by omega), by omega, by omega, by omega⟩
  · rcases List.mem_append.1 hy with hy | hy
    · exact h.xl y hy
    · obtain rfl := List.mem_singleton.1 hy; exact hx

theorem OL.u32s {w0 wr : World} {G0 Gr : Gh} {V : Vw} {F : Fx} {sf cap g db n c : Nat} {ao : Option Addr} {NM : List (List UInt8)} {l : List UInt8} {xs : List Nat} (h : OL w0 G0 V F sf cap g db NM wr Gr l (.slice ao n c) xs) : U32s wr Gr ao xs := fun j x hj => by
  have hx : (xs.map u32V)[j]? = some (.int .u32 x) := by simp [hj, u32V]
  rcases h.row.2 with ⟨he, h0⟩ | ⟨g2, cap, cur2, he, _⟩
  · obtain rfl := List.eq_nil_of_length_eq_zero h0
    simp at hj
  · have hao : ao = some ⟨g2, 0, none⟩ := by cases he; rfl
    have hob : (Value.slice ao n c).ownBlock = some g2 := by rw [hao]; rfl
    have hc := h.row.cells hob j _ hx
    rw [Addr.add_lit, Nat.zero_add] at hc
    exact ⟨g2, 0, hao, (h.rb g2 hob).2.1, by rw [Nat.zero_add]; exact hc, h.xl x (List.mem_of_getElem? hj)⟩

theorem PT.f6 {w0 wr : World} {G0 Gr : Gh} {V : Vw} {F : Fx} {sf cap : Nat} {PL : List PE} {l1 l2 lp : List UInt8} {go : Option Nat} (h : PT w0 G0 V F sf cap wr Gr PL l1 l2 lp go) (i : Nat) (hi : i < 47) (hr : i < 12 ∨ 33 < i) (h3 : i ≠ 3) {x : Value} (hx : V.cs i = x) : wr.cell? ⟨G0.wb, i, none⟩ = some x :=
  h.R.cv h.v i ((ptV_cs _ _ _ _ _ _ i h3).trans hx) hi hr

theorem keyOf_enc {x : List UInt8} (h : x.length < 256) : keyOf Tryz.prog 9 (encStr x) = some (.string x) := by
  have := WideMaps.keyOf_string_mk (P := Tryz.prog) Tryz.underlying9 (s := ⟨x.toArray⟩) (by unfold maxLen; show x.toArray.size ≤ _; simp; omega)
  simpa using this

/-- labelNames[x], in whatever number of draws. -/
theorem PT.ln {w wr : World} {G Gr : Gh} {V : Vw} {F : Fx} {sf cap : Nat} {PL : List PE} {l1 l2 lp : List UInt8} {go : Option Nat} (h : PT w G V F sf cap wr Gr PL l1 l2 lp go) {x : List UInt8} {cx : Nat} (h1 : x.length < 256) (h4 : ∀ z, V.L.atKey (.string x) z = .lit (.int .u64 (cx : Int))) :
    ∀ m, (Instr.lookup 116 (.map (some G.lm)) (encStr x) false).run Tryz.prog (wr.drewN m) = .ok (.int .u64 (cx : Int)) (wr.drewN m) := by
  have hm := h.R.wi.l
  have e1 : Gr.L = V.L := congrArg Vw.L h.v
  rw [h.R.nx.lm, e1] at hm
  intro m
  have hmd : (wr.drewN m).ownsMap Tryz.prog 9 (plainElem Tryz.prog 32) G.lm Gr.nl V.L := hm
  obtain ⟨c', hr', ha', _⟩ := hmd.lookup_int keyS Tryz.underlying116 Tryz.underlying32 (by kernel_rfl) (keyOf_enc h1)
  have e3 := (h4 _).symm.trans ha'
  cases e3
  exact hr'

/-- symbolCache[x]. -/
theorem PT.sc {w wr : World} {G Gr : Gh} {V : Vw} {F : Fx} {sf cap : Nat} {PL : List PE} {l1 l2 lp : List UInt8} {go : Option Nat} (h : PT w G V F sf cap wr Gr PL l1 l2 lp go) {x : List UInt8} (hl : x.length < 256) (hx : Maps.has V.S (.string x) = true) :
    ∃ c : Nat, c < 4294967296 ∧ (Instr.lookup 114 (.map (some G.sm)) (encStr x) true).run Tryz.prog wr = .ok (.tuple #[.int .u32 (c : Int), .bool true]) wr := by
  have e1 : Gr.S = V.S := congrArg Vw.S h.v
  obtain ⟨c, h1, _, h3⟩ := h.R.wi.symLook ⟨x.toArray⟩ (by show x.toArray.size < _; simpa using hl) (by rw [e1]; simpa using hx)
  rw [h.R.nx.sm] at h1
  exact ⟨c, h3, h1⟩

/-- The names of a batch, as they are gathered. -/
structure B4 (w0 : World) (G0 : Gh) (V : Vw) (F : Fx) (sf cap g no : Nat) (wr : World) (Gr : Gh) (PL : List PE) (l1 l2 lp : List UInt8) (go : Option Nat) (NM BN : List (List UInt8)) (v : Value) : Prop where
  P : PT w0 G0 V F sf cap wr Gr PL l1 l2 lp go
  N : NR w0 wr Gr V g no NM
  row : wr.ownsRow 0 9 1 v BN.length (BN.map encStr)
  rb : ∀ k, v.ownBlock = some k → w0.heap.size ≤ k ∧ Gr.T k = 0 ∧ k ≠ sf ∧ k ≠ g
  has : ∀ x ∈ BN, Maps.has V.L (.string x) = true
  gs : g ≠ sf

section
variable {w0 wr wa w' : World} {G0 Gr : Gh} {V : Vw} {F : Fx} {sf cap g no n : Nat} {PL : List PE} {l1 l2 lp : List UInt8} {go : Option Nat} {NM BN : List (List UInt8)} {v v' : Value} {x : List UInt8}
theorem NR.drew {nb : Nat} (h : NR w0 wr Gr V nb no NM) : NR w0 wr.drew Gr V nb no NM := ⟨h.c, h.t, h.lo, h.lt, h.has⟩
theorem B4.drew (h : B4 w0 G0 V F sf cap g no wr Gr PL l1 l2 lp go NM BN v) : B4 w0 G0 V F sf cap g no wr.drew Gr PL l1 l2 lp go NM BN v := ⟨h.P.drew, h.N.drew, h.row, h.rb, h.has, h.gs⟩
theorem PT.drewN (h : PT w0 G0 V F sf cap wr Gr PL l1 l2 lp go) (m : Nat) : PT w0 G0 V F sf cap (wr.drewN m) Gr PL l1 l2 lp go := by
  have k : Kept (fun _ _ => False) wr (wr.drewN m) := ⟨rfl, rfl, rfl, Nat.le_refl _, fun _ _ _ _ => rfl, fun _ _ _ => rfl, fun _ _ _ => rfl⟩
  have hw := h.R.wi.kept k (fun _ _ _ => False.elim)
  refine ⟨h.R.trans ⟨hw, Nx.refl _ _, k.mono (fun _ _ _ e => e.elim), Hp.none _ k⟩, h.v, h.lpl, h.pe, h.fc, h.tsf, h.sfl, ⟨h.sy.c0, h.sy.c1, h.sy.c3, h.sy.c4, h.sy.f3, h.sy.f4, h.sy.c2⟩, h.tsb, h.sbl, h.c0, h.t0, h.l0, h.cf, h.tb, h.bl⟩
theorem NR.drewN {nb : Nat} (h : NR w0 wr Gr V nb no NM) (m : Nat) : NR w0 (wr.drewN m) Gr V nb no NM := ⟨h.c, h.t, h.lo, h.lt, h.has⟩
theorem B4.drewN (h : B4 w0 G0 V F sf cap g no wr Gr PL l1 l2 lp go NM BN v) (m : Nat) : B4 w0 G0 V F sf cap g no (wr.drewN m) Gr PL l1 l2 lp go NM BN v := ⟨h.P.drewN m, h.N.drewN m, h.row, h.rb, h.has, h.gs⟩
theorem B4.tail (h : B4 w0 G0 V F sf cap g no wr Gr PL l1 l2 lp go (x :: NM) BN v) : B4 w0 G0 V F sf cap g (no + 1) wr Gr PL l1 l2 lp go NM BN v := ⟨h.P, h.N.tail, h.row, h.rb, h.has, h.gs⟩
theorem B4.any (h : B4 w0 G0 V F sf cap g no wr Gr PL l1 l2 lp go [] BN v) (no' : Nat) : B4 w0 G0 V F sf cap g no' wr Gr PL l1 l2 lp go [] BN v := ⟨h.P, ⟨fun i x hi => by simp at hi, h.N.t, h.N.lo, h.N.lt, fun x hx => by simp at hx⟩, h.row, h.rb, h.has, h.gs⟩
/-- The batch begins. -/
theorem B4.start (h : PT w0 G0 V F sf cap wr Gr PL l1 l2 lp go) (hn : NR w0 wr Gr V g no NM) (hg : g ≠ sf) : ∃ G', B4 w0 G0 V F sf cap g no (wr.alloc (.cells #[] 9)) G' PL l1 l2 lp go NM [] (.slice (some ⟨wr.heap.size, 0, none⟩) 0 0) := by
  have k : Kept (fun _ _ => False) wr (wr.alloc (.cells #[] 9)) := Kept.alloc _ _ _
  obtain ⟨G', p', tn, tO⟩ := h.loc k (fun _ _ _ => False.elim)
  have hsf : sf < wr.heap.size := World.block_lt_of_cell? _ _ h.fc
  have hgl := hn.lt
  refine ⟨G', p', hn.blk (k.block g hgl (fun _ => id)) (tO g hgl) k.size, ?_, fun i e => ?_, (fun x hx => by cases hx), hg⟩
  · exact ⟨rfl, .inr ⟨wr.heap.size, 0, #[], rfl, Nat.zero_le _, (MapKept.heap_alloc wr (.cells #[] 9)).1, Nat.le_refl _, by unfold maxLen; omega, rfl, rfl⟩⟩
  · obtain rfl : wr.heap.size = i := Option.some.inj e
    exact ⟨h.R.kp.size, tn _ (Nat.le_refl _), by omega, by omega⟩
theorem B4.push (h : B4 w0 G0 V F sf cap g no wr Gr PL l1 l2 lp go NM BN v) (hx : Maps.has V.L (.string x) = true) (ka : Kept (fun _ _ => False) wr wa) (hn : n = BN.length) (ha : App wa w' 9 1 v v' (n + 1) (BN.map encStr ++ [encStr x])) :
    ∃ G', B4 w0 G0 V F sf cap g no w' G' PL l1 l2 lp go NM (BN ++ [x]) v' := by
  subst hn
  have hrow := ownsRow_block h.row (w' := wa) (fun k e => ka.block k (h.row.lt k e).2 (fun _ => id))
  have hk := (ka.mono (Q := fun k _ => v.ownBlock = some k) (fun _ _ _ => False.elim)).trans (ha.kept hrow) (fun _ _ _ h => h)
  obtain ⟨G', p', tn, tO⟩ := h.P.loc hk (fun k o _ e => ⟨(h.rb k e).1, (h.rb k e).2.1, (h.rb k e).2.2.1⟩)
  have hbl : ∀ k, k < wr.heap.size → v.ownBlock ≠ some k → w'.heap[k]? = wr.heap[k]? := fun k hk' hne => hk.block k hk' (fun _ hp => hne hp)
  have hw0 : w0.heap.size ≤ wr.heap.size := h.P.R.kp.size
  have hwa := ka.size
  have hsf : sf < wr.heap.size := World.block_lt_of_cell? _ _ h.P.fc
  have hgl := h.N.lt
  refine ⟨G', p', h.N.blk (hbl g hgl (fun e => (h.rb g e).2.2.2 rfl)) (tO g hgl) hk.size, by simpa using ha.own, fun k e => ?_, fun y hy => ?_, h.gs⟩
  · rcases ha.mv with e1 | ⟨g2, e1, hg2⟩
    · have e' := e1.symm.trans e
      have h1 := h.rb k e'
      exact ⟨h1.1, (tO k (h.row.lt k e').2).trans h1.2.1, h1.2.2⟩
    · obtain rfl : g2 = k := Option.some.inj (e1.symm.trans e)
      exact ⟨by omega, tn _ (by omega), by omega, by omega⟩
  · rcases List.mem_append.1 hy with hy | hy
    · exact h.has y hy
    · obtain rfl := List.mem_singleton.1 hy; exact hx
end

end Go.Proofs.YtfipfoplmopkaaaGreatDoor
