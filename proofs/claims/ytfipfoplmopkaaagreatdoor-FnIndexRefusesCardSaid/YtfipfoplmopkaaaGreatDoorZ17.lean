/- What each kind of step does to the Writer's memory. No condition. The Writer's small methods: write, addPadding, writeMeta. Conditions: bounds on lengths. The Writer's beginning: startSymbols, ensureStage up to the symbols. Conditions: bounds on lengths. The symbols: ensureStage up to them, AddSymbol. Conditions: bounds on lengths. -/
import Derived.Test.YtfipfoplmopkaaaGreatDoorZ16
import Derived.Lib.SlBytesConst
import Derived.Maps.Views

namespace Go.Proofs.YtfipfoplmopkaaaGreatDoor
open Go.RowKit Go.Maps

def Gh.b1 (G : Gh) (g : Option Nat) (l : List UInt8) (n : Nat) : Gh := { G with g1 := g, l1 := l, T := G.own g n 9 }
def Gh.b2 (G : Gh) (g : Option Nat) (l : List UInt8) (n : Nat) : Gh := { G with g2 := g, l2 := l, T := G.own g n 10 }
def Gh.ff (G : Gh) (g : Option Nat) (l : List UInt8) (n : Nat) : Gh := { G with gf := g, lf := l, T := G.own g n 11 }
def Gh.fp (G : Gh) (g : Option Nat) (l : List UInt8) (n : Nat) : Gh := { G with gp := g, lp := l, T := G.own g n 12 }
def Gh.fo (G : Gh) (g : Option Nat) (l : List UInt8) (n : Nat) : Gh := { G with go := g, lo := l, T := G.own g n 13 }

theorem own_keep {G : Gh} {g g' : Option Nat} {n t s : Nat} (ht : ∀ k, g = some k → G.T k = s) (hl : ∀ k, g = some k → k < n) : ∀ k, g = some k → G.own g' n t k = s :=
  fun k hk => by rw [G.own_old _ _ _ (hl k hk)]; exact ht k hk

theorem tou_eb {w : World} {G : Gh} {o t : Nat} {g : Option Nat} (hg : ∀ k, g = some k → G.T k = t) (ht : t ≠ 1) : Tou w G (ebP G.wb o g) (fun i => o ≤ i ∧ i ≤ o + 10) (fun s => s = t) := by
  rintro k o' hk (hP | hP)
  · exact .inl hP
  · exact .inr ⟨hg k hP, by rw [hg k hP]; exact ht⟩
theorem wi_of_tou {w w' : World} {G : Gh} {P : Nat → Nat → Prop} {Q S : Nat → Prop} (h : WI w G) (hk : Kept P w w') (hT : Tou w G P Q S) (h0 : ¬ S 0) : Kept (wiP G) w w' :=
  hk.mono (fun k o hk' hP => by
    rcases hT k o hk' hP with ⟨rfl, _⟩ | ⟨hs, _⟩
    · unfold wiP; rw [h.t1]; decide
    · intro e; rw [e] at hs; exact h0 hs)

/-- buf1 is put into. -/
theorem WI.put1 {w w' : World} {G : Gh} {l : List UInt8} (h : WI w G) (hp : Put w G.wb 12 G.g1 l w') : ∃ g, WI w' (G.b1 g l w.heap.size) ∧ Nx w G (G.b1 g l w.heap.size) ∧ Kept (wiP G) w w' ∧ Hp w G w' := by
  obtain ⟨g, hm, he, hk⟩ := hp
  have hT := tou_eb (w := w) (o := 12) h.t9 (by decide)
  have ow : ∀ {k}, k < w.heap.size → G.own g w.heap.size 9 k = G.T k := fun hk => G.own_old _ _ _ hk
  refine ⟨g, ⟨he, h.k_e2 hk hT (fun j hj => by omega) (by decide), h.k_f hk hT (by decide) (by decide), h.k_p hk hT (by decide) (by decide), h.k_o hk hT (by decide) (by decide), h.k_d hk hT (by decide) (by decide), h.k_s hk hT (by decide), h.k_l hk hT (by decide),
    h.k_c hk hT (fun i hi => by omega), h.k_fr hk, (ow h.e1.lt).trans h.t1, (ow h.f.lt).trans h.t2, (ow h.p.lt).trans h.t3, (ow h.o.lt).trans h.t4, (ow h.d.lt).trans h.t5, (ow h.d.ltb).trans h.t6, (ow (ownsMap_lt h.s)).trans h.t7, (ow (ownsMap_lt h.l)).trans h.t8,
    own_mv hm h.t9 h.gl1, own_keep h.t10 h.gl2, own_keep h.t11 h.f.gl, own_keep h.t12 h.p.gl, own_keep h.t13 h.o.gl, h.c0, h.c44, h.c38, h.c40, h.wn⟩, ⟨fun k hk => ow hk, rfl, rfl, rfl, rfl, rfl, rfl, rfl, rfl, Nat.le_refl _, rfl, rfl⟩, wi_of_tou h hk hT (by decide), Hp.tou h hk hT (by decide) (.inl (by decide))⟩

/-- buf2 is put into. -/
theorem WI.put2 {w w' : World} {G : Gh} {l : List UInt8} (h : WI w G) (hp : Put w G.wb 23 G.g2 l w') : ∃ g, WI w' (G.b2 g l w.heap.size) ∧ Nx w G (G.b2 g l w.heap.size) ∧ Kept (wiP G) w w' ∧ Hp w G w' := by
  obtain ⟨g, hm, he, hk⟩ := hp
  have hT := tou_eb (w := w) (o := 23) h.t10 (by decide)
  have ow : ∀ {k}, k < w.heap.size → G.own g w.heap.size 10 k = G.T k := fun hk => G.own_old _ _ _ hk
  refine ⟨g, ⟨h.k_e1 hk hT (fun j hj => by omega) (by decide), he, h.k_f hk hT (by decide) (by decide), h.k_p hk hT (by decide) (by decide), h.k_o hk hT (by decide) (by decide), h.k_d hk hT (by decide) (by decide), h.k_s hk hT (by decide), h.k_l hk hT (by decide),
    h.k_c hk hT (fun i hi => by omega), h.k_fr hk, (ow h.e1.lt).trans h.t1, (ow h.f.lt).trans h.t2, (ow h.p.lt).trans h.t3, (ow h.o.lt).trans h.t4, (ow h.d.lt).trans h.t5, (ow h.d.ltb).trans h.t6, (ow (ownsMap_lt h.s)).trans h.t7, (ow (ownsMap_lt h.l)).trans h.t8,
    own_keep h.t9 h.gl1, own_mv hm h.t10 h.gl2, own_keep h.t11 h.f.gl, own_keep h.t12 h.p.gl, own_keep h.t13 h.o.gl, h.c0, h.c44, h.c38, h.c40, h.wn⟩, ⟨fun k hk => ow hk, rfl, rfl, rfl, rfl, rfl, rfl, rfl, rfl, Nat.le_refl _, rfl, rfl⟩, wi_of_tou h hk hT (by decide), Hp.tou h hk hT (by decide) (.inl (by decide))⟩

theorem tou_fw {w : World} {G : Gh} {fb a t : Nat} {g : Option Nat} (hf : G.T fb = a) (hg : ∀ k, g = some k → G.T k = t) (ha : a ≠ 1) (ht : t ≠ 1) : Tou w G (fwP fb g) (fun _ => False) (fun s => s = a ∨ s = t) := by
  rintro k o' hk (hP | hP)
  · exact .inr ⟨.inl (hP.1 ▸ hf), by rw [hP.1, hf]; exact ha⟩
  · exact .inr ⟨.inr (hg k hP), by rw [hg k hP]; exact ht⟩

/-- The main file is written to. -/
theorem WI.wrf {w w' : World} {G : Gh} {n : Nat} {l : List UInt8} (h : WI w G) (hp : Wr w G.fb G.gf n l w') (hn : G.wn ≤ n) (hnl : n ≤ l.length) (hfm : G.zm = false) : ∃ g, WI w' (G.ff g l w.heap.size) ∧ Nx w G (G.ff g l w.heap.size) ∧ Kept (wiP G) w w' ∧ Hp w G w' := by
  obtain ⟨g, hm, he, hk, hd, _⟩ := hp
  have hT := tou_fw (w := w) h.t2 h.t11 (by decide) (by decide)
  have ow : ∀ {k}, k < w.heap.size → G.own g w.heap.size 11 k = G.T k := fun hk => G.own_old _ _ _ hk
  refine ⟨g, ⟨h.k_e1 hk hT (fun j hj => id) (by decide), h.k_e2 hk hT (fun j hj => id) (by decide), he, h.k_p hk hT (by decide) (by decide), h.k_o hk hT (by decide) (by decide), h.k_d hk hT (by decide) (by decide), h.k_s hk hT (by decide), h.k_l hk hT (by decide),
    h.k_c hk hT (fun i hi => id), h.k_fr hk, (ow h.e1.lt).trans h.t1, (ow h.f.lt).trans h.t2, (ow h.p.lt).trans h.t3, (ow h.o.lt).trans h.t4, (ow h.d.lt).trans h.t5, (ow h.d.ltb).trans h.t6, (ow (ownsMap_lt h.s)).trans h.t7, (ow (ownsMap_lt h.l)).trans h.t8,
    own_keep h.t9 h.gl1, own_keep h.t10 h.gl2, own_mv hm h.t11 h.f.gl, own_keep h.t12 h.p.gl, own_keep h.t13 h.o.gl, h.c0, h.c44, h.c38, h.c40, Nat.le_trans hn hnl⟩, ⟨fun k hk => ow hk, rfl, rfl, rfl, rfl, rfl, rfl, rfl, rfl, Nat.le_refl _, rfl, rfl⟩, wi_of_tou h hk hT (by decide), ⟨fun b o hb ht ho => ?_, (fun e => by rw [hfm] at e; cases e), fun _ b hb ht => hk.block _ hb (fun o => hT.no h hb ht (by decide) (by decide) o)⟩⟩
  by_cases e : G.gf = some b
  · exact hd b e o (Nat.lt_of_lt_of_le ho hn)
  · refine hk.cell _ _ hb ?_
    rintro (hP | hP)
    · rw [hP.1, h.t2] at ht; cases ht
    · exact e hP

/-- The file of postings is written to. -/
theorem WI.wrp {w w' : World} {G : Gh} {n : Nat} {l : List UInt8} (h : WI w G) (hp : Wr w G.pb G.gp n l w') : ∃ g, WI w' (G.fp g l w.heap.size) ∧ Nx w G (G.fp g l w.heap.size) ∧ Kept (wiP G) w w' ∧ Hp w G w' := by
  obtain ⟨g, hm, he, hk, hd, _⟩ := hp
  have hT := tou_fw (w := w) h.t3 h.t12 (by decide) (by decide)
  have ow : ∀ {k}, k < w.heap.size → G.own g w.heap.size 12 k = G.T k := fun hk => G.own_old _ _ _ hk
  refine ⟨g, ⟨h.k_e1 hk hT (fun j hj => id) (by decide), h.k_e2 hk hT (fun j hj => id) (by decide), h.k_f hk hT (by decide) (by decide), he, h.k_o hk hT (by decide) (by decide), h.k_d hk hT (by decide) (by decide), h.k_s hk hT (by decide), h.k_l hk hT (by decide),
    h.k_c hk hT (fun i hi => id), h.k_fr hk, (ow h.e1.lt).trans h.t1, (ow h.f.lt).trans h.t2, (ow h.p.lt).trans h.t3, (ow h.o.lt).trans h.t4, (ow h.d.lt).trans h.t5, (ow h.d.ltb).trans h.t6, (ow (ownsMap_lt h.s)).trans h.t7, (ow (ownsMap_lt h.l)).trans h.t8,
    own_keep h.t9 h.gl1, own_keep h.t10 h.gl2, own_keep h.t11 h.f.gl, own_mv hm h.t12 h.p.gl, own_keep h.t13 h.o.gl, h.c0, h.c44, h.c38, h.c40, h.wn⟩, ⟨fun k hk => ow hk, rfl, rfl, rfl, rfl, rfl, rfl, rfl, rfl, Nat.le_refl _, rfl, rfl⟩, wi_of_tou h hk hT (by decide), Hp.tou h hk hT (by decide) (.inl (by decide))⟩

/-- The file of offsets is written to. -/
theorem WI.wro {w w' : World} {G : Gh} {n : Nat} {l : List UInt8} (h : WI w G) (hp : Wr w G.ob G.go n l w') (hfo : G.zo = false) : ∃ g, WI w' (G.fo g l w.heap.size) ∧ Nx w G (G.fo g l w.heap.size) ∧ Kept (wiP G) w w' ∧ Hp w G w' := by
  obtain ⟨g, hm, he, hk, hd, _⟩ := hp
  have hT := tou_fw (w := w) h.t4 h.t13 (by decide) (by decide)
  have ow : ∀ {k}, k < w.heap.size → G.own g w.heap.size 13 k = G.T k := fun hk => G.own_old _ _ _ hk
  refine ⟨g, ⟨h.k_e1 hk hT (fun j hj => id) (by decide), h.k_e2 hk hT (fun j hj => id) (by decide), h.k_f hk hT (by decide) (by decide), h.k_p hk hT (by decide) (by decide), he, h.k_d hk hT (by decide) (by decide), h.k_s hk hT (by decide), h.k_l hk hT (by decide),
    h.k_c hk hT (fun i hi => id), h.k_fr hk, (ow h.e1.lt).trans h.t1, (ow h.f.lt).trans h.t2, (ow h.p.lt).trans h.t3, (ow h.o.lt).trans h.t4, (ow h.d.lt).trans h.t5, (ow h.d.ltb).trans h.t6, (ow (ownsMap_lt h.s)).trans h.t7, (ow (ownsMap_lt h.l)).trans h.t8,
    own_keep h.t9 h.gl1, own_keep h.t10 h.gl2, own_keep h.t11 h.f.gl, own_keep h.t12 h.p.gl, own_mv hm h.t13 h.o.gl, h.c0, h.c44, h.c38, h.c40, h.wn⟩, ⟨fun k hk => ow hk, rfl, rfl, rfl, rfl, rfl, rfl, rfl, rfl, Nat.le_refl _, rfl, rfl⟩, wi_of_tou h hk hT (by decide), Hp.tou h hk hT (by decide) (.inr hfo)⟩

/-- The digest alone is turned. -/
theorem WI.dig {w w' : World} {G : Gh} (h : WI w G) (hd : DG w' G.dg G.tb) (hk : Kept (dgP G.dg) w w') : WI w' G ∧ Kept (wiP G) w w' ∧ Hp w G w' := by
  have hT : Tou w G (dgP G.dg) (fun _ => False) (fun s => s = 5) := fun k o hk' hP => .inr ⟨by rw [hP.1]; exact h.t5, by rw [hP.1, h.t5]; decide⟩
  exact ⟨⟨h.k_e1 hk hT (fun j hj => id) (by decide), h.k_e2 hk hT (fun j hj => id) (by decide), h.k_f hk hT (by decide) (by decide), h.k_p hk hT (by decide) (by decide), h.k_o hk hT (by decide) (by decide), hd, h.k_s hk hT (by decide), h.k_l hk hT (by decide),
    h.k_c hk hT (fun i hi => id), h.k_fr hk, h.t1, h.t2, h.t3, h.t4, h.t5, h.t6, h.t7, h.t8, h.t9, h.t10, h.t11, h.t12, h.t13, h.c0, h.c44, h.c38, h.c40, h.wn⟩, wi_of_tou h hk hT (by decide), Hp.tou h hk hT (by decide) (.inl (by decide))⟩

theorem WI.ap1 {w : World} {G : Gh} (h : WI w G) : Apart G.wb G.g1 G.dg G.tb := by
  refine ⟨fun e => ?_, fun e => ?_, fun e => ?_, fun e => ?_⟩
  · have := h.t1; rw [e, h.t5] at this; cases this
  · have := h.t1; rw [e, h.t6] at this; cases this
  · have := h.t9 _ e; rw [h.t5] at this; cases this
  · have := h.t9 _ e; rw [h.t6] at this; cases this
theorem WI.ap2 {w : World} {G : Gh} (h : WI w G) : Apart G.wb G.g2 G.dg G.tb := by
  refine ⟨fun e => ?_, fun e => ?_, fun e => ?_, fun e => ?_⟩
  · have := h.t1; rw [e, h.t5] at this; cases this
  · have := h.t1; rw [e, h.t6] at this; cases this
  · have := h.t10 _ e; rw [h.t5] at this; cases this
  · have := h.t10 _ e; rw [h.t6] at this; cases this

/-- buf1 is hashed and put into. -/
theorem WI.puth1 {w w' : World} {G : Gh} {l : List UInt8} (h : WI w G) (hp : PutH w G.wb 12 G.g1 G.dg G.tb l w') : ∃ g, WI w' (G.b1 g l w.heap.size) ∧ Nx w G (G.b1 g l w.heap.size) ∧ Kept (wiP G) w w' ∧ Hp w G w' := by
  obtain ⟨g, hm, he, hd, hk⟩ := hp
  have hT : Tou w G (fun k o => ebP G.wb 12 G.g1 k o ∨ dgP G.dg k o) (fun i => 12 ≤ i ∧ i ≤ 12 + 10) (fun s => s = 9 ∨ s = 5) := by
    rintro k o hk' (hP | hP)
    · rcases tou_eb (w := w) (o := 12) h.t9 (by decide) k o hk' hP with h1 | h1
      · exact .inl h1
      · exact .inr ⟨.inl h1.1, h1.2⟩
    · exact .inr ⟨.inr (by rw [hP.1]; exact h.t5), by rw [hP.1, h.t5]; decide⟩
  have ow : ∀ {k}, k < w.heap.size → G.own g w.heap.size 9 k = G.T k := fun hk => G.own_old _ _ _ hk
  refine ⟨g, ⟨he, h.k_e2 hk hT (fun j hj => by omega) (by decide), h.k_f hk hT (by decide) (by decide), h.k_p hk hT (by decide) (by decide), h.k_o hk hT (by decide) (by decide), hd, h.k_s hk hT (by decide), h.k_l hk hT (by decide),
    h.k_c hk hT (fun i hi => by omega), h.k_fr hk, (ow h.e1.lt).trans h.t1, (ow h.f.lt).trans h.t2, (ow h.p.lt).trans h.t3, (ow h.o.lt).trans h.t4, (ow h.d.lt).trans h.t5, (ow h.d.ltb).trans h.t6, (ow (ownsMap_lt h.s)).trans h.t7, (ow (ownsMap_lt h.l)).trans h.t8,
    own_mv hm h.t9 h.gl1, own_keep h.t10 h.gl2, own_keep h.t11 h.f.gl, own_keep h.t12 h.p.gl, own_keep h.t13 h.o.gl, h.c0, h.c44, h.c38, h.c40, h.wn⟩, ⟨fun k hk => ow hk, rfl, rfl, rfl, rfl, rfl, rfl, rfl, rfl, Nat.le_refl _, rfl, rfl⟩, wi_of_tou h hk hT (by decide), Hp.tou h hk hT (by decide) (.inl (by decide))⟩

/-- buf2 is hashed and put into. -/
theorem WI.puth2 {w w' : World} {G : Gh} {l : List UInt8} (h : WI w G) (hp : PutH w G.wb 23 G.g2 G.dg G.tb l w') : ∃ g, WI w' (G.b2 g l w.heap.size) ∧ Nx w G (G.b2 g l w.heap.size) ∧ Kept (wiP G) w w' ∧ Hp w G w' := by
  obtain ⟨g, hm, he, hd, hk⟩ := hp
  have hT : Tou w G (fun k o => ebP G.wb 23 G.g2 k o ∨ dgP G.dg k o) (fun i => 23 ≤ i ∧ i ≤ 23 + 10) (fun s => s = 10 ∨ s = 5) := by
    rintro k o hk' (hP | hP)
    · rcases tou_eb (w := w) (o := 23) h.t10 (by decide) k o hk' hP with h1 | h1
      · exact .inl h1
      · exact .inr ⟨.inl h1.1, h1.2⟩
    · exact .inr ⟨.inr (by rw [hP.1]; exact h.t5), by rw [hP.1, h.t5]; decide⟩
  have ow : ∀ {k}, k < w.heap.size → G.own g w.heap.size 10 k = G.T k := fun hk => G.own_old _ _ _ hk
  refine ⟨g, ⟨h.k_e1 hk hT (fun j hj => by omega) (by decide), he, h.k_f hk hT (by decide) (by decide), h.k_p hk hT (by decide) (by decide), h.k_o hk hT (by decide) (by decide), hd, h.k_s hk hT (by decide), h.k_l hk hT (by decide),
    h.k_c hk hT (fun i hi => by omega), h.k_fr hk, (ow h.e1.lt).trans h.t1, (ow h.f.lt).trans h.t2, (ow h.p.lt).trans h.t3, (ow h.o.lt).trans h.t4, (ow h.d.lt).trans h.t5, (ow h.d.ltb).trans h.t6, (ow (ownsMap_lt h.s)).trans h.t7, (ow (ownsMap_lt h.l)).trans h.t8,
    own_keep h.t9 h.gl1, own_mv hm h.t10 h.gl2, own_keep h.t11 h.f.gl, own_keep h.t12 h.p.gl, own_keep h.t13 h.o.gl, h.c0, h.c44, h.c38, h.c40, h.wn⟩, ⟨fun k hk => ow hk, rfl, rfl, rfl, rfl, rfl, rfl, rfl, rfl, Nat.le_refl _, rfl, rfl⟩, wi_of_tou h hk hT (by decide), Hp.tou h hk hT (by decide) (.inl (by decide))⟩

/-- A field of the Writer's own is stored. -/
def Gh.st (G : Gh) (i : Nat) (v : Value) : Gh := { G with cs := fun j => if j = i then v else G.cs j }
theorem WI.set {w : World} {G : Gh} (h : WI w G) (i : Nat) (v : Value) (hi : i < 47) (hr : i < 12 ∨ 33 < i) (h0 : i ≠ 0) (h1 : i ≠ 44) (h2 : i ≠ 38) (h3 : i ≠ 40) :
    WI (w.setCell ⟨G.wb, i, none⟩ v) (G.st i v) ∧ Nx w G (G.st i v) ∧ Kept (wiP G) w (w.setCell ⟨G.wb, i, none⟩ v) ∧ Hp w G (w.setCell ⟨G.wb, i, none⟩ v) := by
  have hk : Kept (fun k o => k = G.wb ∧ o = i) w (w.setCell ⟨G.wb, i, none⟩ v) := Kept.setCell _ _ _ _ ⟨rfl, rfl⟩
  have hT : Tou w G (fun k o => k = G.wb ∧ o = i) (fun o => o = i) (fun _ => False) := fun k o _ hP => .inl hP
  refine ⟨⟨h.k_e1 hk hT (fun j hj => by omega) (by decide), h.k_e2 hk hT (fun j hj => by omega) (by decide), h.k_f hk hT (by decide) (by decide), h.k_p hk hT (by decide) (by decide), h.k_o hk hT (by decide) (by decide), h.k_d hk hT (by decide) (by decide), h.k_s hk hT (by decide), h.k_l hk hT (by decide),
    fun j hj hjr => ?_, h.k_fr hk, h.t1, h.t2, h.t3, h.t4, h.t5, h.t6, h.t7, h.t8, h.t9, h.t10, h.t11, h.t12, h.t13, ?_, ?_, ?_, ?_, h.wn⟩, ⟨fun _ _ => rfl, rfl, rfl, rfl, rfl, rfl, rfl, rfl, rfl, Nat.le_refl _, rfl, rfl⟩, wi_of_tou h hk hT (by decide), Hp.tou h hk hT (by decide) (.inl (by decide))⟩
  · by_cases e : j = i
    · subst e
      show World.cell? _ _ = some (if j = j then v else G.cs j)
      rw [if_pos rfl]
      exact World.cell?_setCell_same _ _ _ (h.c j hj hjr)
    · show World.cell? _ _ = some (if j = i then v else G.cs j)
      rw [if_neg e]
      exact (hk.cell _ _ h.e1.lt (fun hP => e hP.2)).trans (h.c j hj hjr)
  · show (if 0 = i then v else G.cs 0) = _; rw [if_neg (Ne.symm h0)]; exact h.c0
  · show (if 44 = i then v else G.cs 44) = _; rw [if_neg (Ne.symm h1)]; exact h.c44
  · show (if 38 = i then v else G.cs 38) = _; rw [if_neg (Ne.symm h2)]; exact h.c38
  · show (if 40 = i then v else G.cs 40) = _; rw [if_neg (Ne.symm h3)]; exact h.c40

end Go.Proofs.YtfipfoplmopkaaaGreatDoor

namespace Go.Proofs.YtfipfoplmopkaaaGreatDoor
open Go.RowKit Go.Maps

/-- What the walk wants to know of a field. -/
theorem WI.fld {w : World} {G : Gh} (h : WI w G) (i : Nat) (hi : i < 47) (hr : i < 12 ∨ 33 < i) {v : Value} (hv : G.cs i = v) : w.cell? ⟨G.wb, i, none⟩ = some v := by rw [h.c i hi hr, hv]

theorem wWrite_any (wb fb bb bo n c : Nat) (g : Option Nat) (l : List UInt8) (ls : List (List UInt8)) (w : World) (h0 : w.cell? ⟨wb, 0, none⟩ = some (.pointer (some ⟨fb, 0, none⟩))) (h : FW w fb g l) (hr : Rows2 (fwP fb g) w bb bo ls) (hn : ls.length = n) (hn0 : n < 1000000) (hl : l.length + ls.flatten.length < 1000000000) :
    Calls Tryz.prog 56 #[.pointer (some ⟨wb, 0, none⟩), .slice (some ⟨bb, bo, none⟩) n c] w fun e w' => e = .returned .nilIface ∧ Wr w fb g l.length (l ++ ls.flatten) w' := by
  have H := Lib.hid h
  have HR := Lib.hid hr
  have HN := Lib.hid hn
  have HL := Lib.hid hl
  clear h hr hn hl
  go_enter Tryz.func56, Tryz.ntmps56
  go_wp2_with fail
  refine (fwWrite_any fb bb bo n c g l ls w H.out HR.out HN.out hn0 HL.out).mono ?_
  rintro e w1 ⟨rfl, h1⟩
  have H1 := Lib.hid h1
  clear h1
  go_wp2
  go_ret
  exact ⟨rfl, H1.out⟩

theorem wPad_any (wb fb s : Nat) (g : Option Nat) (l : List UInt8) (w : World) (h0 : w.cell? ⟨wb, 0, none⟩ = some (.pointer (some ⟨fb, 0, none⟩))) (h : FW w fb g l) (hs0 : 0 < s) (hs : s ≤ 64) (hl : l.length < 100000000) :
    Calls Tryz.prog 59 #[.pointer (some ⟨wb, 0, none⟩), .int .i64 s] w fun e w' => e = .returned .nilIface ∧ Wr w fb g l.length (l ++ zeros (padN l.length s)) w' := by
  have H := Lib.hid h
  clear h
  go_enter Tryz.func59, Tryz.ntmps59
  go_wp2_with fail
  refine (fwPad_any fb s g l w H.out hs0 hs hl).mono ?_
  rintro e w1 ⟨rfl, h1⟩
  have H1 := Lib.hid h1
  clear h1
  go_wp2
  go_ret
  exact ⟨rfl, H1.out⟩

theorem wWriteAt_any (wb fb p c : Nat) (g : Option Nat) (l k : List UInt8) (ad : Addr) (w : World) (h0 : w.cell? ⟨wb, 0, none⟩ = some (.pointer (some ⟨fb, 0, none⟩))) (h : FW w fb g l) (hk0 : 0 < k.length) (hp : p + k.length ≤ l.length) (hl : l.length < 1000000000)
    (hsrc : ∀ j u, k[j]? = some u → w.cell? (ad.add j) = some (bV u)) :
    Calls Tryz.prog 126 #[.pointer (some ⟨wb, 0, none⟩), .slice (some ad) k.length c, .int .u64 p] w fun e w' => e = .returned .nilIface ∧ FW w' fb g (spl l p k) ∧ Kept (fun i o => g = some i ∧ p ≤ o ∧ o < p + k.length) w w' := by
  have H := Lib.hid h
  have HS := Lib.hid hsrc
  obtain ⟨m, hm⟩ : ∃ m, m = k.length := ⟨_, rfl⟩
  have HM := Lib.hid hm
  have HP := Lib.hid hp
  have HL := Lib.hid hl
  have HK := Lib.hid hk0
  rw [← hm]
  clear h hsrc hm hp hl hk0
  go_enter Tryz.func126, Tryz.ntmps126
  go_wp2_with fail
  have hc := fwWriteAt_any fb p c g l k ad w H.out HK.out HP.out HL.out HS.out
  rw [← HM.out] at hc
  refine hc.mono ?_
  rintro e w1 ⟨rfl, h1, h2⟩
  have H1 := Lib.hid h1
  have H2 := Lib.hid h2
  clear h1 h2 hc
  go_wp2
  go_ret
  exact ⟨rfl, H1.out, H2.out⟩

/-- A slice of slices, made of one of bytes. -/
theorem rows_one {w : World} {v : Value} {fb : Nat} {gf : Option Nat} {l k : List UInt8} (h : FW w fb gf l) (hr : Rd (fwP fb gf) w v k) : Rows2 (fwP fb gf) (w.alloc (.cells #[v] 27)) w.heap.size 0 [k] := by
  intro j lj hj
  match j, hj with
  | 0, hj =>
    simp at hj; subst hj
    refine ⟨v, by rw [Nat.add_zero, World.cell?_alloc_new]; rfl, hr.kept (Kept.alloc (fun _ _ => False) _ _) (fun _ _ _ => False.elim), ?_⟩
    rintro (hP | hP)
    · have := h.lt; omega
    · have := h.gl _ hP; omega
theorem rows_two {w : World} {v v' : Value} {fb : Nat} {gf : Option Nat} {l k k' : List UInt8} (h : FW w fb gf l) (hr : Rd (fwP fb gf) w v k) (hr' : Rd (fwP fb gf) w v' k') : Rows2 (fwP fb gf) (w.alloc (.cells #[v, v'] 27)) w.heap.size 0 [k, k'] := by
  intro j lj hj
  have hn : ∀ o, ¬ fwP fb gf w.heap.size o := by
    rintro o (hP | hP)
    · have := h.lt; omega
    · have := h.gl _ hP; omega
  match j, hj with
  | 0, hj =>
    simp at hj; subst hj
    exact ⟨v, by rw [Nat.add_zero, World.cell?_alloc_new]; rfl, hr.kept (Kept.alloc (fun _ _ => False) _ _) (fun _ _ _ => False.elim), hn _⟩
  | 1, hj =>
    simp at hj; subst hj
    exact ⟨v', by rw [Nat.zero_add, World.cell?_alloc_new]; rfl, hr'.kept (Kept.alloc (fun _ _ => False) _ _) (fun _ _ _ => False.elim), hn _⟩

theorem WI.alloc {w : World} {G : Gh} (h : WI w G) (o : Obj) : WI (w.alloc o) G := h.kept (Kept.alloc (fun _ _ => False) _ _) (fun _ _ _ => False.elim)
theorem WI.drew {w : World} {G : Gh} (h : WI w G) : WI w.drew G := h.kept (Kept.drew (fun _ _ => False) _) (fun _ _ _ => False.elim)

/-- buf1 as something to write. -/
theorem WI.rd1 {w : World} {G : Gh} (h : WI w G) : ∃ ao n c, w.cell? ⟨G.wb, 12, none⟩ = some (.slice ao n c) ∧ Bf w (.slice ao n c) G.g1 G.l1 ∧ ∀ fb gf a b, G.T fb = a → a ≠ 9 → (∀ k, gf = some k → G.T k = b) → b ≠ 9 → Rd (fwP fb gf) w (.slice ao n c) G.l1 := by
  obtain ⟨v, hv, hb⟩ := h.e1.b
  obtain ⟨ao, n, c, rfl⟩ : ∃ ao n c, v = .slice ao n c := by obtain ⟨ao, c, rfl⟩ := own_slice hb.1; exact ⟨_, _, _, rfl⟩
  refine ⟨ao, n, c, hv, hb, fun fb gf a b ha ha' hg hg' => hb.rd ?_⟩
  rintro k o e (hP | hP)
  · have := h.t9 k e; rw [hP.1, ha] at this; exact ha' this
  · have := h.t9 k e; rw [hg k hP] at this; exact hg' this
/-- buf2 as something to write. -/
theorem WI.rd2 {w : World} {G : Gh} (h : WI w G) : ∃ ao n c, w.cell? ⟨G.wb, 23, none⟩ = some (.slice ao n c) ∧ Bf w (.slice ao n c) G.g2 G.l2 ∧ ∀ fb gf a b, G.T fb = a → a ≠ 10 → (∀ k, gf = some k → G.T k = b) → b ≠ 10 → Rd (fwP fb gf) w (.slice ao n c) G.l2 := by
  obtain ⟨v, hv, hb⟩ := h.e2.b
  obtain ⟨ao, n, c, rfl⟩ : ∃ ao n c, v = .slice ao n c := by obtain ⟨ao, c, rfl⟩ := own_slice hb.1; exact ⟨_, _, _, rfl⟩
  refine ⟨ao, n, c, hv, hb, fun fb gf a b ha ha' hg hg' => hb.rd ?_⟩
  rintro k o e (hP | hP)
  · have := h.t10 k e; rw [hP.1, ha] at this; exact ha' this
  · have := h.t10 k e; rw [hg k hP] at this; exact hg' this

/-- From a world to a later one. -/
def Reach (w : World) (G : Gh) (w' : World) (G' : Gh) : Prop := WI w' G' ∧ Nx w G G' ∧ Kept (wiP G) w w' ∧ Hp w G w'
theorem Reach.wi {w w' : World} {G G' : Gh} (h : Reach w G w' G') : WI w' G' := h.1
theorem Reach.nx {w w' : World} {G G' : Gh} (h : Reach w G w' G') : Nx w G G' := h.2.1
theorem Reach.kp {w w' : World} {G G' : Gh} (h : Reach w G w' G') : Kept (wiP G) w w' := h.2.2.1
theorem Reach.hp {w w' : World} {G G' : Gh} (h : Reach w G w' G') : Hp w G w' := h.2.2.2
theorem Reach.refl {w : World} {G : Gh} (h : WI w G) : Reach w G w G := ⟨h, Nx.refl _ _, Kept.refl _ _, Hp.refl _ _⟩
theorem Reach.trans {w w1 w2 : World} {G G1 G2 : Gh} (h : Reach w G w1 G1) (k : Reach w1 G1 w2 G2) : Reach w G w2 G2 := ⟨k.1, h.nx.trans k.nx h.kp.size, KT.trans h.kp h.nx k.kp, Hp.trans h.hp h.nx h.kp.size k.hp⟩
theorem Reach.alloc {w w1 : World} {G G1 : Gh} (h : Reach w G w1 G1) (o : Obj) : Reach w G (w1.alloc o) G1 := h.trans ⟨h.wi.alloc o, Nx.refl _ _, Kept.alloc _ _ _, Hp.none _ (Kept.alloc _ _ _)⟩
theorem Reach.drew {w w1 : World} {G G1 : Gh} (h : Reach w G w1 G1) : Reach w G w1.drew G1 := h.trans ⟨h.wi.drew, Nx.refl _ _, Kept.drew _ _, Hp.none _ (Kept.drew _ _)⟩
/-- What a method of the Writer leaves. -/
def Aft (w : World) (G : Gh) (w' : World) (R : Gh → Prop) : Prop := ∃ G', Reach w G w' G' ∧ R G'

theorem WI.put1r {w w' : World} {G : Gh} {l : List UInt8} (h : WI w G) (hp : Put w G.wb 12 G.g1 l w') : ∃ g, Reach w G w' (G.b1 g l w.heap.size) := h.put1 hp
theorem WI.put2r {w w' : World} {G : Gh} {l : List UInt8} (h : WI w G) (hp : Put w G.wb 23 G.g2 l w') : ∃ g, Reach w G w' (G.b2 g l w.heap.size) := h.put2 hp
theorem WI.puth1r {w w' : World} {G : Gh} {l : List UInt8} (h : WI w G) (hp : PutH w G.wb 12 G.g1 G.dg G.tb l w') : ∃ g, Reach w G w' (G.b1 g l w.heap.size) := h.puth1 hp
theorem WI.puth2r {w w' : World} {G : Gh} {l : List UInt8} (h : WI w G) (hp : PutH w G.wb 23 G.g2 G.dg G.tb l w') : ∃ g, Reach w G w' (G.b2 g l w.heap.size) := h.puth2 hp
theorem WI.wrfr {w w' : World} {G : Gh} {k : List UInt8} (h : WI w G) (hp : Wr w G.fb G.gf G.lf.length (G.lf ++ k) w') (hfm : G.zm = false) : ∃ g, Reach w G w' (G.ff g (G.lf ++ k) w.heap.size) := h.wrf hp h.wn (by simp) hfm
theorem WI.wrpr {w w' : World} {G : Gh} {n : Nat} {l : List UInt8} (h : WI w G) (hp : Wr w G.pb G.gp n l w') : ∃ g, Reach w G w' (G.fp g l w.heap.size) := h.wrp hp
theorem WI.wror {w w' : World} {G : Gh} {n : Nat} {l : List UInt8} (h : WI w G) (hp : Wr w G.ob G.go n l w') (hfo : G.zo = false) : ∃ g, Reach w G w' (G.fo g l w.heap.size) := h.wro hp hfo
theorem WI.setr {w : World} {G : Gh} (h : WI w G) (i : Nat) (v : Value) (hi : i < 47) (hr : i < 12 ∨ 33 < i) (h0 : i ≠ 0) (h1 : i ≠ 44) (h2 : i ≠ 38) (h3 : i ≠ 40) : Reach w G (w.setCell ⟨G.wb, i, none⟩ v) (G.st i v) := h.set i v hi hr h0 h1 h2 h3
theorem WI.digr {w w' : World} {G : Gh} (h : WI w G) (hd : DG w' G.dg G.tb) (hk : Kept (dgP G.dg) w w') : Reach w G w' G := ⟨(h.dig hd hk).1, Nx.refl _ _, (h.dig hd hk).2⟩

def magic : List UInt8 := be32 3131758336 ++ [2]

set_option maxRecDepth 100000 in
set_option maxHeartbeats 1000000 in
/-- Writer.writeMeta. -/
theorem writeMeta_any (w : World) (G : Gh) (h : WI w G) (hl : G.lf.length < 100000000) (hm : G.zm = false) :
    Calls Tryz.prog 125 #[.pointer (some ⟨G.wb, 0, none⟩)] w fun e w' => e = .returned .nilIface ∧ Aft w G w' (fun G' => G'.lf = G.lf ++ magic ∧ G'.cs = G.cs ∧ G'.lp = G.lp ∧ G'.lo = G.lo ∧ G'.ns = G.ns ∧ G'.S = G.S ∧ G'.nl = G.nl ∧ G'.L = G.L) := by
  have H := Lib.hid h
  have HL := Lib.hid hl
  clear h hl
  go_enter Tryz.func125, Tryz.ntmps125
  go_wp2_with fail
  refine (reset_any G.wb 12 G.g1 G.l1 w H.out.e1).mono ?_
  rintro e w1 ⟨rfl, p1⟩
  obtain ⟨g1, r1⟩ := H.out.put1r p1
  have R1 := Lib.hid r1
  clear r1 p1
  go_wp2_with fail
  refine (putBE32_any G.wb 12 g1 [] 3131758336 w1 R1.out.wi.e1 (by simp) (by decide)).mono ?_
  rintro e w2 ⟨rfl, p2⟩
  obtain ⟨g2, r2⟩ := R1.out.wi.put1r p2
  have R2 := Lib.hid (R1.out.trans r2)
  clear r2 p2
  go_wp2_with fail
  refine (putByte_any G.wb 12 g2 (be32 3131758336) 2 w2 R2.out.wi.e1 (by decide)).mono ?_
  rintro e w3 ⟨rfl, p3⟩
  obtain ⟨g3, r3⟩ := R2.out.wi.put1r p3
  have R3 := Lib.hid (R2.out.trans r3)
  clear r3 p3
  obtain ⟨ao, n, c, hv, hb, hrd⟩ := R3.out.wi.rd1
  have HRD := Lib.hid (hrd G.fb G.gf 2 11 R3.out.wi.t2 (by decide) R3.out.wi.t11 (by decide))
  have HV : w3.cell? ⟨G.wb, 12, none⟩ = some (.slice ao n c) := hv
  clear hrd hv hb
  go_wp2_with (go_at_call 49; refine (get_any G.wb 12 _ w3 HV).mono ?_; rintro e w' ⟨rfl, rfl⟩)
  have R4 := Lib.hid (R3.out.alloc (.cells #[.slice ao n c] 27))
  refine (wWrite_any G.wb G.fb w3.heap.size 0 1 1 G.gf G.lf [be32 3131758336 ++ [2]] _ (R4.out.wi.fld 0 (by decide) (by decide) R4.out.wi.c0) R4.out.wi.f (rows_one R3.out.wi.f HRD.out) rfl (by decide) (by have := HL.out; simp [be32]; omega)).mono ?_
  rintro e w5 ⟨rfl, p5⟩
  obtain ⟨g5, r5⟩ := R4.out.wi.wrfr p5 (R4.out.nx.zm.trans hm)
  have R5 := Lib.hid (R4.out.trans r5)
  clear r5 p5
  go_wp2
  go_ret
  exact ⟨rfl, _, R5.out, by simp [Gh.ff, Gh.b1, magic], rfl, rfl, rfl, rfl, rfl, rfl, rfl⟩

end Go.Proofs.YtfipfoplmopkaaaGreatDoor

namespace Go.Proofs.YtfipfoplmopkaaaGreatDoor
open Go.RowKit Go.Maps

/-- The bytes that a literal lays. -/
theorem lit_rd {w : World} {fb : Nat} {gf : Option Nat} {l : List UInt8} (h : FW w fb gf l) (k : List UInt8) (fr : Nat × Nat) : Rd (fwP fb gf) (w.alloc (.cells (bVs k).toArray 5 fr)) (.slice (some ⟨w.heap.size, 0, none⟩) k.length k.length) k := by
  refine ⟨_, _, rfl, (fun e => by cases e), fun j u hj => ⟨w.heap.size, 0, rfl, ?_, ?_⟩⟩
  · rw [Nat.zero_add]
    simp only [World.alloc, World.cell?, Array.getElem?_push]
    simp [bVs, hj]
  · rintro (hP | hP)
    · have := h.lt; omega
    · have := h.gl _ hP; omega

theorem Aft.of {w w' : World} {G G' : Gh} {R : Gh → Prop} (h : Reach w G w' G') (hr : R G') : Aft w G w' R := ⟨G', h, hr⟩

/-- What stays of a Gh where the main file and the bytes alone have turned. -/
structure SameBut (G G' : Gh) : Prop where
  cs : G'.cs = G.cs
  lp : G'.lp = G.lp
  lo : G'.lo = G.lo
  ns : G'.ns = G.ns
  S : G'.S = G.S
  nl : G'.nl = G.nl
  L : G'.L = G.L

def alenblen : List UInt8 := [97, 108, 101, 110, 98, 108, 101, 110]

set_option maxRecDepth 100000 in
set_option maxHeartbeats 1000000 in
/-- Writer.startSymbols. -/
theorem startSymbols_any (w : World) (G : Gh) (h : WI w G) (hl : G.lf.length < 100000000) (hm : G.zm = false) :
    Calls Tryz.prog 93 #[.pointer (some ⟨G.wb, 0, none⟩)] w fun e w' => e = .returned .nilIface ∧ Aft w G w' (fun G' => G'.lf = G.lf ++ alenblen ∧ SameBut G G') := by
  have H := Lib.hid h
  have HL := Lib.hid hl
  clear h hl
  have ev : Hid ((bVs alenblen).toArray = #[Value.int .u8 97, .int .u8 108, .int .u8 101, .int .u8 110, .int .u8 98, .int .u8 108, .int .u8 101, .int .u8 110]) := by exact rfl
  have hr := lit_rd H.out.f alenblen (8, 9)
  rw [ev.out] at hr
  have HR := Lib.hid hr
  clear hr
  have R1 := Lib.hid ((Reach.refl H.out).alloc (.cells #[Value.int .u8 97, .int .u8 108, .int .u8 101, .int .u8 110, .int .u8 98, .int .u8 108, .int .u8 101, .int .u8 110] 5 (8, 9)))
  have R2 := Lib.hid (R1.out.alloc (.cells #[.slice (some ⟨w.heap.size, 0, none⟩) 8 8] 27))
  have hcv := fun (w : World) (C : Array Value) (n c : Nat) => Lib.run_convert_bytes_const (P := Tryz.prog) w 27 5 C n c Tryz.underlying27 Tryz.underlying5
  go_enter Tryz.func93, Tryz.ntmps93
  go_wp2_with fail
  refine (wWrite_any G.wb G.fb (w.heap.size + 1) 0 1 1 G.gf G.lf [alenblen] _ (R2.out.wi.fld 0 (by decide) (by decide) R2.out.wi.c0) R2.out.wi.f ?_ rfl (by decide) (by have := HL.out; simp [alenblen]; omega)).mono ?_
  · have := rows_one (v := .slice (some ⟨w.heap.size, 0, none⟩) 8 8) R1.out.wi.f HR.out
    simpa using this
  rintro e w5 ⟨rfl, p5⟩
  obtain ⟨g5, r5⟩ := R2.out.wi.wrfr p5 hm
  have R5 := Lib.hid (R2.out.trans r5)
  clear r5 p5
  go_wp2
  go_ret
  exact ⟨rfl, _, R5.out, by simp [Gh.ff], ⟨rfl, rfl, rfl, rfl, rfl, rfl, rfl⟩⟩

/-- The stage that is asked for is the present one. -/
theorem ens_same (w : World) (wb s : Nat) (h : w.cell? ⟨wb, 10, none⟩ = some (.int .u8 s)) :
    Calls Tryz.prog 53 #[.pointer (some ⟨wb, 0, none⟩), .int .u8 s] w fun e w' => e = .returned .nilIface ∧ w = w' := by
  have hb : ((s : Int) == (s : Int)) = true := by simp
  go_enter Tryz.func53, Tryz.ntmps53
  go_wp2
  go_ret
  exact ⟨rfl, rfl⟩

end Go.Proofs.YtfipfoplmopkaaaGreatDoor

namespace Go.Proofs.YtfipfoplmopkaaaGreatDoor
open Go.RowKit Go.Maps

theorem turned_kept {w w' : World} {b : Nat} (h : w.mapTurned w' b) : Kept (fun k _ => k = b) w w' :=
  Kept.grown h.grown (fun k o e => by cases e; rfl) (fun k o _ => h.frozen _)

def Gh.sy (G : Gh) (n : Nat) (D : DataW Unit) : Gh := { G with ns := n, S := D }
def Gh.ln (G : Gh) (n : Nat) (D : DataW Unit) : Gh := { G with nl := n, L := D }

/-- The map of symbols is stored into. -/
theorem WI.symr {w w' : World} {G : Gh} (h : WI w G) {n : Nat} {D : DataW Unit} (ho : w'.ownsMap Tryz.prog 9 (plainElem Tryz.prog 94) G.sm n D) (ht : w.mapTurned w' G.sm) : Reach w G w' (G.sy n D) := by
  have hk := turned_kept ht
  have hT : Tou w G (fun k _ => k = G.sm) (fun _ => False) (fun s => s = 7) := fun k o hk' hP => .inr ⟨by rw [hP]; exact h.t7, by rw [hP, h.t7]; decide⟩
  exact ⟨⟨h.k_e1 hk hT (fun j hj => id) (by decide), h.k_e2 hk hT (fun j hj => id) (by decide), h.k_f hk hT (by decide) (by decide), h.k_p hk hT (by decide) (by decide), h.k_o hk hT (by decide) (by decide), h.k_d hk hT (by decide) (by decide), ho, h.k_l hk hT (by decide),
    h.k_c hk hT (fun i hi => id), h.k_fr hk, h.t1, h.t2, h.t3, h.t4, h.t5, h.t6, h.t7, h.t8, h.t9, h.t10, h.t11, h.t12, h.t13, h.c0, h.c44, h.c38, h.c40, h.wn⟩, ⟨fun _ _ => rfl, rfl, rfl, rfl, rfl, rfl, rfl, rfl, rfl, Nat.le_refl _, rfl, rfl⟩, wi_of_tou h hk hT (by decide), Hp.tou h hk hT (by decide) (.inl (by decide))⟩

/-- The map of label names is stored into. -/
theorem WI.lnr {w w' : World} {G : Gh} (h : WI w G) {n : Nat} {D : DataW Unit} (ho : w'.ownsMap Tryz.prog 9 (plainElem Tryz.prog 32) G.lm n D) (ht : w.mapTurned w' G.lm) : Reach w G w' (G.ln n D) := by
  have hk := turned_kept ht
  have hT : Tou w G (fun k _ => k = G.lm) (fun _ => False) (fun s => s = 8) := fun k o hk' hP => .inr ⟨by rw [hP]; exact h.t8, by rw [hP, h.t8]; decide⟩
  exact ⟨⟨h.k_e1 hk hT (fun j hj => id) (by decide), h.k_e2 hk hT (fun j hj => id) (by decide), h.k_f hk hT (by decide) (by decide), h.k_p hk hT (by decide) (by decide), h.k_o hk hT (by decide) (by decide), h.k_d hk hT (by decide) (by decide), h.k_s hk hT (by decide), ho,
    h.k_c hk hT (fun i hi => id), h.k_fr hk, h.t1, h.t2, h.t3, h.t4, h.t5, h.t6, h.t7, h.t8, h.t9, h.t10, h.t11, h.t12, h.t13, h.c0, h.c44, h.c38, h.c40, h.wn⟩, ⟨fun _ _ => rfl, rfl, rfl, rfl, rfl, rfl, rfl, rfl, rfl, Nat.le_refl _, rfl, rfl⟩, wi_of_tou h hk hT (by decide), Hp.tou h hk hT (by decide) (.inl (by decide))⟩

set_option maxRecDepth 100000 in
set_option maxHeartbeats 1000000 in
/-- The first stage. -/
theorem ens1_any (w : World) (G : Gh) (h : WI w G) (hs : G.cs 10 = .int .u8 0) (hl : G.lf.length < 100000000) (hm : G.zm = false) :
    Calls Tryz.prog 53 #[.pointer (some ⟨G.wb, 0, none⟩), .int .u8 1] w fun e w' => e = .returned .nilIface ∧ Aft w G w' (fun G' => G'.lf = G.lf ++ alenblen ∧ G'.cs = (fun j => if j = 10 then .int .u8 1 else if j = 4 then .int .u64 G.lf.length else G.cs j) ∧ G'.lp = G.lp ∧ G'.lo = G.lo ∧ G'.ns = G.ns ∧ G'.S = G.S ∧ G'.nl = G.nl ∧ G'.L = G.L) := by
  have H := Lib.hid h
  have HL := Lib.hid hl
  have f10 := h.fld 10 (by decide) (by decide) hs
  have f0 := h.fld 0 (by decide) (by decide) h.c0
  have f1 : w.cell? ⟨G.fb, 1, none⟩ = some (.int .u64 G.lf.length) := h.f.p
  have fr4 := h.fr 4 (by decide)
  clear h hl
  obtain ⟨c4, hc4⟩ : ∃ v, w.cell? ⟨G.wb, 4, none⟩ = some v := ⟨_, H.out.c 4 (by decide) (by decide)⟩
  go_enter Tryz.func53, Tryz.ntmps53
  have R1 := Lib.hid (H.out.setr 4 (.int .u64 G.lf.length) (by decide) (by decide) (by decide) (by decide) (by decide) (by decide))
  go_wp2_with fail
  refine (startSymbols_any _ (G.st 4 (.int .u64 G.lf.length)) R1.out.wi HL.out hm).mono ?_
  rintro e w2 ⟨rfl, G2, r2, hl2, sb⟩
  have R2 := Lib.hid (R1.out.trans r2)
  have hwb : G2.wb = G.wb := r2.nx.wb
  have f10' := R2.out.wi.fld 10 (by decide) (by decide) (v := .int .u8 0) (by rw [sb.cs]; exact hs)
  have fr10 := R2.out.wi.fr 10 (by decide)
  have R3 := Lib.hid (R2.out.wi.setr 10 (.int .u8 1) (by decide) (by decide) (by decide) (by decide) (by decide) (by decide))
  rw [hwb] at f10' fr10
  have SB := Lib.hid sb
  have HL2 := Lib.hid hl2
  clear r2 sb hl2
  go_wp2
  go_ret
  rw [← hwb]
  refine ⟨rfl, _, R2.out.trans R3.out, HL2.out, ?_, SB.out.lp, SB.out.lo, SB.out.ns, SB.out.S, SB.out.nl, SB.out.L⟩
  funext j
  show (if j = 10 then _ else G2.cs j) = _
  rw [SB.out.cs]
  rfl

end Go.Proofs.YtfipfoplmopkaaaGreatDoor
