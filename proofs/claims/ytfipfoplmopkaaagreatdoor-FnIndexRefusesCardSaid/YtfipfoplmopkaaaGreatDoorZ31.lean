/- writePostingsToTmpFiles: what the loops over the series keep. Conditions: bounds on lengths. writePostingsToTmpFiles: what the loops that write the postings out want. Conditions: bounds on lengths. writePostingsToTmpFiles: behind the append the outer map answers as it did. Conditions: bounds on lengths. The loops of a function's code, taken out of the translation (outer before inner, in the code's order). -/
import Derived.Test.YtfipfoplmopkaaaGreatDoorZ29
import Derived.Test.YtfipfoplmopkaaaGreatDoorZ23
import Derived.Laws.IdiomRangeMap

namespace Go.Proofs.YtfipfoplmopkaaaGreatDoor
open Go.RowKit Go.Maps

/-- The postings' view, the names to come, the names of the batch. -/
structure PS (w0 : World) (G0 : Gh) (V : Vw) (F : Fx) (sf cap g no bb : Nat) (NM BN : List (List UInt8)) (PL : List PE) (l1 l2 lp : List UInt8) (go : Option Nat) (wr : World) (Gr : Gh) : Prop where
  P : PT w0 G0 V F sf cap wr Gr PL l1 l2 lp go
  N : NR w0 wr Gr V g no NM
  B : NR w0 wr Gr V bb 0 BN
  gs : g ≠ sf
  bs : bb ≠ sf
  bg : bb ≠ g

/-- What is local and none of what lies fast. -/
def Lo (w0 : World) (Gr : Gh) (sf g bb k : Nat) : Prop := w0.heap.size ≤ k ∧ Gr.T k = 0 ∧ k ≠ sf ∧ k ≠ g ∧ k ≠ bb

section
variable {w0 wr wa w' : World} {G0 Gr G' : Gh} {V : Vw} {F : Fx} {sf cap g no bb ns db ob n : Nat} {PL PL' : List PE} {l1 l2 lp l1' l2' lp' : List UInt8} {go go' : Option Nat} {NM BN : List (List UInt8)} {v v' : Value} {x : List UInt8}

theorem B4.ps {ab : Option Addr} {nb cb : Nat} (h : B4 w0 G0 V F sf cap g no wr Gr PL l1 l2 lp go NM BN (.slice ab nb cb)) (hn : nb = BN.length) (h0 : 0 < nb) : ∃ bb, ab = some ⟨bb, 0, none⟩ ∧ PS w0 G0 V F sf cap g no bb NM BN PL l1 l2 lp go wr Gr := by
  rcases h.row.2 with ⟨he, h0'⟩ | ⟨b2, cap2, cur, he, hbase, hb, h1, h2, h3, h4⟩
  · omega
  · injection he with e1 e2 e3
    subst e1
    have hob : (Value.slice (some ⟨b2, 0, none⟩) nb cb).ownBlock = some b2 := rfl
    have hr := h.rb b2 hob
    refine ⟨b2, rfl, h.P, h.N, ⟨fun i y hi => ?_, hr.2.1, hr.1, (h.row.lt b2 hob).2, h.has⟩, h.gs, hr.2.2.1, hr.2.2.2⟩
    have h5 := h.row.cells hob i (encStr y) (by simp [hi])
    rw [Addr.add_lit, Nat.zero_add] at h5
    rw [Nat.zero_add]
    exact h5

theorem PS.loc (h : PS w0 G0 V F sf cap g no bb NM BN PL l1 l2 lp go wr Gr) {P : Nat → Nat → Prop} (hk : Kept P wr w') (hP : ∀ k o, k < wr.heap.size → P k o → Lo w0 Gr sf g bb k) :
    ∃ G', PS w0 G0 V F sf cap g no bb NM BN PL l1 l2 lp go w' G' ∧ (∀ k, wr.heap.size ≤ k → G'.T k = 0) ∧ ∀ k, k < wr.heap.size → G'.T k = Gr.T k := by
  obtain ⟨G', p', tn, tO⟩ := h.P.loc hk (fun k o hk' e => ⟨(hP k o hk' e).1, (hP k o hk' e).2.1, (hP k o hk' e).2.2.1⟩)
  have hg := h.N.lt
  have hb := h.B.lt
  exact ⟨G', ⟨p', h.N.blk (hk.block g hg (fun o e => (hP g o hg e).2.2.2.1 rfl)) (tO g hg) hk.size, h.B.blk (hk.block bb hb (fun o e => (hP bb o hb e).2.2.2.2 rfl)) (tO bb hb) hk.size, h.gs, h.bs, h.bg⟩, tn, tO⟩
theorem PS.drewN (h : PS w0 G0 V F sf cap g no bb NM BN PL l1 l2 lp go wr Gr) (m : Nat) : PS w0 G0 V F sf cap g no bb NM BN PL l1 l2 lp go (wr.drewN m) Gr := ⟨h.P.drewN m, h.N.drewN m, h.B.drewN m, h.gs, h.bs, h.bg⟩
/-- Behind a step of the Writer's. -/
theorem PS.step (h : PS w0 G0 V F sf cap g no bb NM BN PL l1 l2 lp go wr Gr) (p : PT w0 G0 V F sf cap w' G' PL' l1' l2' lp' go') (r : Reach wr Gr w' G') : PS w0 G0 V F sf cap g no bb NM BN PL' l1' l2' lp' go' w' G' :=
  ⟨p, h.N.blk (KT.block r.kp h.N.lt h.N.t) (r.nx.T _ h.N.lt) r.kp.size, h.B.blk (KT.block r.kp h.B.lt h.B.t) (r.nx.T _ h.B.lt) r.kp.size, h.gs, h.bs, h.bg⟩
theorem PS.lo (h : PS w0 G0 V F sf cap g no bb NM BN PL l1 l2 lp go wr Gr) (tn : ∀ k, wr.heap.size ≤ k → G'.T k = 0) {k : Nat} (hk : wr.heap.size ≤ k) : Lo w0 G' sf g bb k := by
  have h1 := h.P.R.kp.size
  have h2 := h.N.lt
  have h3 := h.B.lt
  have h4 : sf < wr.heap.size := World.block_lt_of_cell? _ _ h.P.fc
  exact ⟨by omega, tn k hk, by omega, by omega, by omega⟩

/-- .. and the names' numbers in the map ns. -/
structure N5 (w0 : World) (G0 : Gh) (V : Vw) (F : Fx) (sf cap g no bb ns : Nat) (NM BN : List (List UInt8)) (PL : List PE) (l1 l2 lp : List UInt8) (go : Option Nat) (k : Nat) (wr : World) (Gr : Gh) : Prop where
  S : PS w0 G0 V F sf cap g no bb NM BN PL l1 l2 lp go wr Gr
  m : RM wr ns k (fun _ _ => True)
  t : Lo w0 Gr sf g bb ns
theorem N5.start (h : PS w0 G0 V F sf cap g no bb NM BN PL l1 l2 lp go wr Gr) : ∃ G', N5 w0 G0 V F sf cap g no bb wr.heap.size NM BN PL l1 l2 lp go 0 (wr.alloc (.map #[] 0)) G' := by
  obtain ⟨G', s', tn, tO⟩ := h.loc (Kept.alloc (fun _ _ => False) wr (.map #[] 0)) (fun _ _ _ => False.elim)
  exact ⟨G', s', RM.made _ _, h.lo tn (Nat.le_refl _)⟩
theorem N5.put {k c : Nat} (h : N5 w0 G0 V F sf cap g no bb ns NM BN PL l1 l2 lp go k wr Gr) (hk : k < 1000000000) (hc : c < 4294967296) (x : Value) : ∃ w' G', (Instr.mapUpdate 212 (.map (some ns)) (.int .u32 (c : Int)) x).run Tryz.prog wr = .ok () w' ∧ N5 w0 G0 V F sf cap g no bb ns NM BN PL l1 l2 lp go (k + 1) w' G' := by
  obtain ⟨w', h1, h2, h3, _⟩ := h.m.put Tryz.underlying212 (by unfold maxLen; omega) hc x
  obtain ⟨G', s', tn, tO⟩ := h.S.loc h3 (fun i o _ e => by rw [e]; exact h.t)
  exact ⟨w', G', h1, s', h2.imp (Nat.le_refl _) (fun _ _ _ => trivial), h.t.1, (tO ns h.m.lt).trans h.t.2.1, h.t.2.2⟩
theorem N5.look {k a : Nat} (h : N5 w0 G0 V F sf cap g no bb ns NM BN PL l1 l2 lp go k wr Gr) (ha : a < 4294967296) : ∃ (ok : Bool) (v : Value), (Instr.lookup 212 (.map (some ns)) (.int .u32 (a : Int)) true).run Tryz.prog wr = .ok (.tuple #[v, .bool ok]) wr := by
  obtain ⟨ok, v, h1, _⟩ := h.m.look Tryz.underlying212 (z := .string ByteArray.empty) (fun _ => by kernel_rfl) ha
  exact ⟨ok, v, h1⟩

theorem N5.alloc {k : Nat} (h : N5 w0 G0 V F sf cap g no bb ns NM BN PL l1 l2 lp go k wr Gr) (o : Obj) : ∃ G', N5 w0 G0 V F sf cap g no bb ns NM BN PL l1 l2 lp go k (wr.alloc o) G' := by
  have ka := Kept.alloc (fun _ _ => False) wr o
  obtain ⟨G', s', tn, tO⟩ := h.S.loc ka (fun _ _ _ => False.elim)
  exact ⟨G', s', h.m.kept ka (fun _ => id), h.t.1, (tO ns h.m.lt).trans h.t.2.1, h.t.2.2⟩

/-- Where the postings' blocks lie. -/
def La (w0 : World) (Gr : Gh) (sf g bb ns db k : Nat) : Prop := Lo w0 Gr sf g bb k ∧ k ≠ ns ∧ k ≠ db
/-- .. and the Decbuf at db with l still to be read, the postings at ob. -/
structure L6 (w0 : World) (G0 : Gh) (V : Vw) (F : Fx) (sf cap g no bb ns db ob : Nat) (NM BN : List (List UInt8)) (PL : List PE) (l1 l2 lp : List UInt8) (go : Option Nat) (kn ko k cnt : Nat) (O : Ow) (l : List UInt8) (wr : World) (Gr : Gh) : Prop where
  S : PS w0 G0 V F sf cap g no bb NM BN PL l1 l2 lp go wr Gr
  m : RM wr ns kn (fun _ _ => True)
  t : Lo w0 Gr sf g bb ns
  d : DB wr db F.b l
  td : Lo w0 Gr sf g bb db
  nd : ns ≠ db
  pm : PM wr O (La w0 Gr sf g bb ns db) cnt ko k ob
theorem PM.impA {O : Ow} {A B : Nat → Prop} {cnt ko k : Nat} (h : PM wr O A cnt ko k ob) (hB : ∀ i, i < wr.heap.size → A i → B i) : PM wr O B cnt ko k ob := ⟨h.o, h.m, fun i hi => ⟨(h.a i hi).1, hB i (h.a i hi).1 (h.a i hi).2⟩⟩

variable {kn ko k cnt : Nat} {O O' : Ow} {l l' : List UInt8}
theorem L6.dbs (h : L6 w0 G0 V F sf cap g no bb ns db ob NM BN PL l1 l2 lp go kn ko k cnt O l wr Gr) (hk : Kept (dbP db) wr w') (hd : DB w' db F.b l') : ∃ G', L6 w0 G0 V F sf cap g no bb ns db ob NM BN PL l1 l2 lp go kn ko k cnt O l' w' G' := by
  obtain ⟨G', s', tn, tO⟩ := h.S.loc hk (fun i o _ e => by unfold dbP at e; rw [e]; exact h.td)
  have hm := h.m.lt
  have hdl := h.d.lt
  exact ⟨G', s', h.m.kept hk (fun _ e => h.nd e), ⟨h.t.1, (tO ns hm).trans h.t.2.1, h.t.2.2⟩, hd, ⟨h.td.1, (tO db hdl).trans h.td.2.1, h.td.2.2⟩, h.nd,
    h.pm.kept hk (fun i hi _ e => (h.pm.a i hi).2.2.2 e) (Nat.le_refl _) (Nat.le_refl _) (fun i hi hA => ⟨⟨hA.1.1, (tO i hi).trans hA.1.2.1, hA.1.2.2⟩, hA.2⟩)⟩
theorem L6.drewN (h : L6 w0 G0 V F sf cap g no bb ns db ob NM BN PL l1 l2 lp go kn ko k cnt O l wr Gr) (m : Nat) : L6 w0 G0 V F sf cap g no bb ns db ob NM BN PL l1 l2 lp go kn ko k cnt O l (wr.drewN m) Gr := by
  have kk : Kept (fun _ _ => False) wr (wr.drewN m) := ⟨rfl, rfl, rfl, Nat.le_refl _, fun _ _ _ _ => rfl, fun _ _ _ => rfl, fun _ _ _ => rfl⟩
  exact ⟨h.S.drewN m, h.m.kept kk (fun _ => id), h.t, h.d.kept kk (fun _ => id) (fun _ _ => id), h.td, h.nd, h.pm.kept kk (fun _ _ _ => id) (Nat.le_refl _) (Nat.le_refl _) (fun _ _ h => h)⟩

/-- The postings have been turned. -/
theorem L6.turn {B : Nat → Prop} {ko' k' : Nat} (h : L6 w0 G0 V F sf cap g no bb ns db ob NM BN PL l1 l2 lp go kn ko k cnt O l wr Gr) (hk : Kept (pmP O) wr w') (hp : PM w' O' B cnt ko' k' ob) (hB : ∀ i, B i → i < wr.heap.size → La w0 Gr sf g bb ns db i) : ∃ G', L6 w0 G0 V F sf cap g no bb ns db ob NM BN PL l1 l2 lp go kn ko' k' cnt O' l w' G' := by
  have hb : F.b < w0.heap.size := h.S.P.bl
  obtain ⟨G', s', tn, tO⟩ := h.S.loc hk (fun i o _ e => (h.pm.a i e).2.1)
  have hm := h.m.lt
  have hdl := h.d.lt
  refine ⟨G', s', h.m.kept hk (fun _ e => (h.pm.a ns e).2.2.1 rfl), ⟨h.t.1, (tO ns hm).trans h.t.2.1, h.t.2.2⟩, h.d.kept hk (fun _ e => (h.pm.a db e).2.2.2 rfl) (fun _ _ e => ?_), ⟨h.td.1, (tO db hdl).trans h.td.2.1, h.td.2.2⟩, h.nd, hp.impA (fun i hi hBi => ?_)⟩
  · have := (h.pm.a F.b e).2.1.1
    omega
  · rcases Nat.lt_or_ge i wr.heap.size with hlt | hge
    · have hA := hB i hBi hlt
      exact ⟨⟨hA.1.1, (tO i hlt).trans hA.1.2.1, hA.1.2.2⟩, hA.2⟩
    · exact ⟨h.S.lo tn hge, by omega, by omega⟩

theorem L6.start {wx : World} {k0 : Nat} (h : N5 w0 G0 V F sf cap g no bb ns NM BN PL l1 l2 lp go k0 wr Gr) (hk : Kept (fun _ _ => False) (wr.alloc (.map #[] 0)) wx) (hd : DB wx db F.b l) (hdb : wr.heap.size + 1 ≤ db) :
    ∃ G' O', L6 w0 G0 V F sf cap g no bb ns db wr.heap.size NM BN PL l1 l2 lp go k0 0 0 cnt O' l wx G' := by
  have ka := Kept.alloc (fun _ _ => False) wr (.map #[] 0)
  have kk := ka.trans hk (fun _ _ _ => id)
  obtain ⟨G', s', tn, tO⟩ := h.S.loc kk (fun _ _ _ => False.elim)
  have hm := h.m.lt
  have hsz : (wr.alloc (.map #[] 0)).heap.size = wr.heap.size + 1 := by simp
  have hp := (PM.made wr (fun i => i = wr.heap.size) cnt rfl).kept (B := La w0 G' sf g bb ns db) (ko' := 0) (k' := 0) hk (fun _ _ _ => id) (Nat.le_refl _) (Nat.le_refl _) (fun i _ hi => ⟨h.S.lo tn (by omega), by omega, by omega⟩)
  exact ⟨G', _, s', h.m.kept kk (fun _ => id), ⟨h.t.1, (tO ns hm).trans h.t.2.1, h.t.2.2⟩, hd, h.S.lo tn (by omega), by omega, hp⟩

theorem zero213 (w : World) : (zeroValue 215).run Tryz.prog w = .ok (.map none) w := by kernel_rfl
theorem zero215 (w : World) : (zeroValue 149).run Tryz.prog w = .ok (.slice none 0 0) w := by kernel_rfl

/-- postings[a] = map{}, behind the new map. -/
theorem L6.newmap {a : Nat} (h : L6 w0 G0 V F sf cap g no bb ns db ob NM BN PL l1 l2 lp go kn ko k cnt O l wr Gr) (hk : ko < 1000000000) (ha : a < 4294967296) :
    ∃ w' O' G', (Instr.mapUpdate 213 (.map (some ob)) (.int .u32 (a : Int)) (.map (some wr.heap.size))).run Tryz.prog (wr.alloc (.map #[] 0)) = .ok () w' ∧ L6 w0 G0 V F sf cap g no bb ns db ob NM BN PL l1 l2 lp go kn (ko + 1) k cnt O' l w' G' ∧ PMa w' O' (La w0 G' sf g bb ns db) cnt (ko + 1) k ob a wr.heap.size := by
  have ka : Kept (fun _ _ => False) wr (wr.alloc (.map #[] 0)) := Kept.alloc _ _ _
  have hO : (O wr.heap.size).1 = 0 := by
    cases h6 : (O wr.heap.size).1 with
    | zero => rfl
    | succ m => have := (h.pm.a wr.heap.size (by rw [h6]; exact Nat.succ_ne_zero _)).1; omega
  have hpm := h.pm.kept (B := fun i => (i < wr.heap.size ∧ La w0 Gr sf g bb ns db i) ∨ wr.heap.size ≤ i) (ko' := ko) (k' := k) ka (fun _ _ _ => id) (Nat.le_refl _) (Nat.le_refl _) (fun i hi hA => .inl ⟨hi, hA⟩)
  obtain ⟨w', O', h1, h2, h3⟩ := hpm.newmap Tryz.underlying213 hk ha (RM.made wr _) hO (.inr (Nat.le_refl _))
  have kk : Kept (pmP O) wr w' := (ka.mono (Q := pmP O) (fun _ _ _ e => e.elim)).trans h3 (fun _ _ _ e => e)
  obtain ⟨G', l6⟩ := h.turn kk h2.p (fun i hB hlt => by rcases hB with hB | hB; exact hB.2; omega)
  refine ⟨w', O', G', h1, l6, l6.pm, h2.m, h2.o, h2.i, h2.r⟩

/-- postings[a][c] = append(postings[a][c], x), behind the append. -/
theorem L6.app {a c mb n y : Nat} {w1 w2 : World} {xs : List Nat} (h : L6 w0 G0 V F sf cap g no bb ns db ob NM BN PL l1 l2 lp go kn ko k cnt O l wr Gr) (hp : PMa wr O (La w0 Gr sf g bb ns db) cnt ko k ob a mb) (hk : k < 1000000000) (hc : c < cnt) (hc9 : c < 4294967296)
    (h1 : wr.ownsRow 0 94 1 v xs.length (xs.map u32V)) (h2 : xs.length ≤ k) (h3 : ∀ z ∈ xs, z < 4294967296) (h4 : ∀ i, v.ownBlock = some i → O i = (3, a, c)) (ka : Kept (fun _ _ => False) wr w1) (hn : n = xs.length) (hx : y < 4294967296)
    (ha : App w1 w2 94 1 v v' (n + 1) (xs.map u32V ++ [.int .u32 y])) :
    ∃ w3 O' G', (Instr.mapUpdate 215 (.map (some mb)) (.int .u32 (c : Int)) v').run Tryz.prog w2 = .ok () w3 ∧ L6 w0 G0 V F sf cap g no bb ns db ob NM BN PL l1 l2 lp go kn ko (k + 1) cnt O' l w3 G' := by
  obtain ⟨w3, O', r1, r2, r3⟩ := hp.push (B := fun i => (i < wr.heap.size ∧ La w0 Gr sf g bb ns db i) ∨ wr.heap.size ≤ i) Tryz.underlying215 hk hc hc9 h1 h2 h3 h4 ka hn hx ha (fun i hi hA => .inl ⟨hi, hA⟩) (fun i hi => .inr hi)
  obtain ⟨G', l6⟩ := h.turn r3 r2 (fun i hB hlt => by rcases hB with hB | hB; exact hB.2; omega)
  exact ⟨w3, O', G', r1, l6⟩
theorem L6.nsl {a : Nat} (h : L6 w0 G0 V F sf cap g no bb ns db ob NM BN PL l1 l2 lp go kn ko k cnt O l wr Gr) (ha : a < 4294967296) : ∃ (ok : Bool) (v : Value), (Instr.lookup 212 (.map (some ns)) (.int .u32 (a : Int)) true).run Tryz.prog wr = .ok (.tuple #[v, .bool ok]) wr := by
  obtain ⟨ok, v, h1, _⟩ := h.m.look Tryz.underlying212 (z := .string ByteArray.empty) (fun _ => by kernel_rfl) ha
  exact ⟨ok, v, h1⟩
/-- What region 70 wants behind its append. -/
theorem L6.app2 {a c mb n y : Nat} {o : Obj} {w2 : World} {xs : List Nat} (h : L6 w0 G0 V F sf cap g no bb ns db ob NM BN PL l1 l2 lp go kn ko k cnt O l wr Gr) (hp : PMa wr O (La w0 Gr sf g bb ns db) cnt ko k ob a mb) (hk : k < 1000000000) (hc : c < cnt) (ha9 : a < 4294967296) (hc9 : c < 4294967296)
    (h1 : wr.ownsRow 0 94 1 v xs.length (xs.map u32V)) (h2 : xs.length ≤ k) (h3 : ∀ z ∈ xs, z < 4294967296) (h4 : ∀ i, v.ownBlock = some i → O i = (3, a, c)) (hn : n = xs.length) (hx : y < 4294967296)
    (ha : App (wr.drew.alloc o) w2 94 1 v v' (n + 1) (xs.map u32V ++ [.int .u32 y])) :
    (Instr.lookup 213 (.map (some ob)) (.int .u32 (a : Int)) false).run Tryz.prog w2 = .ok (.map (some mb)) w2 ∧
    ∃ w3 O' G', (Instr.mapUpdate 215 (.map (some mb)) (.int .u32 (c : Int)) v').run Tryz.prog w2 = .ok () w3 ∧ L6 w0 G0 V F sf cap g no bb ns db ob NM BN PL l1 l2 lp go kn ko (k + 1) cnt O' l w3 G' := by
  have ka : Kept (fun _ _ => False) wr (wr.drew.alloc o) := (Kept.drew _ _).trans (Kept.alloc _ _ _) (fun _ _ _ => id)
  refine ⟨?_, h.app hp hk hc hc9 h1 h2 h3 h4 ka hn hx ha⟩
  have hrow := ownsRow_block h1 (w' := wr.drew.alloc o) (fun i e => ka.block i (h1.lt i e).2 (fun _ => id))
  have k2 := (ka.mono (Q := fun i _ => v.ownBlock = some i) (fun _ _ _ => False.elim)).trans (ha.kept hrow) (fun _ _ _ h => h)
  exact hp.outer Tryz.underlying213 zero213 ha9 (k2.block ob hp.m.lt (fun _ e => by have := h4 ob e; rw [hp.p.o] at this; cases this))
theorem PMa.out1 {w : World} {A : Nat → Prop} {a mb : Nat} (h : PMa w O A cnt ko k ob a mb) (ha : a < 4294967296) : (Instr.lookup 213 (.map (some ob)) (.int .u32 (a : Int)) false).run Tryz.prog w.drew = .ok (.map (some mb)) w.drew ∧ ∀ o, (Instr.lookup 213 (.map (some ob)) (.int .u32 (a : Int)) false).run Tryz.prog (w.drew.alloc o) = .ok (.map (some mb)) (w.drew.alloc o) :=
  ⟨h.outer Tryz.underlying213 zero213 ha rfl, fun o => h.outer Tryz.underlying213 zero213 ha (heap_alloc_old w.drew o h.m.lt)⟩
theorem PMa.in1 {w : World} {A : Nat → Prop} {a mb c : Nat} (h : PMa w O A cnt ko k ob a mb) (hc : c < 4294967296) : ∃ v, ((Instr.lookup 215 (.map (some mb)) (.int .u32 (c : Int)) false).run Tryz.prog w.drew = .ok v w.drew ∧ ∀ o, (Instr.lookup 215 (.map (some mb)) (.int .u32 (c : Int)) false).run Tryz.prog (w.drew.alloc o) = .ok v (w.drew.alloc o)) ∧ SVp w O k a c v := by
  obtain ⟨v, h1, h2⟩ := h.look Tryz.underlying215 zero215 hc
  exact ⟨v, ⟨h1 _ rfl, fun o => h1 _ (heap_alloc_old w.drew o h.i.lt)⟩, h2⟩

/-- The postings read through: the loops that write them out. -/
structure L8 (w0 : World) (G0 : Gh) (V : Vw) (F : Fx) (sf cap g no bb ob : Nat) (NM BN : List (List UInt8)) (PL : List PE) (l1 l2 lp : List UInt8) (go : Option Nat) (ko k cnt : Nat) (O : Ow) (wr : World) (Gr : Gh) : Prop where
  S : PS w0 G0 V F sf cap g no bb NM BN PL l1 l2 lp go wr Gr
  pm : PM wr O (Lo w0 Gr sf g bb) cnt ko k ob
theorem L6.l8 (h : L6 w0 G0 V F sf cap g no bb ns db ob NM BN PL l1 l2 lp go kn ko k cnt O l wr Gr) : L8 w0 G0 V F sf cap g no bb ob NM BN PL l1 l2 lp go ko k cnt O wr Gr := ⟨h.S, h.pm.impA (fun _ _ h => h.1)⟩
theorem L8.step (h : L8 w0 G0 V F sf cap g no bb ob NM BN PL l1 l2 lp go ko k cnt O wr Gr) (p : PT w0 G0 V F sf cap w' G' PL' l1' l2' lp' go') (r : Reach wr Gr w' G') : L8 w0 G0 V F sf cap g no bb ob NM BN PL' l1' l2' lp' go' ko k cnt O w' G' :=
  ⟨h.S.step p r, h.pm.kept r.kp (fun i hi _ e => e (h.pm.a i hi).2.2.1) (Nat.le_refl _) (Nat.le_refl _) (fun i hi hA => ⟨hA.1, (r.nx.T i hi).trans hA.2.1, hA.2.2⟩)⟩
theorem L8.loc (h : L8 w0 G0 V F sf cap g no bb ob NM BN PL l1 l2 lp go ko k cnt O wr Gr) {P : Nat → Nat → Prop} (hk : Kept P wr w') (hP : ∀ i o, i < wr.heap.size → P i o → Lo w0 Gr sf g bb i ∧ (O i).1 = 0) :
    ∃ G', L8 w0 G0 V F sf cap g no bb ob NM BN PL l1 l2 lp go ko k cnt O w' G' ∧ (∀ i, wr.heap.size ≤ i → G'.T i = 0) ∧ ∀ i, i < wr.heap.size → G'.T i = Gr.T i := by
  obtain ⟨G', s', tn, tO⟩ := h.S.loc hk (fun i o hi e => (hP i o hi e).1)
  exact ⟨G', ⟨s', h.pm.kept hk (fun i hi o e => hi (hP i o (h.pm.a i hi).1 e).2) (Nat.le_refl _) (Nat.le_refl _) (fun i hi hA => ⟨hA.1, (tO i hi).trans hA.2.1, hA.2.2⟩)⟩, tn, tO⟩
theorem PM.new0 {A : Nat → Prop} (h : PM wr O A cnt ko k ob) {i : Nat} (hi : wr.heap.size ≤ i) : (O i).1 = 0 := by
  cases h6 : (O i).1 with
  | zero => rfl
  | succ m => have := (h.a i (by rw [h6]; exact Nat.succ_ne_zero _)).1; omega

/-- .. and the values' numbers, as they are gathered: cnt2 are still to come from the map mb, by the iterator r. -/
structure V9 (w0 : World) (G0 : Gh) (V : Vw) (F : Fx) (sf cap g no bb ob : Nat) (NM BN : List (List UInt8)) (PL : List PE) (l1 l2 lp : List UInt8) (go : Option Nat) (ko k cnt : Nat) (O : Ow) (r cnt2 : Nat) (E : Nat → World → Prop) (v : Value) (vs : List Nat) (wr : World) (Gr : Gh) : Prop where
  L : L8 w0 G0 V F sf cap g no bb ob NM BN PL l1 l2 lp go ko k cnt O wr Gr
  e : E cnt2 wr
  row : wr.ownsRow 0 94 1 v vs.length (vs.map u32V)
  ob : ∃ i, v.ownBlock = some i ∧ Lo w0 Gr sf g bb i ∧ (O i).1 = 0 ∧ i ≠ r
  tr : Lo w0 Gr sf g bb r ∧ (O r).1 = 0 ∧ r < wr.heap.size
  vl : ∀ x ∈ vs, x < cnt
  bd : vs.length + cnt2 ≤ 200

/-- Behind the next number. -/
theorem V9.step {r cnt2 cnt2' x m : Nat} {E : Nat → World → Prop} {w1 w2 : World} {vs : List Nat} {o : Obj} (h : V9 w0 G0 V F sf cap g no bb ob NM BN PL l1 l2 lp go ko k cnt O r cnt2 E v vs wr Gr) (hk1 : Kept (fun i _ => i = r) wr w1) (hlt : cnt2' < cnt2)
    (hE : ∀ w2, Kept (fun i _ => v.ownBlock = some i) w1 w2 → E cnt2' w2) (hx : x < cnt) (hm : m = vs.length) (ha : App (w1.alloc o) w2 94 1 v v' (m + 1) (vs.map u32V ++ [.int .u32 x])) :
    ∃ G', V9 w0 G0 V F sf cap g no bb ob NM BN PL l1 l2 lp go ko k cnt O r cnt2' E v' (vs ++ [x]) w2 G' := by
  subst hm
  obtain ⟨i, hi0, hi1, hi2, hi3⟩ := h.ob
  have hil := (h.row.lt i hi0).2
  have hrl := h.tr.2.2
  have hrow1 := ownsRow_block h.row (w' := w1) (fun j e => hk1.block j (h.row.lt j e).2 (fun _ e' => by rw [hi0] at e; cases e; exact hi3 e'))
  have hrowa := ownsRow_block hrow1 (w' := w1.alloc o) (fun j e => heap_alloc_old _ _ (hrow1.lt j e).2)
  have k2 : Kept (fun j _ => v.ownBlock = some j) w1 w2 := ((Kept.alloc (fun _ _ => False) w1 o).mono (Q := fun j _ => v.ownBlock = some j) (fun _ _ _ e => e.elim)).trans (ha.kept hrowa) (fun _ _ _ e => e)
  have kk : Kept (fun j _ => j = r ∨ v.ownBlock = some j) wr w2 := (hk1.mono (Q := fun j _ => j = r ∨ v.ownBlock = some j) (fun _ _ _ e => .inl e)).trans (k2.mono (Q := fun j _ => j = r ∨ v.ownBlock = some j) (fun _ _ _ e => .inr e)) (fun _ _ _ e => e)
  obtain ⟨G', l', tn, tO⟩ := h.L.loc kk (fun j o' _ e => by
    rcases e with rfl | e
    · exact ⟨h.tr.1, h.tr.2.1⟩
    · rw [hi0] at e; cases e; exact ⟨hi1, hi2⟩)
  have hs1 := hk1.size
  refine ⟨G', l', hE w2 k2, by simpa [u32V] using ha.own, ?_, ⟨⟨h.tr.1.1, (tO r hrl).trans h.tr.1.2.1, h.tr.1.2.2⟩, h.tr.2.1, Nat.lt_of_lt_of_le hrl kk.size⟩, fun z hz => ?_, by have := h.bd; simp; omega⟩
  · rcases ha.mv with e | ⟨g2, e, hg4⟩
    · exact ⟨i, e.trans hi0, ⟨hi1.1, (tO i hil).trans hi1.2.1, hi1.2.2⟩, hi2, hi3⟩
    · simp at hg4
      exact ⟨g2, e, h.L.S.lo tn (by omega), h.L.pm.new0 (by omega), by omega⟩
  · rcases List.mem_append.1 hz with hz | hz
    · exact h.vl z hz
    · obtain rfl := List.mem_singleton.1 hz; exact hx

/-- The loop over the values' numbers: of the map mo (or of a nil one), by the iterator r; c are still to come. -/
def IT (mo : Option Nat) (r m cnt c : Nat) (wr : World) : Prop :=
  match mo with
  | some mb => RG wr mb r m (fun x _ => x < cnt) c
  | none => c = 0 ∧ ∃ a s b, wr.heap[r]? = some (.mapIter none a s b)
theorem IT.kept {mo : Option Nat} {r m c : Nat} {P : Nat → Nat → Prop} (h : IT mo r m cnt c wr) (hl : r < wr.heap.size) (hk : Kept P wr w') (hr : ∀ o, ¬ P r o) (hm : ∀ mb, mo = some mb → ∀ o, ¬ P mb o) : IT mo r m cnt c w' := by
  cases mo with
  | some mb => exact RG.kept h hk (hm mb rfl) hr
  | none =>
    obtain ⟨h0, a, s, b, h1⟩ := h
    exact ⟨h0, a, s, b, (hk.block r hl hr).trans h1⟩
theorem next_nil {r a b : Nat} {s : Array Nat} (h : wr.heap[r]? = some (.mapIter none a s b)) (ty : TypeId) : (Instr.next (.pointer (some ⟨r, 0, none⟩)) false ty).run Tryz.prog wr = .ok (.tuple #[.bool false]) wr := by
  simp only [Instr.next, getObj, Sem.run_bind, Sem.run, h, Result.andThen]
  rfl
theorem IT.next {mo : Option Nat} {r m c : Nat} (h : IT mo r m cnt c wr) (ty : TypeId) :
    ((Instr.next (.pointer (some ⟨r, 0, none⟩)) false ty).run Tryz.prog wr = .ok (.tuple #[.bool false]) wr) ∨
    ∃ (x : Nat) (v : Value) (w' : World) (c' : Nat), x < 4294967296 ∧ x < cnt ∧ (Instr.next (.pointer (some ⟨r, 0, none⟩)) false ty).run Tryz.prog wr = .ok (.tuple #[.bool true, .int .u32 (x : Int), v]) w' ∧
      IT mo r m cnt c' w' ∧ c' < c ∧ Kept (fun k _ => k = r) wr w' ∧ (Instr.entry (.pointer (some ⟨r, 0, none⟩))).run Tryz.prog w' = .ok (.tuple #[.int .u32 (x : Int), v]) w' := by
  cases mo with
  | none =>
    obtain ⟨h0, a, s, b, h1⟩ := h
    exact .inl (next_nil h1 ty)
  | some mb =>
    rcases RG.next h ty with ⟨_, h1⟩ | ⟨x, v, w', c', h1, h2, h3, h4, h5, h6, _, h8⟩
    · exact .inl h1
    · exact .inr ⟨x, v, w', c', h1, h2, h3, h4, h5, h6, h8⟩

/-- make, and range, over postings[a]. -/
theorem L8.open {a : Nat} (h : L8 w0 G0 V F sf cap g no bb ob NM BN PL l1 l2 lp go ko k cnt O wr Gr) (hk : k ≤ 200) (ha : a < 4294967296) :
    ∃ (mv : Value) (mo : Option Nat) (m : Nat), (∀ W : World, W.heap[ob]? = wr.heap[ob]? → (Instr.lookup 213 (.map (some ob)) (.int .u32 (a : Int)) false).run Tryz.prog W = .ok mv W) ∧ mv = .map mo ∧ m ≤ 200 ∧ (Builtin.len_ #[215] 3 #[.map mo]).run Tryz.prog wr = .ok (.int .i64 (m : Int)) wr ∧ (∀ mb, mo = some mb → (O mb).1 = 2 ∧ mb < wr.heap.size) ∧
      (∀ w1 : World, Kept (fun _ _ => False) wr w1 → ∃ w2 c, (Instr.range 215 (.map mo)).run Tryz.prog w1 = .ok (.pointer (some ⟨w1.heap.size, 0, none⟩)) w2 ∧ IT mo w1.heap.size k cnt c w2 ∧ c ≤ 200 ∧ Kept (fun _ _ => False) w1 w2 ∧ w2.heap.size = w1.heap.size + 1) ∧
      (∀ c : Nat, c < 4294967296 → ∃ v, (∀ W : World, (∀ mb, mo = some mb → W.heap[mb]? = wr.heap[mb]?) → (Instr.lookup 215 (.map mo) (.int .u32 (c : Int)) false).run Tryz.prog W = .ok v W) ∧ SVp wr O k a c v) := by
  obtain ⟨ok, v, _, h2, h3⟩ := h.pm.look Tryz.underlying213 zero213 ha
  rcases h3 with ⟨_, mb, rfl, hpa⟩ | ⟨_, rfl⟩
  · obtain ⟨m, hm, hlen⟩ := hpa.i.len Tryz.underlying215 3
    refine ⟨_, some mb, m, h2, rfl, by omega, hlen, fun mb' e => ?_, fun w1 k1 => ?_, fun c hc => ?_⟩
    · cases e; exact ⟨by rw [hpa.o], hpa.i.lt⟩
    · obtain ⟨w2, c, r1, r2, r3, r4, r5⟩ := ((hpa.i.kept k1 (fun _ => id)).imp (F := fun x _ => x < cnt) (Nat.le_refl _) (fun _ _ h => h.1)).range Tryz.underlying215
      exact ⟨w2, c, r1, r2, by omega, r4, r5⟩
    · obtain ⟨v, e1, e2⟩ := hpa.look Tryz.underlying215 zero215 hc
      exact ⟨v, fun W hW => e1 W (hW mb rfl), e2⟩
  · refine ⟨_, none, 0, h2, rfl, Nat.zero_le _, by rw [Maps.len_nil Tryz.underlying215]; rfl, (fun mb e => by cases e), fun w1 k1 => ⟨_, 0, run_range_nilMap w1 215 94 149 Tryz.underlying215, ⟨rfl, 0, #[], 0, heap_alloc_new w1 _⟩, Nat.zero_le _, Kept.alloc _ _ _, by simp⟩, fun c hc => ⟨.slice none 0 0, fun W _ => ?_, SVp.nil _ _ _ _ _⟩⟩
    have := Maps.look_nil (w := W) false keyU Tryz.underlying215 (zero215 W) (keyU_mk hc)
    simpa using this
end

end Go.Proofs.YtfipfoplmopkaaaGreatDoor

namespace Go.Proofs.YtfipfoplmopkaaaGreatDoor
open Go.RowKit Go.Maps

theorem offV_get (p : Nat) (ss : List ByteArray) (k i : Nat) (h : i < k) : (offV p ss k)[i]? = some (.int .i64 ((p + 8 + (symB (ss.take (32 * i))).length : Nat) : Int)) := by
  simp [offV, h]

section
variable {w wr w' : World} {G Gr G' : Gh} {V : Vw} {F : Fx} {sf cap p L : Nat} {pre : List UInt8} {SL : List Se} {PL : List PE} {l1 l2 lp : List UInt8} {go : Option Nat}

/-- The symbol of a number. -/
def LookC (wr : World) (so : ByteArray) (e : Ending) (w' : World) : Prop := e = .returned (.tuple #[.string so, .nilIface]) ∧ Kept (fun _ _ => False) wr w'
theorem PT.look (h : PT w G V F sf cap wr Gr PL l1 l2 lp go) (H : PH w G V F pre p L SL) {o n : Nat} (hn : n = F.ss.length) (ho : o < n) :
    ∃ (vo : Value) (so : ByteArray), F.ss[o]? = some so ∧ wr.cell? ⟨F.sb, 3, none⟩ = some vo ∧
      Calls Tryz.prog 140 #[.agg #[.iface 208 (.slice (some ⟨F.b0, 0, none⟩) F.l0.length F.c0), .int .i64 2, .int .i64 F.p0, vo, .int .i64 n], .int .u32 o] wr (LookC wr so) := by
  subst hn
  obtain ⟨vo, c3, row, _⟩ := h.sy.c3
  have hso : F.ss[o]? = some F.ss[o] := List.getElem?_eq_getElem ho
  refine ⟨vo, F.ss[o], hso, c3, ?_⟩
  rcases row.2 with ⟨_, h0⟩ | ⟨og, cq, cur, rfl, _⟩
  · omega
  · have hi : o / 32 < (F.ss.length + 31) / 32 := by omega
    have hcell := row.cells (g := og) rfl (o / 32) _ (offV_get F.p0 F.ss _ _ hi)
    rw [Addr.add_lit, Nat.zero_add] at hcell
    exact lookup_any F.b0 F.p0 F.l0.length F.c0 o F.ss.length og ((F.ss.length + 31) / 32) cq _ F.ss F.A F.B wr rfl ho H.hA rfl H.nc H.l0l H.ssl rfl rfl hcell h.c0 (fun s hs => by have := (H.ss s hs).1; omega) _ hso

theorem SVp.u32s {O : Ow} {k a c n cc : Nat} {ao : Option Addr} (h : SVp wr O k a c (.slice ao n cc)) (hT : ∀ i, (O i).1 ≠ 0 → Gr.T i = 0) : ∃ xs : List Nat, n = xs.length ∧ n ≤ k ∧ U32s wr Gr ao xs := by
  obtain ⟨xs, h1, h2, h3, h4⟩ := h
  have hn : n = xs.length := by
    rcases h1.2 with ⟨he, h0⟩ | ⟨g2, cap, cur, he, _⟩
    · cases he; exact h0.symm
    · cases he; rfl
  refine ⟨xs, hn, by omega, fun j x hj => ?_⟩
  have hx : (xs.map u32V)[j]? = some (.int .u32 x) := by simp [hj, u32V]
  rcases h1.2 with ⟨he, h0⟩ | ⟨g2, cap, cur, he, _⟩
  · obtain rfl := List.eq_nil_of_length_eq_zero h0
    simp at hj
  · have hao : ao = some ⟨g2, 0, none⟩ := by cases he; rfl
    have hob : (Value.slice ao n cc).ownBlock = some g2 := by rw [hao]; rfl
    have hc := h1.cells hob j _ hx
    rw [Addr.add_lit, Nat.zero_add] at hc
    exact ⟨g2, 0, hao, hT g2 (by rw [h4 g2 hob]; simp), by rw [Nat.zero_add]; exact hc, h3 x (List.mem_of_getElem? hj)⟩
theorem SVp.sl {O : Ow} {k a c : Nat} {v : Value} (h : SVp wr O k a c v) : ∃ ao n cc, v = .slice ao n cc := by
  obtain ⟨xs, h1, _⟩ := h
  obtain ⟨ao, c, e⟩ := own_slice h1
  exact ⟨_, _, _, e⟩
end

/-- The values' numbers in their row. -/
def QL (n : Nat) (x : Int) : Prop := 0 ≤ x ∧ x < n
theorem UR.blk {Q : Int → Prop} {w w' : World} {b off n : Nat} (h : UR Q w b off n) (hb : w'.heap[b]? = w.heap[b]?) : UR Q w' b off n := fun j hj => by
  obtain ⟨⟨x, h1, h2⟩, h3⟩ := h j hj
  exact ⟨⟨x, (World.cell?_of_block (a := ⟨b, off + j, none⟩) hb).trans h1, h2⟩, (World.frozen?_of_block (a := ⟨b, off + j, none⟩) hb).trans h3⟩

section
variable {w0 wr w' : World} {G0 Gr G' : Gh} {V : Vw} {F : Fx} {sf cap g no bb ob ko k cnt r cnt2 : Nat} {PL : List PE} {l1 l2 lp : List UInt8} {go : Option Nat} {NM BN : List (List UInt8)} {O : Ow} {E : Nat → World → Prop} {vs : List Nat} {n c : Nat} {ao : Option Addr}
/-- The numbers are gathered. -/
theorem V9.done (h : V9 w0 G0 V F sf cap g no bb ob NM BN PL l1 l2 lp go ko k cnt O r cnt2 E (.slice ao n c) vs wr Gr) (hn : n = vs.length) :
    ∃ vb, ao = some ⟨vb, 0, none⟩ ∧ n ≤ 200 ∧ UR (QL cnt) wr vb 0 n ∧ vb < wr.heap.size ∧ Lo w0 Gr sf g bb vb ∧ (O vb).1 = 0 := by
  obtain ⟨i, hi0, hi1, hi2, hi3⟩ := h.ob
  have hbd := h.bd
  rcases h.row.2 with ⟨he, _⟩ | ⟨b2, cap2, cur, he, hb0, hb, h1, h2, h3, h4⟩
  · rw [he] at hi0; cases hi0
  · injection he with e1 e2 e3
    subst e1
    obtain rfl : b2 = i := by cases hi0; rfl
    refine ⟨b2, rfl, by omega, fun j hj => ?_, (h.row.lt b2 rfl).2, hi1, hi2⟩
    have hj' : j < vs.length := by omega
    have hc := h.row.cells (g := b2) rfl j (u32V vs[j]) (by simp [hj'])
    rw [Addr.add_lit, Nat.zero_add] at hc
    rw [Nat.zero_add]
    refine ⟨⟨(vs[j] : Nat), hc, ?_⟩, ownsRow_frz h.row rfl j⟩
    have := h.vl vs[j] (List.getElem_mem hj')
    exact ⟨by omega, by omega⟩
end

end Go.Proofs.YtfipfoplmopkaaaGreatDoor

namespace Go.Proofs.YtfipfoplmopkaaaGreatDoor
open Go.RowKit Go.Maps

variable {w0 wr wa w' : World} {G0 Gr G' : Gh} {V : Vw} {F : Fx} {sf cap g no bb ns db ob n : Nat} {PL PL' : List PE} {l1 l2 lp l1' l2' lp' : List UInt8} {go go' : Option Nat} {NM BN : List (List UInt8)} {v v' : Value} {x : List UInt8} {kn ko k cnt : Nat} {O : Ow} {l : List UInt8}

theorem L6.app3 {a c mb n y : Nat} {o : Obj} {w2 : World} {xs : List Nat} (h : L6 w0 G0 V F sf cap g no bb ns db ob NM BN PL l1 l2 lp go kn ko k cnt O l wr Gr) (hp : PMa wr O (La w0 Gr sf g bb ns db) cnt ko k ob a mb) (hk : k < 1000000000) (hc : c < cnt) (ha9 : a < 4294967296) (hc9 : c < 4294967296)
    (h1 : wr.ownsRow 0 94 1 v xs.length (xs.map u32V)) (h2 : xs.length ≤ k) (h3 : ∀ z ∈ xs, z < 4294967296) (h4 : ∀ i, v.ownBlock = some i → O i = (3, a, c)) (hn : n = xs.length) (hx : y < 4294967296)
    (ha : App (wr.drew.alloc o) w2 94 1 v v' (n + 1) (xs.map u32V ++ [.int .u32 y])) :
    (Instr.lookup 213 (.map (some ob)) (.int .u32 (a : Int)) false).run Tryz.prog w2 = .ok (.map (some mb)) w2 ∧
    ∃ w3 O' G', (Instr.mapUpdate 215 (.map (some mb)) (.int .u32 (c : Int)) v').run Tryz.prog w2 = .ok () w3 ∧ (Instr.lookup 213 (.map (some ob)) (.int .u32 (a : Int)) false).run Tryz.prog w3 = .ok (.map (some mb)) w3 ∧
      L6 w0 G0 V F sf cap g no bb ns db ob NM BN PL l1 l2 lp go kn ko (k + 1) cnt O' l w3 G' := by
  obtain ⟨e1, w3, O', G', hput, hl⟩ := h.app2 hp hk hc ha9 hc9 h1 h2 h3 h4 hn hx ha
  refine ⟨e1, w3, O', G', hput, ?_, hl⟩
  have ka : Kept (fun _ _ => False) wr (wr.drew.alloc o) := (Kept.drew _ _).trans (Kept.alloc _ _ _) (fun _ _ _ => id)
  have hrow := ownsRow_block h1 (w' := wr.drew.alloc o) (fun i e => ka.block i (h1.lt i e).2 (fun _ => id))
  have k2 := (ka.mono (Q := fun i _ => v.ownBlock = some i) (fun _ _ _ => False.elim)).trans (ha.kept hrow) (fun _ _ _ h => h)
  have hno : ∀ i, O i ≠ (3, a, c) → ∀ _ : Nat, ¬ (v.ownBlock = some i) := fun i hi _ e => hi (h4 i e)
  have hi2 := hp.i.kept k2 (hno mb (by rw [hp.o]; simp))
  obtain ⟨w4, r1, r2, r3, _⟩ := hi2.put Tryz.underlying215 (by unfold maxLen; omega) hc9 v'
  obtain rfl : w4 = w3 := by rw [r1] at hput; injection hput
  have hobmb : ob ≠ mb := fun e => by have := hp.p.o; rw [e, hp.o] at this; cases this
  have hlt : ob < w2.heap.size := Nat.lt_of_lt_of_le hp.m.lt k2.size
  exact hp.outer Tryz.underlying213 zero213 ha9 ((r3.block ob hlt (fun _ e => hobmb e)).trans (k2.block ob hp.m.lt (hno ob (by rw [hp.p.o]; simp))))

end Go.Proofs.YtfipfoplmopkaaaGreatDoor

namespace Go.Proofs.YtfipfoplmopkaaaGreatDoor
open Go.RowKit

def loopsOf : Code → List Code
  | .loop c => c :: loopsOf c
  | .seq a b => loopsOf a ++ loopsOf b
  | .block _ c => loopsOf c
  | .scope c => loopsOf c
  | .cond _ a b => loopsOf a ++ loopsOf b
  | _ => []

/-- The body of loop k (from 0) of function 95. -/
noncomputable def lp95 (k : Nat) : Code := ((Tryz.f95.body.map loopsOf).getD []).getD k .skip

end Go.Proofs.YtfipfoplmopkaaaGreatDoor
