/- Validate(61) with AddSeries' closure. Conditions: the labels in order and short, bounds on counts. writePostingsToTmpFiles, loop 9: the values of one name. Conditions: bounds on lengths. Writer.writePostingsOffsetTable. Conditions: what is read is there; bounds on lengths. ensureStage(53) at 2, from stages 1 and 0. Conditions: as finishSymbols. ensureStage(53) at 2, from stage 0 (no symbols). Conditions: as finishSymbols. The entry conditions of writePostingsToTmpFiles, carried over a step that leaves all blocks but the Writer's own. -/
import Derived.Test.YtfipfoplmopkaaaGreatDoorZ30
import Derived.Test.YtfipfoplmopkaaaGreatDoorZ31
import Derived.Test.YtfipfoplmopkaaaGreatDoorZ27
import Derived.Test.YtfipfoplmopkaaaGreatDoorZ29
import Derived.Deep.Light
import Derived.Deep.CutBlock
import Derived.Deep.CutRange
import Derived.Deep.RegionHeld3

namespace Go.Proofs.YtfipfoplmopkaaaGreatDoor
open Go.RowKit Go.Maps

/-- Every word of the labels is a symbol. -/
def AllS (S : DataW Unit) (ls : List Lab) : Prop := ∀ x ∈ ls, Maps.has S (.string x.1.data.toList) = true ∧ Maps.has S (.string x.2.data.toList) = true
/-- The symbols' numbers are below n. -/
def SN (S : DataW Unit) (n : Nat) : Prop := ∀ l : List UInt8, Maps.has S (.string l) = true → ∃ c : Nat, c < n ∧ S.atKey (.string l) (.lit (.int .u32 0)) = .lit (.int .u32 (c : Int))
/-- The label names: how often each one stands in the series. -/
def LNB (L S : DataW Unit) (B : List UInt8 → Nat) : Prop :=
  ∀ l : List UInt8, Maps.has L (.string l) = true → l.length < 256 ∧ Maps.has S (.string l) = true ∧ ∃ c : Nat, c ≤ B l ∧ ∀ z, L.atKey (.string l) z = .lit (.int .u64 (c : Int))

theorem AscL.lt {ls : List Lab} (h : AscL ls) : ∀ (j i : Nat) (hj : j < ls.length) (hi : i < j), (ls[i]'(by omega)).1.data.toList < (ls[j]'hj).1.data.toList
  | 0, i, _, hi => by omega
  | j + 1, i, hj, hi => by
    have h1 := h j hj
    by_cases e : i = j
    · subst e; exact h1
    · exact List.lt_trans (h.lt j i (by omega) (by omega)) h1

theorem AscL.new {ls : List Lab} (h : AscL ls) {k : Nat} (hk : k < ls.length) : (ls[k]'hk).1.data.toList ∉ (ls.take k).map (fun x => x.1.data.toList) := by
  intro hm
  simp only [List.mem_map] at hm
  obtain ⟨x, hx, e⟩ := hm
  obtain ⟨i, hi, rfl⟩ := List.getElem_of_mem hx
  rw [List.length_take] at hi
  rw [List.getElem_take] at e
  have := h.lt k i hk (by omega)
  rw [e] at this
  exact List.lt_irrefl _ this

theorem keyLit (l : List UInt8) : WideAt.IsKeyLit (.string l) := by trivial

theorem LNB.put {L S : DataW Unit} {B B' : List UInt8 → Nat} (h : LNB L S B) (hm : IsMap L) (x : List UInt8) (hx : x.length < 256) (hs : Maps.has S (.string x) = true) (c : Nat) (hc : L.atKey (.string x) (.lit (.int .u64 0)) = .lit (.int .u64 (c : Int))) (hB : ∀ l, l ≠ x → B l ≤ B' l) (hBx : B x + 1 ≤ B' x) :
    LNB (L.put (.string x) (.lit (.int .u64 ((c : Int) + 1)))) S B' := by
  intro l hl
  by_cases e : l = x
  · subst e
    refine ⟨hx, hs, c + 1, ?_, fun z => by rw [atKey_put_same hm (keyLit l)]; simp⟩
    by_cases hh : Maps.has L (.string l) = true
    · obtain ⟨_, _, c', hc', ha⟩ := h l hh
      rw [ha] at hc
      cases hc
      omega
    · rw [atKey_of_not_has (by simpa using hh)] at hc
      have : (c : Int) = 0 := by injection hc with h1; injection h1 with _ h2; exact h2.symm
      omega
  · have hne : (Lit.string l) ≠ (.string x) := fun h => e (by injection h)
    rw [has_put_other hne] at hl
    obtain ⟨h1, h2, c', h3, h4⟩ := h l hl
    exact ⟨h1, h2, c', Nat.le_trans h3 (hB l e), fun z => by rw [atKey_put_other hne]; exact h4 z⟩

def LN (L S : DataW Unit) (m : Nat) : Prop := LNB L S (fun _ => m)
def LNk (L S : DataW Unit) (m : Nat) (ls : List Lab) (k : Nat) : Prop := LNB L S (fun l => m + if l ∈ (ls.take k).map (fun x => x.1.data.toList) then 1 else 0)

theorem LNk.zero {L S : DataW Unit} {m : Nat} {ls : List Lab} (h : LN L S m) : LNk L S m ls 0 := by
  intro l hl
  obtain ⟨h1, h2, c, h3, h4⟩ := h l hl
  exact ⟨h1, h2, c, Nat.le_trans h3 (Nat.le_add_right _ _), h4⟩
theorem LNk.fin {L S : DataW Unit} {m k : Nat} {ls : List Lab} (h : LNk L S m ls k) : LN L S (m + 1) := by
  intro l hl
  obtain ⟨h1, h2, c, h3, h4⟩ := h l hl
  refine ⟨h1, h2, c, ?_, h4⟩
  show c ≤ m + 1
  have h5 : c ≤ m + (if l ∈ (ls.take k).map (fun x => x.1.data.toList) then 1 else 0) := h3
  split at h5 <;> omega
theorem LNk.step {L S : DataW Unit} {m k : Nat} {ls : List Lab} (h : LNk L S m ls k) (hm : IsMap L) (ha : AscL ls) (hk : k < ls.length) (hx : (ls[k]'hk).1.data.toList.length < 256) (hs : Maps.has S (.string (ls[k]'hk).1.data.toList) = true) (c : Nat) (hc : L.atKey (.string (ls[k]'hk).1.data.toList) (.lit (.int .u64 0)) = .lit (.int .u64 (c : Int))) :
    LNk (L.put (.string (ls[k]'hk).1.data.toList) (.lit (.int .u64 ((c : Int) + 1)))) S m ls (k + 1) := by
  refine LNB.put h hm _ hx hs c hc (fun l hne => ?_) ?_
  · rw [List.take_succ_eq_append_getElem hk, List.map_append]
    simp only [List.mem_append, List.map_cons, List.map_nil, List.mem_singleton, hne, or_false]
    exact Nat.le_refl _
  · rw [if_neg (ha.new hk), List.take_succ_eq_append_getElem hk, List.map_append]
    simp

theorem pairsB_snoc (ps : List (Nat × Nat)) (p : Nat × Nat) : pairsB (ps ++ [p]) = pairsB ps ++ (Lib.uvarint p.1 ++ Lib.uvarint p.2) := by
  simp [pairsB, pairB]
theorem pairsB_len (ps : List (Nat × Nat)) (n : Nat) (hn : n ≤ 4294967296) (h : ∀ p ∈ ps, p.1 < n ∧ p.2 < n) : (pairsB ps).length ≤ 20 * ps.length := by
  induction ps with
  | nil => simp [pairsB]
  | cons p t ih =>
    have h1 := h p (by simp)
    have h2 := ih (fun q hq => h q (by simp [hq]))
    have u1 := Lib.uvarint_length64 (x := p.1) (by omega)
    have u2 := Lib.uvarint_length64 (x := p.2) (by omega)
    rw [pairsB_cons]
    simp only [List.length_append, List.length_cons]
    omega

/-- What Validate leaves. -/
def VR (w : World) (G : Gh) (V : Vw) (ls : List Lab) (nS m : Nat) (w' : World) : Prop :=
  ∃ G' ps L', Reach w G w' G' ∧ G'.v = { V with l2 := V.l2 ++ pairsB ps, nl := V.nl + ls.length, L := L' } ∧ ps.length = ls.length ∧ (∀ p ∈ ps, p.1 < nS ∧ p.2 < nS) ∧ LN L' V.S (m + 1)

structure VI (w : World) (G : Gh) (V : Vw) (wx gb : Nat) (D : ByteArray) (ls : List Lab) (nS m k : Nat) (wr : World) (Gr : Gh) (ps : List (Nat × Nat)) (L : DataW Unit) : Prop where
  R : Reach w G wr Gr
  v : Gr.v = { V with l2 := V.l2 ++ pairsB ps, nl := V.nl + k, L := L }
  n : ps.length = k
  p : ∀ p ∈ ps, p.1 < nS ∧ p.2 < nS
  ln : LNk L V.S m ls k
  b : wr.cell? ⟨wx, 0, none⟩ = some (.pointer (some ⟨G.wb, 0, none⟩))
  tb : Gr.T wx = 0
  d : wr.cell? ⟨gb, 0, none⟩ = some (.string D)
  td : Gr.T gb = 0
  s : ∀ i (_ : i < k) (h2 : i < ls.length), Maps.has V.S (.string (ls[i]'h2).1.data.toList) = true ∧ Maps.has V.S (.string (ls[i]'h2).2.data.toList) = true

set_option maxHeartbeats 2000000 in
theorem val_any (w : World) (G : Gh) (V : Vw) (wx : Nat) (D : ByteArray) (ls : List Lab) (hG : WI w G) (hV : G.v = V) (hbox : w.cell? ⟨wx, 0, none⟩ = some (.pointer (some ⟨G.wb, 0, none⟩))) (hT : G.T wx = 0) (hD : LD D (fsL ls)) (hl : LOK ls) (ha : AscL ls) (nS : Nat) (hnS : nS ≤ 4294967296) (hSN : SN V.S nS) (m : Nat) (hm : m < 1000) (hLN : LN V.L V.S m) (hl2 : V.l2.length < 1000000) (hnl : V.nl < 10000) :
    Calls Tryz.prog 61 #[.agg #[.string D], .func (.func 62) #[] #[.pointer (some ⟨wx, 0, none⟩)]] w (fun e w' => (e = .returned .nilIface ∧ AllS V.S ls ∧ VR w G V ls nS m w') ∨ ((∃ t v, e = .returned (.iface t v)) ∧ ¬ AllS V.S ls ∧ ∃ G', Reach w G w' G')) := by
  have hwx : wx < w.heap.size := World.block_lt_of_cell? _ _ hbox
  obtain ⟨G1, r1, v1, t1, t1'⟩ := (Reach.refl hG).newv hV (.cells #[.string D] 73)
  refine (validate_any D ls hD (.pointer (some ⟨wx, 0, none⟩)) (fun k wr => ∃ Gr ps L, VI w G V wx w.heap.size D ls nS m k wr Gr ps L) (fun w' => ¬ AllS V.S ls ∧ ∃ G', Reach w G w' G') ?_ w ⟨G1, [], V.L, r1, by rw [v1]; simp [pairsB], rfl, fun p hp => by simp at hp, LNk.zero hLN, ?_, (t1' _ hwx).trans hT, by rw [World.cell?_alloc_new]; rfl, t1, fun i h => by omega⟩ (fun k w' ⟨Gr, ps, L, h⟩ => h.d)).mono ?_
  · intro k hk X Y wr hX hY ⟨Gr, ps, L, h⟩
    have hxa := hl.a _ (List.getElem_mem hk)
    have eX : X.size = (ls[k]'hk).1.size := by have := congrArg List.length hX; simpa using this
    have eY : Y.size = (ls[k]'hk).2.size := by have := congrArg List.length hY; simpa using this
    have hk9 : k ≤ 12 := by have := hl.n; omega
    have hbox' : wr.cell? ⟨wx, 0, none⟩ = some (.pointer (some ⟨Gr.wb, 0, none⟩)) := by rw [h.R.nx.wb]; exact h.b
    have hlen := pairsB_len ps nS hnS h.p
    rw [h.n] at hlen
    cases hx1 : Maps.has V.S (.string X.data.toList) with
    | false =>
      refine (cl62_bad wr Gr _ wx X Y h.R.wi h.v hbox' (by omega) (by simpa using hx1)).mono ?_
      rintro e w' ⟨he, G', r⟩
      refine Or.inr ⟨he, fun hall => ?_, G', h.R.trans r⟩
      have := (hall _ (List.getElem_mem hk)).1
      rw [← hX, hx1] at this
      cases this
    | true =>
      obtain ⟨cx, hcx9, hcx⟩ := hSN _ hx1
      have hcy : ∃ cy : Nat, V.S.atKey (.string Y.data.toList) (.lit (.int .u32 0)) = .lit (.int .u32 (cy : Int)) ∧ (Maps.has V.S (.string Y.data.toList) = true → cy < nS) := by
        cases hy1 : Maps.has V.S (.string Y.data.toList) with
        | true => obtain ⟨cy, h1, h2⟩ := hSN _ hy1; exact ⟨cy, h2, fun _ => h1⟩
        | false => exact ⟨0, atKey_of_not_has hy1 _, fun h => by cases h⟩
      obtain ⟨cy, hcy, hcy9⟩ := hcy
      have hc : ∃ c : Nat, c ≤ m + 1 ∧ L.atKey (.string X.data.toList) (.lit (.int .u64 0)) = .lit (.int .u64 (c : Int)) := by
        cases hh : Maps.has L (.string X.data.toList) with
        | true =>
          obtain ⟨_, _, c, h1, h2⟩ := h.ln _ hh
          refine ⟨c, ?_, h2 _⟩
          have h1' : c ≤ m + (if X.data.toList ∈ (ls.take k).map (fun x => x.1.data.toList) then 1 else 0) := h1
          split at h1' <;> omega
        | false => exact ⟨0, by omega, atKey_of_not_has hh _⟩
      obtain ⟨c, hc9, hc⟩ := hc
      have hML : IsMap L := by
        have := h.R.wi.l.isMap
        rwa [show Gr.L = L from congrArg Vw.L h.v] at this
      refine (cl62_good wr Gr _ wx X Y h.R.wi h.v hbox' h.tb (by omega) (by omega) (by simp only [List.length_append]; omega) (by show V.nl + k < 100000; omega) cx cy c (Maps.has V.S (.string Y.data.toList)) hx1 rfl hcx hcy hc (by omega)).mono ?_
      rintro e w' (⟨hy1, he, G', r, v⟩ | ⟨hy1, he, G', r⟩)
      · refine Or.inl ⟨he, G', ps ++ [(cx, cy)], _, h.R.trans r, by rw [v, pairsB_snoc, List.append_assoc]; rfl, by simp [h.n], ?_, ?_, ?_, ?_, ?_, ?_, ?_⟩
        · intro p hp
          rcases List.mem_append.1 hp with hp | hp
          · exact h.p p hp
          · simp at hp; subst hp; exact ⟨hcx9, hcy9 hy1⟩
        · rw [hX] at hc hx1 ⊢
          exact h.ln.step hML ha hk (by simp; omega) hx1 c hc
        · exact (KT.cell r.kp (World.block_lt_of_cell? _ _ h.b) h.tb 0).trans h.b
        · exact (r.nx.T _ (World.block_lt_of_cell? _ _ h.b)).trans h.tb
        · exact (KT.cell r.kp (World.block_lt_of_cell? _ _ h.d) h.td 0).trans h.d
        · exact (r.nx.T _ (World.block_lt_of_cell? _ _ h.d)).trans h.td
        · intro i hi h2
          by_cases e : i = k
          · subst e; rw [← hX, ← hY]; exact ⟨hx1, hy1⟩
          · exact h.s i (by omega) h2
      · refine Or.inr ⟨he, fun hall => ?_, G', h.R.trans r⟩
        have := (hall _ (List.getElem_mem hk)).2
        rw [← hY, hy1] at this
        cases this
  · rw [World.cell?_alloc_old _ _ _ (Nat.ne_of_lt hwx)]; exact hbox
  · rintro e w' (⟨he, Gr, ps, L, h⟩ | ⟨he, hb⟩)
    · refine Or.inl ⟨he, fun x hx => ?_, Gr, ps, L, h.R, h.v, h.n, h.p, h.ln.fin⟩
      obtain ⟨i, hi, rfl⟩ := List.getElem_of_mem hx
      exact h.s i hi hi
    · exact Or.inr ⟨he, hb⟩

end Go.Proofs.YtfipfoplmopkaaaGreatDoor

namespace Go.Proofs.YtfipfoplmopkaaaGreatDoor
open Go.RowKit Go.Maps

def R9 (w : World) (G : Gh) (V : Vw) (F : Fx) (sf cap g no2 b5 ob ko8 k8 : Nat) (NM2 BN : List (List UInt8)) (PL : List PE) (l1 l2 lp : List UInt8) (go : Option Nat) (O8 : Ow) (v : Value) (wx : World) : Prop :=
  ∃ nv cv v10 G', v = .slice (some ⟨v10, 0, none⟩) nv cv ∧ nv ≤ 200 ∧ L8 w G V F sf cap g no2 b5 ob NM2 BN PL l1 l2 lp go ko8 k8 F.ss.length O8 wx G' ∧ UR (QL F.ss.length) wx v10 0 nv ∧ v10 < wx.heap.size ∧ Lo w G' sf g b5 v10 ∧ (O8 v10).1 = 0

set_option maxRecDepth 1000000 in
set_option maxHeartbeats 40000000 in
theorem ptt9 {w : World} {G : Gh} {V : Vw} {F : Fx} {sf cap g no2 b5 ob ko8 k8 : Nat} {NM2 BN : List (List UInt8)} {PL : List PE} {l1 l2 lp : List UInt8} {go : Option Nat} {O8 : Ow} {r9 cn mm vb : Nat} {mo : Option Nat} {w8 w10 : World}
    (HMO : Hid (∀ mb, mo = some mb → (O8 mb).1 = 2 ∧ mb < w8.heap.size))
    (HV9 : Hid (∃ G', V9 w G V F sf cap g no2 b5 ob NM2 BN PL l1 l2 lp go ko8 k8 F.ss.length O8 r9 cn (fun c w' => IT mo r9 k8 F.ss.length c w') (.slice (some ⟨vb, 0, none⟩) 0 mm) [] w10 G'))
    (ds : List Deferred) (x0 x1 x2 x3 x4 x5 x6 x7 x8 x9 x10 x11 x12 x13 x14 x15 x16 x17 x18 x19 x20 x21 x22 x23 x24 x25 x26 x27 x28 x29 x30 x31 x32 x33 x34 x35 x36 x37 x38 x39 x41 x42 x43 x44 x45 x46 x47 x48 x49 x50 x51 x52 x53 x54 x55 x56 x57 x58 x59 x60 x61 x62 x63 x64 x65 x66 x67 x68 x69 x70 x71 x72 x73 x74 x75 x76 x77 x78 x79 x80 x81 x82 x83 x84 x85 x86 x87 x88 x89 x90 x91 x92 x93 x94 x95 x96 x97 x98 x99 x100 x101 x102 x103 x104 x105 x106 x107 x108 x109 x110 x111 x112 x113 x114 x115 x116 x117 x118 x119 x120 x121 x122 x123 x124 x125 x126 x127 x128 x129 x130 x131 x132 x133 x134 x135 x136 x137 x138 x139 x140 x141 x142 x143 x144 x145 x146 x147 x148 x149 x150 x151 x152 x153 x154 x155 x156 x157 x158 x159 x160 x161 x162 x163 x164 x165 x166 x167 x168 x169 x170 x171 x172 x173 x174 x175 x176 x177 x178 x179 x180 x181 x182 x183 x184 x185 x186 x187 x188 x189 x190 x191 x192 x193 x194 x195 x196 x197 x198 x199 x200 x201 x202 x203 x204 x205 x206 x207 x208 x209 x210 x211 x212 x213 x214 x215 x216 x217 x218 x219 x220 x221 x222 x223 x224 x225 x226 x227 x228 x229 x230 x231 x232 x233 x234 x235 x236 x237 x238 x239 x240 x241 x242 x243 x244 x245 x246 x247 x248 x249 x250 x251 x252 x253 x254 x255 x256 x257 x258 x259 x260 x261 x262 x263 x264 x265 x266 x267 x268 x269 x270 x271 x272 x273 x274 x275 x276 x277 x278 x279 x280 x281 x282 x283 x284 x285 x286 x287 x288 x289 x290 x291 x292 x293 x294 x295 x296 x297 x298 x299 x300 x301 x302 x303 x304 x305 x306 x307 x308 x309 x310 x311 x312 x313 x314 x315 x316 x318 x319 x320 x321 x322 x323 x324 x325 x326 x327 x328 x329 x330 x331 x332 x333 x334 x335 x336 x337 x338 x339 x340 x341 x342 x343 x344 x345 x346 x347 x348 x349 x350 x351 x352 x353 x354 x355 x356 x357 x358 x359 x360 x361 : Value) (Q0 : Exit → Act → World → Prop)
    (hexit : ∀ (y40 y41 y318 y319 y320 y321 y322 y323 y324 y325 : Value) (wx : World), R9 w G V F sf cap g no2 b5 ob ko8 k8 NM2 BN PL l1 l2 lp go O8 y40 wx → Q0 (.exit 16) ⟨(x0 :: x1 :: x2 :: x3 :: x4 :: x5 :: x6 :: x7 :: x8 :: x9 :: x10 :: x11 :: x12 :: x13 :: x14 :: x15 :: x16 :: x17 :: x18 :: x19 :: x20 :: x21 :: x22 :: x23 :: x24 :: x25 :: x26 :: x27 :: x28 :: x29 :: x30 :: x31 :: x32 :: x33 :: x34 :: x35 :: x36 :: x37 :: x38 :: x39 :: y40 :: y41 :: x42 :: x43 :: x44 :: x45 :: x46 :: x47 :: x48 :: x49 :: x50 :: x51 :: x52 :: x53 :: x54 :: x55 :: x56 :: x57 :: x58 :: x59 :: x60 :: x61 :: x62 :: x63 :: x64 :: x65 :: x66 :: x67 :: x68 :: x69 :: x70 :: x71 :: x72 :: x73 :: x74 :: x75 :: x76 :: x77 :: x78 :: x79 :: x80 :: x81 :: x82 :: x83 :: x84 :: x85 :: x86 :: x87 :: x88 :: x89 :: x90 :: x91 :: x92 :: x93 :: x94 :: x95 :: x96 :: x97 :: x98 :: x99 :: x100 :: x101 :: x102 :: x103 :: x104 :: x105 :: x106 :: x107 :: x108 :: x109 :: x110 :: x111 :: x112 :: x113 :: x114 :: x115 :: x116 :: x117 :: x118 :: x119 :: x120 :: x121 :: x122 :: x123 :: x124 :: x125 :: x126 :: x127 :: x128 :: x129 :: x130 :: x131 :: x132 :: x133 :: x134 :: x135 :: x136 :: x137 :: x138 :: x139 :: x140 :: x141 :: x142 :: x143 :: x144 :: x145 :: x146 :: x147 :: x148 :: x149 :: x150 :: x151 :: x152 :: x153 :: x154 :: x155 :: x156 :: x157 :: x158 :: x159 :: x160 :: x161 :: x162 :: x163 :: x164 :: x165 :: x166 :: x167 :: x168 :: x169 :: x170 :: x171 :: x172 :: x173 :: x174 :: x175 :: x176 :: x177 :: x178 :: x179 :: x180 :: x181 :: x182 :: x183 :: x184 :: x185 :: x186 :: x187 :: x188 :: x189 :: x190 :: x191 :: x192 :: x193 :: x194 :: x195 :: x196 :: x197 :: x198 :: x199 :: x200 :: x201 :: x202 :: x203 :: x204 :: x205 :: x206 :: x207 :: x208 :: x209 :: x210 :: x211 :: x212 :: x213 :: x214 :: x215 :: x216 :: x217 :: x218 :: x219 :: x220 :: x221 :: x222 :: x223 :: x224 :: x225 :: x226 :: x227 :: x228 :: x229 :: x230 :: x231 :: x232 :: x233 :: x234 :: x235 :: x236 :: x237 :: x238 :: x239 :: x240 :: x241 :: x242 :: x243 :: x244 :: x245 :: x246 :: x247 :: x248 :: x249 :: x250 :: x251 :: x252 :: x253 :: x254 :: x255 :: x256 :: x257 :: x258 :: x259 :: x260 :: x261 :: x262 :: x263 :: x264 :: x265 :: x266 :: x267 :: x268 :: x269 :: x270 :: x271 :: x272 :: x273 :: x274 :: x275 :: x276 :: x277 :: x278 :: x279 :: x280 :: x281 :: x282 :: x283 :: x284 :: x285 :: x286 :: x287 :: x288 :: x289 :: x290 :: x291 :: x292 :: x293 :: x294 :: x295 :: x296 :: x297 :: x298 :: x299 :: x300 :: x301 :: x302 :: x303 :: x304 :: x305 :: x306 :: x307 :: x308 :: x309 :: x310 :: x311 :: x312 :: x313 :: x314 :: x315 :: x316 :: .pointer (some ⟨r9, 0, none⟩) :: y318 :: y319 :: y320 :: y321 :: y322 :: y323 :: y324 :: y325 :: x326 :: x327 :: x328 :: x329 :: x330 :: x331 :: x332 :: x333 :: x334 :: x335 :: x336 :: x337 :: x338 :: x339 :: x340 :: x341 :: x342 :: x343 :: x344 :: x345 :: x346 :: x347 :: x348 :: x349 :: x350 :: x351 :: x352 :: x353 :: x354 :: x355 :: x356 :: x357 :: x358 :: x359 :: x360 :: x361 :: []).toArray, ds⟩ wx) :
    Code.wp Tryz.prog (Code.loop (lp95 8)) Q0 ⟨(x0 :: x1 :: x2 :: x3 :: x4 :: x5 :: x6 :: x7 :: x8 :: x9 :: x10 :: x11 :: x12 :: x13 :: x14 :: x15 :: x16 :: x17 :: x18 :: x19 :: x20 :: x21 :: x22 :: x23 :: x24 :: x25 :: x26 :: x27 :: x28 :: x29 :: x30 :: x31 :: x32 :: x33 :: x34 :: x35 :: x36 :: x37 :: x38 :: x39 :: .slice (some ⟨vb, 0, none⟩) 0 mm :: x41 :: x42 :: x43 :: x44 :: x45 :: x46 :: x47 :: x48 :: x49 :: x50 :: x51 :: x52 :: x53 :: x54 :: x55 :: x56 :: x57 :: x58 :: x59 :: x60 :: x61 :: x62 :: x63 :: x64 :: x65 :: x66 :: x67 :: x68 :: x69 :: x70 :: x71 :: x72 :: x73 :: x74 :: x75 :: x76 :: x77 :: x78 :: x79 :: x80 :: x81 :: x82 :: x83 :: x84 :: x85 :: x86 :: x87 :: x88 :: x89 :: x90 :: x91 :: x92 :: x93 :: x94 :: x95 :: x96 :: x97 :: x98 :: x99 :: x100 :: x101 :: x102 :: x103 :: x104 :: x105 :: x106 :: x107 :: x108 :: x109 :: x110 :: x111 :: x112 :: x113 :: x114 :: x115 :: x116 :: x117 :: x118 :: x119 :: x120 :: x121 :: x122 :: x123 :: x124 :: x125 :: x126 :: x127 :: x128 :: x129 :: x130 :: x131 :: x132 :: x133 :: x134 :: x135 :: x136 :: x137 :: x138 :: x139 :: x140 :: x141 :: x142 :: x143 :: x144 :: x145 :: x146 :: x147 :: x148 :: x149 :: x150 :: x151 :: x152 :: x153 :: x154 :: x155 :: x156 :: x157 :: x158 :: x159 :: x160 :: x161 :: x162 :: x163 :: x164 :: x165 :: x166 :: x167 :: x168 :: x169 :: x170 :: x171 :: x172 :: x173 :: x174 :: x175 :: x176 :: x177 :: x178 :: x179 :: x180 :: x181 :: x182 :: x183 :: x184 :: x185 :: x186 :: x187 :: x188 :: x189 :: x190 :: x191 :: x192 :: x193 :: x194 :: x195 :: x196 :: x197 :: x198 :: x199 :: x200 :: x201 :: x202 :: x203 :: x204 :: x205 :: x206 :: x207 :: x208 :: x209 :: x210 :: x211 :: x212 :: x213 :: x214 :: x215 :: x216 :: x217 :: x218 :: x219 :: x220 :: x221 :: x222 :: x223 :: x224 :: x225 :: x226 :: x227 :: x228 :: x229 :: x230 :: x231 :: x232 :: x233 :: x234 :: x235 :: x236 :: x237 :: x238 :: x239 :: x240 :: x241 :: x242 :: x243 :: x244 :: x245 :: x246 :: x247 :: x248 :: x249 :: x250 :: x251 :: x252 :: x253 :: x254 :: x255 :: x256 :: x257 :: x258 :: x259 :: x260 :: x261 :: x262 :: x263 :: x264 :: x265 :: x266 :: x267 :: x268 :: x269 :: x270 :: x271 :: x272 :: x273 :: x274 :: x275 :: x276 :: x277 :: x278 :: x279 :: x280 :: x281 :: x282 :: x283 :: x284 :: x285 :: x286 :: x287 :: x288 :: x289 :: x290 :: x291 :: x292 :: x293 :: x294 :: x295 :: x296 :: x297 :: x298 :: x299 :: x300 :: x301 :: x302 :: x303 :: x304 :: x305 :: x306 :: x307 :: x308 :: x309 :: x310 :: x311 :: x312 :: x313 :: x314 :: x315 :: x316 :: .pointer (some ⟨r9, 0, none⟩) :: x318 :: x319 :: x320 :: x321 :: x322 :: x323 :: x324 :: x325 :: x326 :: x327 :: x328 :: x329 :: x330 :: x331 :: x332 :: x333 :: x334 :: x335 :: x336 :: x337 :: x338 :: x339 :: x340 :: x341 :: x342 :: x343 :: x344 :: x345 :: x346 :: x347 :: x348 :: x349 :: x350 :: x351 :: x352 :: x353 :: x354 :: x355 :: x356 :: x357 :: x358 :: x359 :: x360 :: x361 :: []).toArray, ds⟩ w10 := by
  obtain ⟨i94, hi94, hz94, hs94, hb94⟩ := info_parts info94
  conv => arg 2; arg 1; whnf
  go_loopg [40, 41] cn (fun m x y ws => ∃ (nv cv c' : Nat) (av : Option Addr), x = .slice av nv cv ∧ c' ≤ m ∧ nv ≤ 200 ∧ Hid (∃ G' vs, V9 w G V F sf cap g no2 b5 ob NM2 BN PL l1 l2 lp go ko8 k8 F.ss.length O8 r9 c' (fun c w' => IT mo r9 k8 F.ss.length c w') (.slice av nv cv) vs ws G' ∧ nv = vs.length))
  case atStart =>
    obtain ⟨G', hv⟩ := HV9.out
    exact ⟨0, mm, cn, some ⟨vb, 0, none⟩, rfl, Nat.le_refl _, Nat.zero_le _, Lib.hid ⟨G', [], hv, rfl⟩⟩
  case round =>
  clear HV9
  obtain ⟨nv, cv, c9, av, rfl, hcm, hnv, HR⟩ := hrel
  obtain ⟨G11, vs, hv, hnvs⟩ := HR.out
  rcases IT.next hv.e 0 with hdone | ⟨x, vx, wn, cn', hx32, hxc, hrun, hit, hlt3, kn, hen⟩
  case inr =>
    have HV := Lib.hid hv
    have HN := Lib.hid hnvs
    have HIT := Lib.hid hit
    have HKN := Lib.hid kn
    have hrow : ∀ o : Obj, (wn.alloc o).ownsRow 0 94 1 (.slice av nv cv) nv (vs.map u32V) := fun o => by
      have h := hv.row
      rw [← hnvs] at h
      obtain ⟨j, hj0, _, _, hj3⟩ := hv.ob
      have h1 := ownsRow_block (w' := wn) h (fun k e => kn.block k (h.lt k e).2 (fun _ e' => by rw [hj0] at e; cases e; exact hj3 e'))
      exact ownsRow_block h1 (fun k e => heap_alloc_old _ _ (h1.lt k e).2)
    have HROW := Lib.hid hrow
    clear hrow hv hnvs hit kn HR
    go_wp2_with (at_builtin; refine wpList_app _ rfl _ _ 149 rfl 94 i94 (.int .u32 0) 1 4 und149 hi94 hz94 hs94 hb94 rfl (by decide) (.slice av nv cv) nv (vs.map u32V) rfl (HROW.out _) (some ⟨wn.heap.size, 0, none⟩) 1 1 [.int .u32 x] rfl rfl (fun e => by cases e) (one_new wn (.int .u32 x) 94) (by intro u hu; obtain rfl := List.mem_singleton.1 hu; rfl) (by go_light; unfold maxLen; omega) (by go_light; omega) ?_)
    intro v' wz ha
    obtain ⟨av', cv', rfl⟩ := own_slice ha.own
    obtain ⟨G12, hv2⟩ := V9.step HV.out HKN.out hlt3 (fun w2 k2 => HIT.out.kept (Nat.lt_of_lt_of_le HV.out.tr.2.2 HKN.out.size) k2 (fun _ e => by obtain ⟨j, hj0, _, _, hj3⟩ := HV.out.ob; rw [hj0] at e; cases e; exact hj3 rfl) (fun mb hmb _ e => by obtain ⟨j, hj0, _, hj2, _⟩ := HV.out.ob; rw [hj0] at e; cases e; have := (HMO.out _ hmb).1; rw [hj2] at this; cases this)) hxc HN.out ha
    have HV2 := Lib.hid hv2
    have hnv2 : nv + 1 ≤ 200 := by have h1 := HV2.out.bd; have h2 := HN.out; rw [List.length_append, List.length_singleton] at h1; go_light; omega
    have HN2 : Hid (nv + 1 = (vs ++ [x]).length) := Lib.hid (by have h2 := HN.out; rw [List.length_append, List.length_singleton]; go_light; omega)
    clear hv2 ha
    go_wp2_with fail
    go_roundg cn'
    case measure => go_light; omega
    case rel => exact ⟨nv + 1, cv', cn', av', rfl, Nat.le_refl _, hnv2, Lib.hid ⟨G12, _, HV2.out, HN2.out⟩⟩
  case inl =>
  obtain ⟨v10, rfl, hnv9, hur, hvbl, hlo, hO0⟩ := hv.done hnvs
  have HF : Hid (R9 w G V F sf cap g no2 b5 ob ko8 k8 NM2 BN PL l1 l2 lp go O8 (.slice (some ⟨v10, 0, none⟩) nv cv) wr) := Lib.hid ⟨nv, cv, v10, G11, rfl, hnv9, hv.L, hur, hvbl, hlo, hO0⟩
  clear hv hnvs hur HR
  go_wp2_with fail
  exact HF.out

end Go.Proofs.YtfipfoplmopkaaaGreatDoor

namespace Go.Proofs.YtfipfoplmopkaaaGreatDoor
open Go.RowKit Go.Maps

/-- The Writer beside a Decbuf over the offsets' bytes and a variable that holds a file. -/
structure S9 (w0 : World) (G0 : Gh) (b db fx sf : Nat) (wr : World) (Gr : Gh) (V : Vw) (l : List UInt8) : Prop where
  R : Reach w0 G0 wr Gr
  v : Gr.v = V
  d : DB wr db b l
  tdb : Gr.T db = 0
  tb : Gr.T b = 13
  fc : wr.cell? ⟨fx, 0, none⟩ = some (.pointer (some ⟨sf, 0, none⟩))
  ff : wr.frozen? ⟨fx, 0, none⟩ = false
  tf : Gr.T fx = 0
  ne : fx ≠ db
  wd : w0.heap.size ≤ db
  wf : w0.heap.size ≤ fx
  bl : b < wr.heap.size
  zo : V.zo = true
theorem S9.db {w0 : World} {G0 : Gh} {b db fx sf : Nat} {wr w' : World} {Gr : Gh} {V : Vw} {l l' : List UInt8} (q : S9 w0 G0 b db fx sf wr Gr V l) (hk : Kept (dbP db) wr w') (hd : DB w' db b l') : ∃ G', S9 w0 G0 b db fx sf w' G' V l' := by
  obtain ⟨G', r', v', tn, tO⟩ := q.R.locv q.v hk (fun k o hk' hp => by unfold dbP at hp; subst hp; exact ⟨q.wd, q.tdb⟩)
  have hfl := World.block_lt_of_cell? _ _ q.fc
  exact ⟨G', r', v', hd, (tO db q.d.lt).trans q.tdb, (tO b q.bl).trans q.tb, (hk.cell _ _ hfl q.ne).trans q.fc, (hk.fr _ _ hfl).trans q.ff, (tO fx hfl).trans q.tf, q.ne, q.wd, q.wf, Nat.lt_of_lt_of_le q.bl hk.size, q.zo⟩
theorem S9.st {w0 : World} {G0 : Gh} {b db fx sf : Nat} {wr w' : World} {Gr G' : Gh} {V V' : Vw} {l : List UInt8} (q : S9 w0 G0 b db fx sf wr Gr V l) (r : Reach w0 G0 w' G') (v : G'.v = V') (s : Reach wr Gr w' G') (hz : V'.zo = true) : S9 w0 G0 b db fx sf w' G' V' l := by
  have hfl := World.block_lt_of_cell? _ _ q.fc
  exact ⟨r, v, q.d.reach13 s q.tdb q.tb ((congrArg Vw.zo q.v).trans q.zo), (s.nx.T db q.d.lt).trans q.tdb, (s.nx.T b q.bl).trans q.tb, (KT.cell s.kp hfl q.tf 0).trans q.fc, (s.kp.fr _ _ hfl).trans q.ff, (s.nx.T fx hfl).trans q.tf, q.ne, q.wd, q.wf, Nat.lt_of_lt_of_le q.bl s.kp.size, hz⟩
theorem S9.drew {w0 : World} {G0 : Gh} {b db fx sf : Nat} {wr : World} {Gr : Gh} {V : Vw} {l : List UInt8} (q : S9 w0 G0 b db fx sf wr Gr V l) : S9 w0 G0 b db fx sf wr.drew Gr V l :=
  ⟨q.R.drew, q.v, q.d.kept (Kept.drew (fun _ _ => False) _) (fun _ => id) (fun _ _ => id), q.tdb, q.tb, q.fc, q.ff, q.tf, q.ne, q.wd, q.wf, q.bl, q.zo⟩

/-- yoloString. -/
theorem yolo_any (v : Value) (s : ByteArray) (w : World) (h : (convert 27 9 v).run Tryz.prog w = .ok (.string s) w) : Calls Tryz.prog 148 #[v] w fun e w' => e = .returned (.string s) ∧ w = w' := by
  go_enter Tryz.func148, Tryz.ntmps148
  go_wp2
  go_ret
  exact ⟨rfl, rfl⟩

/-- The closure that is deferred: the file is let go already. -/
theorem pot1_d (fx : Nat) (u : FrameMode) (w : World) (h : w.cell? ⟨fx, 0, none⟩ = some (.pointer none)) : CallsD Tryz.prog 147 #[.pointer (some ⟨fx, 0, none⟩)] u w fun e u' w' => u' = u ∧ (e = .returned (.tuple #[]) ∧ w' = w) := by
  go_enter_d Tryz.func147, Tryz.ntmps147
  go_wp2
  go_end0
  exact ⟨rfl, rfl⟩

end Go.Proofs.YtfipfoplmopkaaaGreatDoor

namespace Go.Proofs.YtfipfoplmopkaaaGreatDoor
open Go.RowKit

/-- What ensureStage(2) leaves. -/
def Ens2 (w : World) (G : Gh) (ss : List ByteArray) (pre : List UInt8) (p : Nat) (p4 : Value) (e : Ending) (w' : World) : Prop :=
  e = .returned .nilIface ∧ ∃ G' sb sf b c q, Reach w G w' G' ∧ G'.cs = (fun j => if j = 10 then .int .u8 2 else if j = 5 then .int .u64 G'.lf.length else if j = 35 then .pointer (some ⟨sb, 0, none⟩) else if j = 36 then .pointer (some ⟨sf, 0, none⟩) else if j = 4 then p4 else G.cs j) ∧
    G'.lf = pre ++ ((be32 (4 + (symB ss).length) ++ be32 ss.length) ++ (symB ss ++ be32 q)) ∧ G'.wn = 0 ∧ G'.gf = some b ∧ (G'.lp = G.lp ∧ G'.lo = G.lo ∧ G'.ns = G.ns ∧ G'.S = G.S ∧ G'.nl = G.nl ∧ G'.L = G.L) ∧
    SY (fun k => k < w'.heap.size ∧ k ≠ sb ∧ G'.T k = 0) w' sb b p (p + 8 + (symB ss).length + 4) c ss ss.length ∧ G'.T sb = 0 ∧ p + 8 + (symB ss).length + 4 ≤ c ∧ newRow w.heap.size w' sb

set_option maxRecDepth 100000 in
set_option maxHeartbeats 4000000 in
theorem ens2_1 (w : World) (G : Gh) (h : WI w G) (hs : G.cs 10 = .int .u8 1) (hfm : G.zm = false) (ss : List ByteArray) (pre : List UInt8) (p : Nat) (hp : pre.length = p) (hlf : G.lf = pre ++ (alenblen ++ symB ss)) (h4 : G.cs 4 = .int .u64 p) (h34 : G.cs 34 = .int .i64 ss.length) (hwn : G.wn = 0)
    (hl : G.lf.length < 10000000) (hss : ss.length < 100000) (hsz : ∀ s ∈ ss, s.size < 10000) :
    Calls Tryz.prog 53 #[.pointer (some ⟨G.wb, 0, none⟩), .int .u8 2] w (Ens2 w G ss pre p (.int .u64 p)) := by
  have hfin := finishSymbols_any w G h hfm ss pre p hp hlf h4 h34 hwn hl hss hsz
  have FIN := Lib.hid hfin
  have f10 := h.fld 10 (by decide) (by decide) hs
  have HS := Lib.hid hs
  have H4 := Lib.hid h4
  clear hfin h hlf h34 hl hsz hp hs h4 hwn hfm hss
  go_enter Tryz.func53, Tryz.ntmps53
  go_wp2_with fail
  refine FIN.out.mono ?_
  rintro e w2 ⟨rfl, G2, sb, sf, b, c, q, r2, hcs, hlf2, hwn2, hgf, hrest, hsy, htsb, hnc⟩
  have hwb : G2.wb = G.wb := r2.nx.wb
  have f0 := r2.wi.fld 0 (by decide) (by decide) r2.wi.c0
  have f1 : w2.cell? ⟨G2.fb, 1, none⟩ = some (.int .u64 G2.lf.length) := r2.wi.f.p
  have fr5 := r2.wi.fr 5 (by decide)
  have fr10 := r2.wi.fr 10 (by decide)
  obtain ⟨c5, hc5⟩ : ∃ v, w2.cell? ⟨G2.wb, 5, none⟩ = some v := ⟨_, r2.wi.c 5 (by decide) (by decide)⟩
  have f10' := r2.wi.fld 10 (by decide) (by decide) (v := .int .u8 1) (by rw [hcs]; exact HS.out)
  have r3 := r2.wi.setr 5 (.int .u64 G2.lf.length) (by decide) (by decide) (by decide) (by decide) (by decide) (by decide)
  have r4 := r3.wi.setr 10 (.int .u8 2) (by decide) (by decide) (by decide) (by decide) (by decide) (by decide)
  have r34 := r3.trans r4
  have h2b : sb < w2.heap.size := hsy.sbl
  have hblk : ∀ k, k < w2.heap.size → G2.T k = 0 → _ := fun k hk h0 => KT.block r34.kp hk h0
  have hsy4 : SY (fun k => k < ((w2.setCell ⟨G2.wb, 5, none⟩ (.int .u64 G2.lf.length)).setCell ⟨G2.wb, 10, none⟩ (.int .u8 2)).heap.size ∧ k ≠ sb ∧ G2.T k = 0) _ sb b p (p + 8 + (symB ss).length + 4) c ss ss.length := hsy.blocks (hblk sb h2b htsb) (fun k hk hlt => ⟨hblk k hlt hk.2, Nat.lt_of_lt_of_le hlt r34.kp.size, hk.1, hk.2⟩)
  have FINAL : Hid (Ens2 w G ss pre p (.int .u64 p) (.returned .nilIface) ((w2.setCell ⟨G2.wb, 5, none⟩ (.int .u64 G2.lf.length)).setCell ⟨G2.wb, 10, none⟩ (.int .u8 2))) := Lib.hid ⟨rfl, _, sb, sf, b, c, q, r2.trans r34, by
      funext j
      show (if j = 10 then _ else if j = 5 then _ else G2.cs j) = _
      rw [hcs]
      by_cases e10 : j = 10
      · simp only [if_pos e10]
      · by_cases e5 : j = 5
        · simp only [if_neg e10, if_pos e5]; rfl
        · simp only [if_neg e10, if_neg e5]
          by_cases e35 : j = 35
          · simp only [if_pos e35]
          · by_cases e36 : j = 36
            · simp only [if_neg e35, if_pos e36]
            · by_cases e4 : j = 4
              · simp only [if_neg e35, if_neg e36, if_pos e4]; rw [e4]; exact H4.out
              · simp only [if_neg e35, if_neg e36, if_neg e4], hlf2, hwn2, hgf, hrest, hsy4, htsb, hnc.1, hnc.2.blk (hblk sb h2b htsb)⟩
  clear hsy4 hblk r34 r4 r3 r2 hcs hlf2 hwn2 hgf hrest hsy htsb FIN H4 HS
  rw [hwb] at f0 fr5 fr10 hc5 f10' FINAL
  go_wp2
  go_ret
  exact FINAL.out

end Go.Proofs.YtfipfoplmopkaaaGreatDoor

namespace Go.Proofs.YtfipfoplmopkaaaGreatDoor
open Go.RowKit

/-- What never was held need not be held. -/
theorem Reach.low {w w' : World} {G G' : Gh} (r : Reach w G w' G') (h0 : G.wn = 0) : Reach w G w' (G'.hold 0) := by
  have h := r.wi
  exact ⟨⟨h.e1, h.e2, h.f, h.p, h.o, h.d, h.s, h.l, h.c, h.fr, h.t1, h.t2, h.t3, h.t4, h.t5, h.t6, h.t7, h.t8, h.t9, h.t10, h.t11, h.t12, h.t13, h.c0, h.c44, h.c38, h.c40, Nat.zero_le _⟩,
    ⟨r.nx.T, r.nx.wb, r.nx.fb, r.nx.pb, r.nx.ob, r.nx.dg, r.nx.tb, r.nx.sm, r.nx.lm, by rw [h0]; exact Nat.zero_le _, r.nx.zm, r.nx.zo⟩, r.kp, r.hp⟩

set_option maxRecDepth 100000 in
set_option maxHeartbeats 4000000 in
theorem ens2_0 (w : World) (G : Gh) (h : WI w G) (hs : G.cs 10 = .int .u8 0) (hfm : G.zm = false) (p : Nat) (hp : G.lf.length = p) (h34 : G.cs 34 = .int .i64 0) (hwn : G.wn = 0) (hl : G.lf.length < 9000000) :
    Calls Tryz.prog 53 #[.pointer (some ⟨G.wb, 0, none⟩), .int .u8 2] w (Ens2 w G [] G.lf p (.int .u64 p)) := by
  have hens := ens1_any w G h hs (by omega) hfm
  have ENS := Lib.hid hens
  have f10 := h.fld 10 (by decide) (by decide) hs
  have HP := Lib.hid hp
  have HL := Lib.hid hl
  have HWN := Lib.hid hwn
  have HFM := Lib.hid hfm
  have H34 := Lib.hid h34
  clear hens h hs hfm hp h34 hwn hl
  go_enter Tryz.func53, Tryz.ntmps53
  go_wp2_with fail
  refine ENS.out.mono ?_
  rintro e w1 ⟨rfl, G1, r1, hlf1, hcs1, hlp1, hlo1, hns1, hS1, hnl1, hL1⟩
  have r1' := r1.low HWN.out
  have hwb1 : G1.wb = G.wb := r1.nx.wb
  have e10 : G1.cs 10 = .int .u8 1 := by rw [hcs1]; rfl
  have e4 : G1.cs 4 = .int .u64 (p : Int) := by rw [hcs1, ← HP.out]; rfl
  have e34 : G1.cs 34 = .int .i64 (([] : List ByteArray).length : Int) := by rw [hcs1]; exact H34.out
  have hfin := finishSymbols_any w1 (G1.hold 0) r1'.wi (r1.nx.zm.trans HFM.out) [] G.lf p HP.out (by show G1.lf = _; rw [hlf1]; simp [symB]) e4 e34 rfl (by show G1.lf.length < _; rw [hlf1]; have := HL.out; simp [alenblen]; omega) (by decide) (fun s hs => by cases hs)
  have FIN := Lib.hid hfin
  have f10a := r1.wi.fld 10 (by decide) (by decide) e10
  have R1 := Lib.hid r1'
  have HCS1 := Lib.hid hcs1
  have HR1 := Lib.hid (And.intro hlp1 (And.intro hlo1 (And.intro hns1 (And.intro hS1 (And.intro hnl1 hL1)))))
  have E10 := Lib.hid e10
  have hwb1' : (G1.hold 0).wb = G.wb := hwb1
  rw [hwb1] at f10a
  rw [hwb1'] at FIN
  clear hfin r1 r1' hcs1 hlf1 hlp1 hlo1 hns1 hS1 hnl1 hL1 e10 e4 e34 ENS H34 f10
  go_wp2_with fail
  refine FIN.out.mono ?_
  rintro e w2 ⟨rfl, G2, sb, sf, b, c, q, r2, hcs, hlf2, hwn2, hgf, hrest, hsy, htsb, hnc⟩
  have hwb : G2.wb = G.wb := r2.nx.wb.trans hwb1
  have f0 := r2.wi.fld 0 (by decide) (by decide) r2.wi.c0
  have f1 : w2.cell? ⟨G2.fb, 1, none⟩ = some (.int .u64 G2.lf.length) := r2.wi.f.p
  have fr5 := r2.wi.fr 5 (by decide)
  have fr10 := r2.wi.fr 10 (by decide)
  obtain ⟨c5, hc5⟩ : ∃ v, w2.cell? ⟨G2.wb, 5, none⟩ = some v := ⟨_, r2.wi.c 5 (by decide) (by decide)⟩
  have f10' := r2.wi.fld 10 (by decide) (by decide) (v := .int .u8 1) (by rw [hcs]; exact E10.out)
  have r3 := r2.wi.setr 5 (.int .u64 G2.lf.length) (by decide) (by decide) (by decide) (by decide) (by decide) (by decide)
  have r4 := r3.wi.setr 10 (.int .u8 2) (by decide) (by decide) (by decide) (by decide) (by decide) (by decide)
  have r34 := r3.trans r4
  have h2b : sb < w2.heap.size := hsy.sbl
  have hblk : ∀ k, k < w2.heap.size → G2.T k = 0 → _ := fun k hk h0 => KT.block r34.kp hk h0
  have hsy4 : SY (fun k => k < ((w2.setCell ⟨G2.wb, 5, none⟩ (.int .u64 G2.lf.length)).setCell ⟨G2.wb, 10, none⟩ (.int .u8 2)).heap.size ∧ k ≠ sb ∧ G2.T k = 0) _ sb b p (p + 8 + (symB []).length + 4) c [] ([] : List ByteArray).length := hsy.blocks (hblk sb h2b htsb) (fun k hk hlt => ⟨hblk k hlt hk.2, Nat.lt_of_lt_of_le hlt r34.kp.size, hk.1, hk.2⟩)
  have FINAL : Hid (Ens2 w G [] G.lf p (.int .u64 p) (.returned .nilIface) ((w2.setCell ⟨G2.wb, 5, none⟩ (.int .u64 G2.lf.length)).setCell ⟨G2.wb, 10, none⟩ (.int .u8 2))) := Lib.hid ⟨rfl, _, sb, sf, b, c, q, (R1.out.trans r2).trans r34, by
      funext j
      show (if j = 10 then _ else if j = 5 then _ else G2.cs j) = _
      rw [hcs]
      by_cases e10 : j = 10
      · simp only [if_pos e10]
      · by_cases e5 : j = 5
        · simp only [if_neg e10, if_pos e5]; rfl
        · simp only [if_neg e10, if_neg e5]
          by_cases e35 : j = 35
          · simp only [if_pos e35]
          · by_cases e36 : j = 36
            · simp only [if_neg e35, if_pos e36]
            · simp only [if_neg e35, if_neg e36]
              show G1.cs j = _
              rw [HCS1.out]
              simp only [if_neg e10, HP.out], hlf2, hwn2, hgf, ⟨hrest.1.trans HR1.out.1, hrest.2.1.trans HR1.out.2.1, hrest.2.2.1.trans HR1.out.2.2.1, hrest.2.2.2.1.trans HR1.out.2.2.2.1, hrest.2.2.2.2.1.trans HR1.out.2.2.2.2.1, hrest.2.2.2.2.2.trans HR1.out.2.2.2.2.2⟩, hsy4, htsb, hnc.1, (hnc.2.blk (hblk sb h2b htsb)).le R1.out.kp.size⟩
  clear hsy4 hblk r34 r4 r3 r2 hcs hlf2 hwn2 hgf hrest hsy htsb FIN HCS1 HR1 R1 E10
  rw [hwb] at f0 fr5 fr10 hc5 f10' FINAL
  go_wp2
  go_ret
  exact FINAL.out

end Go.Proofs.YtfipfoplmopkaaaGreatDoor

namespace Go.Proofs.YtfipfoplmopkaaaGreatDoor
open Go.RowKit

theorem PH.go {w w' : World} {G G1 : Gh} {V : Vw} {F : Fx} {pre : List UInt8} {p L : Nat} {SL : List Se} (h : PH w (G.fz true false) V F pre p L SL) (nx : Nx w G G1) (hs : w.heap.size ≤ w'.heap.size)
    (hb : ∀ k, k < w.heap.size → G.T k ≠ 1 → w'.heap[k]? = w.heap[k]?) (hb0 : F.b0 < w.heap.size) : PH w' (G1.fz true false) V F pre p L SL := by
  have ts : G.T F.sb = 0 := h.tsb
  have tb : G.T F.b0 = 11 := h.t0
  refine ⟨h.lf, h.hp, h.p0, h.hL, h.ll, h.h5, h.h6, ?_, ?_, h.h3, h.h46, h.h35, h.lo, h.lp, h.zm, h.zo, h.ok, h.sl, h.sn, h.nl, h.L9, h.ssl, h.ss, ?_, (nx.T _ h.sy.sbl).trans ts, ?_, (nx.T _ hb0).trans tb, h.hA, h.nc, h.l0l, h.gf⟩
  · show V.cs 1 = .pointer (some ⟨G1.pb, 0, none⟩)
    rw [nx.pb]; exact h.h1
  · show V.cs 2 = .pointer (some ⟨G1.ob, 0, none⟩)
    rw [nx.ob]; exact h.h2
  · exact h.sy.blocks (hb _ h.sy.sbl (by rw [ts]; decide)) (fun k hk hlt => by
      have h0 : G.T k = 0 := hk.2.2
      exact ⟨hb k hlt (by rw [h0]; decide), Nat.lt_of_lt_of_le hlt hs, hk.2.1, (nx.T k hlt).trans h0⟩)
  · intro j u hj
    have h1 := h.c0 j u hj
    have e := hb F.b0 hb0 (by rw [tb]; decide)
    rw [← h1]
    simp only [World.cell?, e]

end Go.Proofs.YtfipfoplmopkaaaGreatDoor
