/- A new Writer: ZZWriter(21) and what it calls. No condition. A new Writer in memory: NewWriterWithEncoder(92), NewWriter(51), ZZWriter(21). No condition. -/
import Derived.Test.YtfipfoplmopkaaaGreatDoorZ43

namespace Go.Proofs.YtfipfoplmopkaaaGreatDoor
open Go.RowKit Go.Maps

set_option maxHeartbeats 1000000 in
theorem background_any (w : World) : Calls Tryz.prog 52 #[] w fun e w' => e = .returned (.agg #[]) ∧ w' = w.alloc (.cells #[] 105) := by
  go_enter Tryz.func52, Tryz.ntmps52
  go_wp2
  refine bodyPost_ret (v := .agg #[]) ?_ rfl ⟨rfl, rfl⟩
  have hres : Tryz.f52.results = #[.cell 0 105] := by kernel_rfl
  simp only [results, hres]
  go_simp

set_option maxHeartbeats 1000000 in
theorem newFW_any (s : ByteArray) (w : World) : Calls Tryz.prog 123 #[.string s] w fun e w' => e = .returned (.tuple #[.pointer (some ⟨w.heap.size, 0, none⟩), .nilIface]) ∧ w' = w.alloc (.cells #[.slice none 0 0, .int .u64 0, .string s] 127) := by
  go_enter Tryz.func123, Tryz.ntmps123
  go_wp2
  go_ret2
  exact ⟨rfl, rfl⟩

set_option maxHeartbeats 1000000 in
theorem crcNew_any (tb : Nat) (w : World) : Calls Tryz.prog 157 #[.pointer (some ⟨tb, 0, none⟩)] w fun e w' => e = .returned (.iface 284 (.pointer (some ⟨w.heap.size, 0, none⟩))) ∧ w' = w.alloc (.cells #[.int .u32 0, .pointer (some ⟨tb, 0, none⟩)] 286) := by
  go_enter Tryz.func157, Tryz.ntmps157
  go_wp2
  go_ret
  exact ⟨rfl, rfl⟩

set_option maxHeartbeats 1000000 in
theorem newCRC_any (w : World) : Calls Tryz.prog 124 #[] w fun e w' => e = .returned (.iface 284 (.pointer (some ⟨w.heap.size + 1, 0, none⟩))) ∧ w' = (w.alloc (.cells #[.int .u32 cast] 288)).alloc (.cells #[.int .u32 0, .pointer (some ⟨w.heap.size, 0, none⟩)] 286) := by
  have h1 := Lib.hid (castTab_any w)
  have h2 := Lib.hid (crcNew_any w.heap.size (w.alloc (.cells #[.int .u32 cast] 288)))
  go_enter Tryz.func124, Tryz.ntmps124
  go_wp2_with fail
  (with_reducible refine h1.out.mono ?_)
  rintro e w' ⟨rfl, rfl⟩
  go_wp2_with fail
  refine h2.out.mono ?_
  rintro e w' ⟨rfl, rfl⟩
  go_wp2_with fail
  go_ret
  exact ⟨by simp, rfl⟩

def encZ : Array Value := #[.slice none 0 0, .int .u8 0, .int .u8 0, .int .u8 0, .int .u8 0, .int .u8 0, .int .u8 0, .int .u8 0, .int .u8 0, .int .u8 0, .int .u8 0]
/-- A new Writer's cells. -/
def newC (f p o m1 m2 d : Nat) : Array Value := #[.pointer (some ⟨f, 0, none⟩), .pointer (some ⟨p, 0, none⟩), .pointer (some ⟨o, 0, none⟩), .int .u64 0,
  .int .u64 0, .int .u64 0, .int .u64 0, .int .u64 0, .int .u64 0, .int .u64 0, .int .u8 0, .int .u64 0,
  .slice none 0 0, .int .u8 0, .int .u8 0, .int .u8 0, .int .u8 0, .int .u8 0, .int .u8 0, .int .u8 0, .int .u8 0, .int .u8 0, .int .u8 0,
  .slice none 0 0, .int .u8 0, .int .u8 0, .int .u8 0, .int .u8 0, .int .u8 0, .int .u8 0, .int .u8 0, .int .u8 0, .int .u8 0, .int .u8 0,
  .int .i64 0, .pointer none, .pointer none, .string ⟨#[]⟩, .map (some m1), .slice none 0 0, .map (some m2), .string ⟨#[]⟩, .int .u64 0, .int .u64 0, .iface 284 (.pointer (some ⟨d, 0, none⟩)), .int .i64 0, .func (.func 80) #[] #[]]

end Go.Proofs.YtfipfoplmopkaaaGreatDoor

namespace Go.Proofs.YtfipfoplmopkaaaGreatDoor
open Go.RowKit Go.Maps

theorem heap_cell {w : World} {b : Nat} {cs : Array Value} {t : TypeId} {fr : Nat × Nat} (h : w.heap[b]? = some (.cells cs t fr)) (i : Nat) : w.cell? ⟨b, i, none⟩ = cs[i]? := by simp [World.cell?, h]
theorem heap_frz {w : World} {b : Nat} {cs : Array Value} {t : TypeId} (h : w.heap[b]? = some (.cells cs t)) (i : Nat) : w.frozen? ⟨b, i, none⟩ = false := by simp [World.frozen?, h]

/-- Where a new Writer's blocks lie. -/
structure NW (w : World) (fb pb ob m1 m2 tb dg wb : Nat) : Prop where
  hf : ∃ s, w.heap[fb]? = some (.cells #[.slice none 0 0, .int .u64 0, .string s] 127)
  hp : ∃ s, w.heap[pb]? = some (.cells #[.slice none 0 0, .int .u64 0, .string s] 127)
  ho : ∃ s, w.heap[ob]? = some (.cells #[.slice none 0 0, .int .u64 0, .string s] 127)
  h1 : w.heap[m1]? = some (.map #[] 0)
  h2 : w.heap[m2]? = some (.map #[] 0)
  ht : w.heap[tb]? = some (.cells #[.int .u32 cast] 288)
  hd : w.heap[dg]? = some (.cells #[.int .u32 0, .pointer (some ⟨tb, 0, none⟩)] 286)
  hw : w.heap[wb]? = some (.cells (newC fb pb ob m1 m2 dg) 122)
  ne : [fb, pb, ob, m1, m2, tb, dg, wb].Nodup

def newT (fb pb ob m1 m2 tb dg wb k : Nat) : Nat :=
  if k = wb then 1 else if k = fb then 2 else if k = pb then 3 else if k = ob then 4 else if k = dg then 5 else if k = tb then 6 else if k = m1 then 7 else if k = m2 then 8 else 0
def newG (fb pb ob m1 m2 tb dg wb : Nat) : Gh :=
  { wb := wb, fb := fb, pb := pb, ob := ob, dg := dg, tb := tb, sm := m1, lm := m2, g1 := none, g2 := none, gf := none, gp := none, go := none, l1 := [], l2 := [], lf := [], lp := [], lo := [],
    cs := fun i => ((newC fb pb ob m1 m2 dg)[i]?).getD .nilIface, ns := 0, S := .map [], nl := 0, L := .map [], T := newT fb pb ob m1 m2 tb dg wb, wn := 0, zm := false, zo := false }

theorem newFWl {w : World} {fb : Nat} (h : ∃ s, w.heap[fb]? = some (.cells #[.slice none 0 0, .int .u64 0, .string s] 127)) : FW w fb none [] := by
  obtain ⟨s, h⟩ := h
  exact ⟨⟨_, by rw [heap_cell h]; rfl, Bf.nil w⟩, by rw [heap_cell h]; rfl, heap_frz h 0, heap_frz h 1, by simp⟩

theorem newMap {w : World} {b : Nat} (h : w.heap[b]? = some (.map #[] 0)) (e : TypeId) : w.ownsMap Tryz.prog 9 (plainElem Tryz.prog e) b 0 (.map [] : DataW Unit) :=
  ⟨#[], 0, h, ⟨by simp, Go.MapKept.stamped_empty 0, by simp⟩, Nat.le_refl _, rfl⟩

theorem newWI {w : World} {fb pb ob m1 m2 tb dg wb : Nat} (h : NW w fb pb ob m1 m2 tb dg wb) : WI w (newG fb pb ob m1 m2 tb dg wb) := by
  have hc := heap_cell h.hw
  have hlt : wb < w.heap.size := World.block_lt_of_cell? w ⟨wb, 0, none⟩ (u := .pointer (some ⟨fb, 0, none⟩)) ((hc 0).trans rfl)
  have hne := h.ne
  simp only [List.nodup_cons, List.mem_cons, not_or, List.not_mem_nil] at hne
  obtain ⟨⟨n12, n13, n14, n15, n16, n17, n18, _⟩, ⟨n23, n24, n25, n26, n27, n28, _⟩, ⟨n34, n35, n36, n37, n38, _⟩, ⟨n45, n46, n47, n48, _⟩, ⟨n56, n57, n58, _⟩, ⟨n67, n68, _⟩, ⟨n78, _⟩, _⟩ := hne
  refine ⟨⟨hlt, ⟨.slice none 0 0, (hc 12).trans rfl, Bf.nil w⟩, fun j _ => heap_frz h.hw _, fun j hj => ⟨0, ?_⟩, by simp [newG]⟩, ⟨hlt, ⟨.slice none 0 0, (hc 23).trans rfl, Bf.nil w⟩, fun j _ => heap_frz h.hw _, fun j hj => ⟨0, ?_⟩, by simp [newG]⟩,
    newFWl h.hf, newFWl h.hp, newFWl h.ho, ⟨⟨0, (heap_cell h.hd 0).trans rfl, by decide, by decide⟩, (heap_cell h.hd 1).trans rfl, heap_frz h.hd 0, ⟨_, (heap_cell h.ht 0).trans rfl⟩, n67⟩, newMap h.h1 _, newMap h.h2 _, ?_, fun i _ => heap_frz h.hw i, ?_, ?_, ?_, ?_, ?_, ?_, ?_, ?_, ?_, ?_, ?_, ?_, ?_, rfl, rfl, rfl, rfl, Nat.le_refl _⟩
  · refine (hc _).trans ?_
    rcases j with _ | _ | _ | _ | _ | _ | _ | _ | _ | _ | j
    all_goals first | rfl | omega
  · refine (hc _).trans ?_
    rcases j with _ | _ | _ | _ | _ | _ | _ | _ | _ | _ | j
    all_goals first | rfl | omega
  · intro i hi _
    refine (hc i).trans ?_
    have hi' : i < (newC fb pb ob m1 m2 dg).size := hi
    show _ = some (((newC fb pb ob m1 m2 dg)[i]?).getD .nilIface)
    rw [Array.getElem?_eq_getElem hi']; rfl
  · show newT fb pb ob m1 m2 tb dg wb wb = 1
    simp [newT]
  · show newT fb pb ob m1 m2 tb dg wb fb = 2
    simp [newT, n18]
  · show newT fb pb ob m1 m2 tb dg wb pb = 3
    simp [newT, n28, Ne.symm n12]
  · show newT fb pb ob m1 m2 tb dg wb ob = 4
    simp [newT, n38, Ne.symm n13, Ne.symm n23]
  · show newT fb pb ob m1 m2 tb dg wb dg = 5
    simp [newT, n78, Ne.symm n17, Ne.symm n27, Ne.symm n37]
  · show newT fb pb ob m1 m2 tb dg wb tb = 6
    simp [newT, n68, n67, Ne.symm n16, Ne.symm n26, Ne.symm n36]
  · show newT fb pb ob m1 m2 tb dg wb m1 = 7
    simp [newT, n48, n47, n46, Ne.symm n14, Ne.symm n24, Ne.symm n34]
  · show newT fb pb ob m1 m2 tb dg wb m2 = 8
    simp [newT, n58, n57, n56, Ne.symm n45, Ne.symm n15, Ne.symm n25, Ne.symm n35]
  · intro k hk; cases hk
  · intro k hk; cases hk
  · intro k hk; cases hk
  · intro k hk; cases hk
  · intro k hk; cases hk

/-- A Writer that was laid behind the world w. -/
theorem newP1 {w' : World} {fb pb ob m1 m2 tb dg wb : Nat} {G' : Gh} {w2 : World} (r : Reach w' (newG fb pb ob m1 m2 tb dg wb) w2 G') (he : G'.lf = [] ++ magic ∧ G'.cs = (newG fb pb ob m1 m2 tb dg wb).cs ∧ G'.lp = [] ∧ G'.lo = [] ∧ G'.ns = 0 ∧ G'.S = .map [] ∧ G'.nl = 0 ∧ G'.L = .map []) : P1 w2 (G'.hold 0) [] := by
  obtain ⟨e1, e2, e3, e4, e5, e6, e7, e8⟩ := he
  have r' := r.low rfl
  have hno : ∀ l : List UInt8, Maps.has (DataW.map [] : DataW Unit) (.string l) = false := fun l => rfl
  have cs : ∀ j, (G'.hold 0).cs j = (newG fb pb ob m1 m2 tb dg wb).cs j := fun j => congrFun e2 j
  have hs1 : ∀ l : List UInt8, Maps.has (G'.hold 0).S (.string l) = false := fun l => by show Maps.has G'.S _ = false; rw [e6]; rfl
  exact {
    hG := r'.wi, zm := r.nx.zm, zo := r.nx.zo, lp := e3, lo := e4, nl := e7,
    L := fun l => by show Maps.has G'.L _ = false; rw [e8]; exact hno l,
    c1 := by rw [cs]; show _ = Value.pointer (some ⟨G'.pb, 0, none⟩); rw [r.nx.pb]; rfl,
    c2 := by rw [cs]; show _ = Value.pointer (some ⟨G'.ob, 0, none⟩); rw [r.nx.ob]; rfl,
    c3 := (cs 3).trans rfl, c39 := (cs 39).trans rfl, c46 := (cs 46).trans rfl, c41 := (cs 41).trans rfl, c42 := (cs 42).trans rfl, c43 := (cs 43).trans rfl, c34 := (cs 34).trans rfl,
    wn := rfl,
    ph := ⟨magic, rfl, Or.inl ⟨rfl, (cs 10).trans rfl, e1, ⟨#[]⟩, (cs 37).trans rfl⟩⟩,
    ns := e5,
    s1 := fun l => by rw [hs1 l]; simp,
    s2 := fun l hl => (by rw [hs1 l] at hl; exact absurd hl (by decide)),
    n := by decide,
    sz := fun s hs => by simp at hs }

theorem a5 (w : World) (o1 o2 o3 o4 o5 : Obj) :
    let w5 := ((((w.alloc o1).alloc o2).alloc o3).alloc o4).alloc o5
    w5.heap[w.heap.size]? = some o1 ∧ w5.heap[w.heap.size + 1]? = some o2 ∧ w5.heap[w.heap.size + 1 + 1]? = some o3 ∧ w5.heap[w.heap.size + 1 + 1 + 1]? = some o4 ∧ w5.heap[w.heap.size + 1 + 1 + 1 + 1]? = some o5 ∧ ∀ k, k < w.heap.size → w5.heap[k]? = w.heap[k]? := by
  refine ⟨?_, ?_, ?_, ?_, ?_, fun k hk => ?_⟩
  all_goals
    show (((((w.heap.push o1).push o2).push o3).push o4).push o5)[_]? = _
    simp only [Array.getElem?_push, Array.size_push]
  · rw [if_neg (by omega), if_neg (by omega), if_neg (by omega), if_neg (by omega), if_pos trivial]
  · rw [if_neg (by omega), if_neg (by omega), if_neg (by omega), if_pos trivial]
  · rw [if_neg (by omega), if_neg (by omega), if_pos trivial]
  · rw [if_neg (by omega), if_pos trivial]
  · rw [if_pos trivial]
  · rw [if_neg (by omega), if_neg (by omega), if_neg (by omega), if_neg (by omega), if_neg (by omega)]

/-- The three files, ahead of the rest. -/
structure NF (w : World) (n : Nat) : Prop where
  hf : ∃ s, w.heap[n + 1]? = some (.cells #[.slice none 0 0, .int .u64 0, .string s] 127)
  hp : ∃ s, w.heap[n + 1 + 1]? = some (.cells #[.slice none 0 0, .int .u64 0, .string s] 127)
  ho : ∃ s, w.heap[n + 1 + 1 + 1]? = some (.cells #[.slice none 0 0, .int .u64 0, .string s] 127)
  sz : w.heap.size = n + 4

def dgO (tb : Nat) : Obj := .cells #[.int .u32 0, .pointer (some ⟨tb, 0, none⟩)] 286
def tbO : Obj := .cells #[.int .u32 cast] 288
def mpO : Obj := .map #[] 0

theorem NF.nw {w w5 : World} {n m1 m2 tb dg : Nat} (h : NF w n) (hold : ∀ k, k < w.heap.size → w5.heap[k]? = w.heap[k]?) (h1 : w5.heap[m1]? = some mpO) (h2 : w5.heap[m2]? = some mpO) (ht : w5.heap[tb]? = some tbO) (hd : w5.heap[dg]? = some (dgO tb)) (hw : w5.heap[w.heap.size + 1 + 1 + 1 + 1]? = some (.cells (newC (n + 1) (n + 1 + 1) (n + 1 + 1 + 1) m1 m2 dg) 122))
    (hne : m1 ≠ m2 ∧ m1 ≠ tb ∧ m1 ≠ dg ∧ m2 ≠ tb ∧ m2 ≠ dg ∧ tb ≠ dg) (b1 : w.heap.size ≤ m1 ∧ m1 < w.heap.size + 4) (b2 : w.heap.size ≤ m2 ∧ m2 < w.heap.size + 4) (b3 : w.heap.size ≤ tb ∧ tb < w.heap.size + 4) (b4 : w.heap.size ≤ dg ∧ dg < w.heap.size + 4) :
    NW w5 (n + 1) (n + 1 + 1) (n + 1 + 1 + 1) m1 m2 tb dg (w.heap.size + 1 + 1 + 1 + 1) := by
  have hs := h.sz
  obtain ⟨s1, f⟩ := h.hf
  obtain ⟨s2, p⟩ := h.hp
  obtain ⟨s3, o⟩ := h.ho
  refine ⟨⟨s1, (hold _ (by omega)).trans f⟩, ⟨s2, (hold _ (by omega)).trans p⟩, ⟨s3, (hold _ (by omega)).trans o⟩, h1, h2, ht, hd, hw, ?_⟩
  obtain ⟨c1, c2, c3, c4, c5, c6⟩ := hne
  simp only [List.nodup_cons, List.mem_cons, not_or, List.not_mem_nil, List.nodup_nil, and_true, not_false_eq_true]
  omega

/-- writeMeta of a Writer that was just laid. -/
theorem NW.meta1 {w : World} {fb pb ob m1 m2 tb dg wb : Nat} (h : NW w fb pb ob m1 m2 tb dg wb) : Calls Tryz.prog 125 #[.pointer (some ⟨wb, 0, none⟩)] w (fun e w' => e = .returned .nilIface ∧ ∃ G, G.wb = wb ∧ P1 w' G [] ∧ Kept (fun k _ => newT fb pb ob m1 m2 tb dg wb k ≠ 0) w w' ∧ ∀ k, k < w.heap.size → G.T k = newT fb pb ob m1 m2 tb dg wb k) := by
  refine (writeMeta_any w _ (newWI h) (Nat.zero_lt_succ _) rfl).mono ?_
  rintro e w' ⟨he, G', r, hR⟩
  exact ⟨he, G'.hold 0, r.nx.wb, newP1 r hR, r.kp, r.nx.T⟩

section
variable {w : World} {n m1 m2 : Nat}
theorem nwMMTD (h : NF w n) (hm : m1 = w.heap.size ∧ m2 = w.heap.size + 1 ∨ m1 = w.heap.size + 1 ∧ m2 = w.heap.size) :
    NW (((((w.alloc mpO).alloc mpO).alloc tbO).alloc (dgO (w.heap.size + 1 + 1))).alloc (.cells (newC (n + 1) (n + 1 + 1) (n + 1 + 1 + 1) m1 m2 (w.heap.size + 1 + 1 + 1)) 122)) (n + 1) (n + 1 + 1) (n + 1 + 1 + 1) m1 m2 (w.heap.size + 1 + 1) (w.heap.size + 1 + 1 + 1) (w.heap.size + 1 + 1 + 1 + 1) := by
  obtain ⟨a1, a2, a3, a4, a5', a6⟩ := a5 w mpO mpO tbO (dgO (w.heap.size + 1 + 1)) (.cells (newC (n + 1) (n + 1 + 1) (n + 1 + 1 + 1) m1 m2 (w.heap.size + 1 + 1 + 1)) 122)
  rcases hm with ⟨rfl, rfl⟩ | ⟨rfl, rfl⟩
  · exact h.nw a6 a1 a2 a3 a4 a5' (by omega) (by omega) (by omega) (by omega) (by omega)
  · exact h.nw a6 a2 a1 a3 a4 a5' (by omega) (by omega) (by omega) (by omega) (by omega)
theorem nwMTDM (h : NF w n) (hm : m1 = w.heap.size ∧ m2 = w.heap.size + 1 + 1 + 1 ∨ m1 = w.heap.size + 1 + 1 + 1 ∧ m2 = w.heap.size) :
    NW (((((w.alloc mpO).alloc tbO).alloc (dgO (w.heap.size + 1))).alloc mpO).alloc (.cells (newC (n + 1) (n + 1 + 1) (n + 1 + 1 + 1) m1 m2 (w.heap.size + 1 + 1)) 122)) (n + 1) (n + 1 + 1) (n + 1 + 1 + 1) m1 m2 (w.heap.size + 1) (w.heap.size + 1 + 1) (w.heap.size + 1 + 1 + 1 + 1) := by
  obtain ⟨a1, a2, a3, a4, a5', a6⟩ := a5 w mpO tbO (dgO (w.heap.size + 1)) mpO (.cells (newC (n + 1) (n + 1 + 1) (n + 1 + 1 + 1) m1 m2 (w.heap.size + 1 + 1)) 122)
  rcases hm with ⟨rfl, rfl⟩ | ⟨rfl, rfl⟩
  · exact h.nw a6 a1 a4 a2 a3 a5' (by omega) (by omega) (by omega) (by omega) (by omega)
  · exact h.nw a6 a4 a1 a2 a3 a5' (by omega) (by omega) (by omega) (by omega) (by omega)
theorem nwTDMM (h : NF w n) (hm : m1 = w.heap.size + 1 + 1 ∧ m2 = w.heap.size + 1 + 1 + 1 ∨ m1 = w.heap.size + 1 + 1 + 1 ∧ m2 = w.heap.size + 1 + 1) :
    NW (((((w.alloc tbO).alloc (dgO w.heap.size)).alloc mpO).alloc mpO).alloc (.cells (newC (n + 1) (n + 1 + 1) (n + 1 + 1 + 1) m1 m2 (w.heap.size + 1)) 122)) (n + 1) (n + 1 + 1) (n + 1 + 1 + 1) m1 m2 w.heap.size (w.heap.size + 1) (w.heap.size + 1 + 1 + 1 + 1) := by
  obtain ⟨a1, a2, a3, a4, a5', a6⟩ := a5 w tbO (dgO w.heap.size) mpO mpO (.cells (newC (n + 1) (n + 1 + 1) (n + 1 + 1 + 1) m1 m2 (w.heap.size + 1)) 122)
  rcases hm with ⟨rfl, rfl⟩ | ⟨rfl, rfl⟩
  · exact h.nw a6 a3 a4 a1 a2 a5' (by omega) (by omega) (by omega) (by omega) (by omega)
  · exact h.nw a6 a4 a3 a1 a2 a5' (by omega) (by omega) (by omega) (by omega) (by omega)
end
theorem kept5 (w : World) (o1 o2 o3 o4 o5 : Obj) : Kept (fun _ _ => False) w (((((w.alloc o1).alloc o2).alloc o3).alloc o4).alloc o5) :=
  ((((Kept.alloc _ _ _).trans (Kept.alloc _ _ _) (fun _ _ _ => id)).trans (Kept.alloc _ _ _) (fun _ _ _ => id)).trans (Kept.alloc _ _ _) (fun _ _ _ => id)).trans (Kept.alloc _ _ _) (fun _ _ _ => id)

end Go.Proofs.YtfipfoplmopkaaaGreatDoor
