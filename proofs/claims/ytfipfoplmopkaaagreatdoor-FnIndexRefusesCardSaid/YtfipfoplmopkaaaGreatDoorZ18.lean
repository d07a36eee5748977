/- Encbuf's methods that hash. No condition but bounds on lengths, and that the digest lies apart. FileWriter: Write, AddPadding, WriteAt, by contract. Conditions: bounds on lengths; what is written lies apart from the file. FileWriter: AddPadding, WriteAt, and the small ones. Conditions: bounds on lengths; what is written lies apart from the file. FileWriter.WriteAt; the Writer's own three ways to its file; zzFile. Conditions: bounds on lengths; what is written lies apart from the file. -/
import Derived.Test.YtfipfoplmopkaaaGreatDoorZ17
import Derived.Laws.CopyOwn

namespace Go.Proofs.YtfipfoplmopkaaaGreatDoor
open Go.RowKit

theorem Bf.src {w : World} {ao : Option Addr} {n c : Nat} {g : Option Nat} {l : List UInt8} (h : Bf w (.slice ao n c) g l) : n = l.length ∧ ∀ j u, l[j]? = some u → ∃ ad, ao = some ad ∧ w.cell? (ad.add j) = some (bV u) := by
  rcases h.form with ⟨e, rfl, rfl⟩ | ⟨b, cap, e, rfl, _⟩
  · cases e; exact ⟨rfl, fun j u hj => by simp at hj⟩
  · cases e
    exact ⟨rfl, fun j u hj => ⟨_, rfl, by rw [Addr.add_lit, Nat.zero_add]; exact h.cells j u hj⟩⟩

/-- Encbuf.WriteToHash. -/
theorem writeToHash_any (eb o : Nat) (g : Option Nat) (l : List UInt8) (dg tb : Nat) (w : World) (h : EB w eb o g l) (hd : DG w dg tb) (hn : l.length < 100000000) :
    Calls Tryz.prog 105 #[.pointer (some ⟨eb, o, none⟩), .iface 284 (.pointer (some ⟨dg, 0, none⟩))] w fun e w' => e = .returned (.tuple #[]) ∧ DG w' dg tb ∧ Kept (dgP dg) w w' := by
  obtain ⟨v, hv, hb⟩ := h.b
  obtain ⟨ao, c, rfl⟩ := own_slice hb.1
  have HB := Lib.hid hb
  have HD := Lib.hid hd
  have m1 := method_write
  have m2 := ahead_write
  clear h hb hd
  go_enter Tryz.func105, Tryz.ntmps105
  go_wp2
  go_region_with (go_at_call 291; refine (dWrite_any dg tb ao l.length c l w.drew HD.out.drew rfl (by omega) (fun j u hj => HB.out.src.2 j u hj)).mono ?_; rintro e w1 ⟨rfl, hd1, hk1⟩)
  all_goals
    go_wp2
    go_end0
    exact ⟨rfl, hd1, (Kept.drew _ w).trans hk1 (fun _ _ _ => id)⟩

/-- Encbuf.PutHashSum. -/
theorem putHashSum_any (eb o : Nat) (g : Option Nat) (l : List UInt8) (dg tb : Nat) (w : World) (h : EB w eb o g l) (hd : DG w dg tb) (hn : l.length < 100000000) :
    Calls Tryz.prog 106 #[.pointer (some ⟨eb, o, none⟩), .iface 284 (.pointer (some ⟨dg, 0, none⟩))] w fun e w' => e = .returned (.tuple #[]) ∧ ∃ k : List UInt8, k.length = 4 ∧ Put w eb o g (l ++ k) w' := by
  obtain ⟨v, hv, hb⟩ := h.b
  have H := Lib.hid h
  have HB := Lib.hid hb
  have HD := Lib.hid hd
  have m1 := method_sum
  have m2 := ahead_sum
  clear h hb hd
  go_enter Tryz.func106, Tryz.ntmps106
  go_wp2
  go_region_with (go_at_call 289; refine (dSum_any dg tb v g l w.drew HD.out.drew HB.out (by omega)).mono ?_; rintro e w1 ⟨k, v', hk, rfl, ha⟩; have HKL := Lib.hid hk; clear hk; obtain ⟨ao', c', rfl⟩ := own_slice ha.own; have HE := Lib.hid (H.out.drew.kept (Kept.alloc (fun _ _ => False) _ (.cells (bVs k).toArray 5)) (fun _ _ => id) (fun _ _ _ => id)); obtain ⟨hcell, hfr⟩ := HE.out.cellApp (v := v) (by rw [World.cell?_alloc_lt _ _ _ H.out.lt]; exact hv) ⟨HB.out.1.alloc _, HB.out.2⟩ ha; have HA := Lib.hid ha; clear ha)
  all_goals
    go_wp2
    go_end0
    exact ⟨rfl, k, HKL.out, Put.trans (.inl rfl) ((Kept.drew _ w).trans (Kept.alloc _ _ _) (fun _ _ _ => id)) (HE.out.put (by rw [World.cell?_alloc_lt _ _ _ H.out.lt]; exact hv) HA.out)⟩

/-- What a method of Encbuf leaves that hashes and puts. -/
def PutH (w : World) (eb o : Nat) (g : Option Nat) (dg tb : Nat) (l : List UInt8) (w' : World) : Prop := ∃ g', Mv g g' w ∧ EB w' eb o g' l ∧ DG w' dg tb ∧ Kept (fun k off => ebP eb o g k off ∨ dgP dg k off) w w'

/-- The digest lies apart from the buffer. -/
structure Apart (eb : Nat) (g : Option Nat) (dg tb : Nat) : Prop where
  e : eb ≠ dg
  t : eb ≠ tb
  gd : g ≠ some dg
  gt : g ≠ some tb

theorem EB.keptD {w w' : World} {eb o : Nat} {g : Option Nat} {l : List UInt8} {dg tb : Nat} (h : EB w eb o g l) (ha : Apart eb g dg tb) (hk : Kept (dgP dg) w w') : EB w' eb o g l :=
  h.kept hk (fun _ _ hP => ha.e hP.1) (fun k _ e hP => ha.gd (by rw [e, hP.1]))

set_option maxRecDepth 100000 in
/-- Encbuf.PutHash. -/
theorem putHash_any (eb o : Nat) (g : Option Nat) (l : List UInt8) (dg tb : Nat) (w : World) (h : EB w eb o g l) (hd : DG w dg tb) (ha : Apart eb g dg tb) (hn : l.length < 100000000) :
    Calls Tryz.prog 64 #[.pointer (some ⟨eb, o, none⟩), .iface 284 (.pointer (some ⟨dg, 0, none⟩))] w fun e w' => e = .returned (.tuple #[]) ∧ ∃ k : List UInt8, k.length = 4 ∧ PutH w eb o g dg tb (l ++ k) w' := by
  have m1 := method_reset
  have m2 := ahead_reset
  have H := Lib.hid h
  have HD := Lib.hid hd
  have HA := Lib.hid ha
  clear h hd ha
  go_enter Tryz.func64, Tryz.ntmps64
  go_wp2_with fail
  refine (dReset_any dg tb w HD.out).mono ?_
  rintro e w1 ⟨rfl, d1, k1⟩
  have E1 := Lib.hid (H.out.keptD HA.out k1)
  have D1 := Lib.hid d1
  clear d1
  go_wp2_with fail
  refine (writeToHash_any eb o g l dg tb w1 E1.out D1.out hn).mono ?_
  rintro e w2 ⟨rfl, d2, k2⟩
  have E2 := Lib.hid (E1.out.keptD HA.out k2)
  have D2 := Lib.hid d2
  clear d2
  go_wp2_with fail
  refine (putHashSum_any eb o g l dg tb w2 E2.out D2.out hn).mono ?_
  rintro e w3 ⟨rfl, k, hk, g', m3, e3, k3⟩
  have E3 := Lib.hid e3
  clear e3
  go_wp2
  go_end0
  have k12 := (k1.trans k2 (fun _ _ _ => id))
  refine ⟨rfl, k, hk, g', ?_, E3.out, D2.out.kept k3 ?_ ?_, (k12.mono (fun _ _ _ => .inr)).trans k3 (fun _ _ _ => .inl)⟩
  · exact Mv.trans (.inl rfl) m3 k12.size
  · rintro o' (hP | hP)
    · exact HA.out.e hP.1.symm
    · exact HA.out.gd hP
  · rintro o' (hP | hP)
    · exact HA.out.t hP.1.symm
    · exact HA.out.gt hP

end Go.Proofs.YtfipfoplmopkaaaGreatDoor

namespace Go.Proofs.YtfipfoplmopkaaaGreatDoor
open Go.RowKit

/-- A slice of bytes that can be read, its cells outside P. -/
def Rd (P : Nat → Nat → Prop) (w : World) (v : Value) (l : List UInt8) : Prop :=
  ∃ ao c, v = .slice ao l.length c ∧ (ao = none → l.length = 0 ∧ c = 0) ∧ ∀ j u, l[j]? = some u → ∃ b off, ao = some ⟨b, off, none⟩ ∧ w.cell? ⟨b, off + j, none⟩ = some (bV u) ∧ ¬ P b (off + j)

theorem Rd.kept {P Q : Nat → Nat → Prop} {w w' : World} {v : Value} {l : List UInt8} (h : Rd P w v l) (hk : Kept Q w w') (hQ : ∀ i o, i < w.heap.size → Q i o → P i o) : Rd P w' v l := by
  obtain ⟨ao, c, h1, h2, h3⟩ := h
  refine ⟨ao, c, h1, h2, fun j u hj => ?_⟩
  obtain ⟨b, off, e, hc, hn⟩ := h3 j u hj
  have hb := World.block_lt_of_cell? _ _ hc
  exact ⟨b, off, e, by rw [hk.cell _ _ hb (fun hq => hn (hQ _ _ hb hq))]; exact hc, hn⟩
theorem Rd.mono {P Q : Nat → Nat → Prop} {w : World} {v : Value} {l : List UInt8} (h : Rd P w v l) (hQ : ∀ i o, i < w.heap.size → Q i o → P i o) : Rd Q w v l := by
  obtain ⟨ao, c, h1, h2, h3⟩ := h
  refine ⟨ao, c, h1, h2, fun j u hj => ?_⟩
  obtain ⟨b, off, e, hc, hn⟩ := h3 j u hj
  exact ⟨b, off, e, hc, fun hq => hn (hQ _ _ (World.block_lt_of_cell? _ _ hc) hq)⟩
theorem Bf.rd {w : World} {v : Value} {g : Option Nat} {l : List UInt8} {P : Nat → Nat → Prop} (h : Bf w v g l) (hP : ∀ k o, g = some k → ¬ P k o) : Rd P w v l := by
  rcases h.form with ⟨rfl, rfl, rfl⟩ | ⟨b, cap, rfl, rfl, _⟩
  · exact ⟨none, 0, rfl, fun _ => ⟨rfl, rfl⟩, fun j u hj => by simp at hj⟩
  · exact ⟨_, cap, rfl, (fun e => by cases e), fun j u hj => ⟨b, 0, rfl, by rw [Nat.zero_add]; exact h.cells j u hj, hP _ _ rfl⟩⟩

/-- The struct FileWriter at fb: its bytes l in the block g, its position their number. -/
structure FW (w : World) (fb : Nat) (g : Option Nat) (l : List UInt8) : Prop where
  b : ∃ v, w.cell? ⟨fb, 0, none⟩ = some v ∧ Bf w v g l
  p : w.cell? ⟨fb, 1, none⟩ = some (.int .u64 l.length)
  f0 : w.frozen? ⟨fb, 0, none⟩ = false
  f1 : w.frozen? ⟨fb, 1, none⟩ = false
  ne : g ≠ some fb

/-- What a method of FileWriter touches. -/
def fwP (fb : Nat) (g : Option Nat) (k off : Nat) : Prop := (k = fb ∧ off ≤ 1) ∨ g = some k
/-- The old row's head is as it was. -/
def Hd (g : Option Nat) (n : Nat) (w w' : World) : Prop := ∀ b, g = some b → ∀ j, j < n → w'.cell? ⟨b, j, none⟩ = w.cell? ⟨b, j, none⟩

theorem FW.lt {w : World} {fb : Nat} {g : Option Nat} {l : List UInt8} (h : FW w fb g l) : fb < w.heap.size := World.block_lt_of_cell? _ _ h.p
theorem FW.kept {w w' : World} {fb : Nat} {g : Option Nat} {l : List UInt8} {P : Nat → Nat → Prop} (h : FW w fb g l) (hk : Kept P w w') (h1 : ∀ o, ¬ P fb o) (h2 : ∀ k o, g = some k → ¬ P k o) : FW w' fb g l := by
  obtain ⟨v, hv, hb⟩ := h.b
  exact ⟨⟨v, (hk.cell _ _ h.lt (h1 0)).trans hv, hb.kept hk h2⟩, (hk.cell _ _ h.lt (h1 1)).trans h.p, (hk.fr _ _ h.lt).trans h.f0, (hk.fr _ _ h.lt).trans h.f1, h.ne⟩

/-- Behind an append to the file and the stores of the new slice and position. -/
theorem FW.put {w w1 : World} {fb : Nat} {g : Option Nat} {l k : List UInt8} {v v' : Value} (h : FW w fb g l) (hv : w.cell? ⟨fb, 0, none⟩ = some v) (ha : App w w1 5 1 v v' (l.length + k.length) (bVs l ++ bVs k)) :
    FW ((w1.setCell ⟨fb, 0, none⟩ v').setCell ⟨fb, 1, none⟩ (.int .u64 ((l ++ k).length : Nat))) fb v'.ownBlock (l ++ k) ∧ Mv g v'.ownBlock w ∧
      Kept (fwP fb g) w ((w1.setCell ⟨fb, 0, none⟩ v').setCell ⟨fb, 1, none⟩ (.int .u64 ((l ++ k).length : Nat))) ∧ Hd g l.length w ((w1.setCell ⟨fb, 0, none⟩ v').setCell ⟨fb, 1, none⟩ (.int .u64 ((l ++ k).length : Nat))) := by
  obtain ⟨v0, hv0, hb⟩ := h.b
  obtain rfl : v0 = v := by rw [hv] at hv0; exact (Option.some.inj hv0).symm
  have hk := ha.kept hb.1
  rw [hb.2] at hk
  have hm := ha.mv
  rw [hb.2] at hm
  have hne : v'.ownBlock ≠ some fb := hm.ne h.lt h.ne
  have hbf := ha.bf
  have hcell : w1.cell? ⟨fb, 0, none⟩ = some v0 := by rw [hk.cell fb 0 h.lt h.ne]; exact hv
  have hcell1 : (w1.setCell ⟨fb, 0, none⟩ v').cell? ⟨fb, 1, none⟩ = some (.int .u64 l.length) := by rw [World.cell?_setCell_other _ _ _ _ (by simp), hk.cell fb 1 h.lt h.ne]; exact h.p
  have K1 : Kept (fwP fb g) w1 ((w1.setCell ⟨fb, 0, none⟩ v').setCell ⟨fb, 1, none⟩ (.int .u64 ((l ++ k).length : Nat))) :=
    (Kept.setCell w1 fb 0 v' (.inl ⟨rfl, by omega⟩)).trans (Kept.setCell _ fb 1 _ (.inl ⟨rfl, by omega⟩)) (fun _ _ _ => id)
  have K0 : Kept (fwP fb g) w w1 := hk.mono (fun i o' _ e => .inr e)
  refine ⟨⟨⟨v', ?_, ?_⟩, ?_, ?_, ?_, hne⟩, hm, K0.trans K1 (fun _ _ _ => id), fun b hb' j hj => ?_⟩
  · rw [World.cell?_setCell_other _ _ _ _ (by simp)]; exact World.cell?_setCell_same _ _ _ hcell
  · exact ⟨ownsRow_setCell_other (ownsRow_setCell_other hbf.1 hne _) hne _, rfl⟩
  · exact World.cell?_setCell_same _ _ _ hcell1
  · rw [World.frozen?_setCell, World.frozen?_setCell, hk.fr _ _ h.lt]; exact h.f0
  · rw [World.frozen?_setCell, World.frozen?_setCell, hk.fr _ _ h.lt]; exact h.f1
  · have hbe : b ≠ fb := fun e => h.ne (by rw [hb', e])
    rw [World.cell?_setCell_other _ _ _ _ (fun e => hbe (by cases e; rfl)), World.cell?_setCell_other _ _ _ _ (fun e => hbe (by cases e; rfl))]
    exact ha.head hb.1 (news := bVs k) rfl (hb.2.trans hb') j (by simpa using hj)

/-- What a method of FileWriter leaves. -/
def Wr (w : World) (fb : Nat) (g : Option Nat) (n : Nat) (l : List UInt8) (w' : World) : Prop := ∃ g', Mv g g' w ∧ FW w' fb g' l ∧ Kept (fwP fb g) w w' ∧ Hd g n w w' ∧ (∀ b, g' = some b → g = some b ∨ w.heap.size ≤ b)

theorem fwP_step {w : World} {fb : Nat} {g g1 : Option Nat} (hm : Mv g g1 w) : ∀ i o, i < w.heap.size → fwP fb g1 i o → fwP fb g i o := by
  rintro i o hi (h | h)
  · exact .inl h
  · rcases hm with rfl | ⟨b, rfl, hb⟩
    · exact .inr h
    · cases h; omega

/-- A row of slices of bytes. -/
def Rows2 (P : Nat → Nat → Prop) (w : World) (bb bo : Nat) (ls : List (List UInt8)) : Prop := ∀ j l, ls[j]? = some l → ∃ v, w.cell? ⟨bb, bo + j, none⟩ = some v ∧ Rd P w v l ∧ ¬ P bb (bo + j)

theorem Rows2.kept {P Q : Nat → Nat → Prop} {w w' : World} {bb bo : Nat} {ls : List (List UInt8)} (h : Rows2 P w bb bo ls) (hk : Kept Q w w') (hQ : ∀ i o, i < w.heap.size → Q i o → P i o) : Rows2 P w' bb bo ls := by
  intro j l hj
  obtain ⟨v, hv, hr, hn⟩ := h j l hj
  have hb := World.block_lt_of_cell? _ _ hv
  exact ⟨v, by rw [hk.cell _ _ hb (fun hq => hn (hQ _ _ hb hq))]; exact hv, hr.kept hk hQ, hn⟩

theorem flat_take (ls : List (List UInt8)) (k : Nat) (hk : k < ls.length) : (ls.take (k + 1)).flatten = (ls.take k).flatten ++ ls[k] ∧ ((ls.take k).flatten ++ ls[k]).length ≤ ls.flatten.length := by
  have e : (ls.take (k + 1)).flatten = (ls.take k).flatten ++ ls[k] := by rw [List.take_succ_eq_append_getElem hk, List.flatten_append, List.flatten_cons, List.flatten_nil, List.append_nil]
  refine ⟨e, ?_⟩
  have := congrArg (fun x => (List.flatten x).length) (List.take_append_drop (k + 1) ls)
  simp only [List.flatten_append, List.length_append] at this
  rw [← e]; omega

set_option maxHeartbeats 800000 in
/-- FileWriter.Write. -/
theorem fwWrite_any (fb bb bo n c : Nat) (g : Option Nat) (l : List UInt8) (ls : List (List UInt8)) (w : World) (h : FW w fb g l) (hr : Rows2 (fwP fb g) w bb bo ls) (hn : ls.length = n) (hn0 : n < 1000000) (hl : l.length + ls.flatten.length < 1000000000) :
    Calls Tryz.prog 101 #[.pointer (some ⟨fb, 0, none⟩), .slice (some ⟨bb, bo, none⟩) n c] w fun e w' => e = .returned .nilIface ∧ Wr w fb g l.length (l ++ ls.flatten) w' := by
  have H := Lib.hid h
  have HR := Lib.hid hr
  have HN := Lib.hid hn
  have HL := Lib.hid hl
  clear h hr hn hl
  go_enter Tryz.func101, Tryz.ntmps101
  go_wp2
  go_loopw [9, 6] (fun i x wr => ∃ (k : Nat) (gr : Option Nat), k ≤ n ∧ i = .int .i64 k ∧ Mv g gr w ∧ FW wr fb gr (l ++ (ls.take k).flatten) ∧ Kept (fwP fb g) w wr ∧ Hd g l.length w wr ∧ (∀ b, gr = some b → g = some b ∨ w.heap.size ≤ b)) (fun i _ _ => n - (intOf i).toNat)
  case atStart => exact ⟨0, g, Nat.zero_le _, rfl, .inl rfl, by simpa using H.out, Kept.refl _ _, fun _ _ _ _ => rfl, fun b hb => .inl hb⟩
  case round =>
    obtain ⟨k, gr, hk, rfl, hm, hf, hkp, hhd, hgr⟩ := hrel
    by_cases hlt : k < n
    · have hkl : k < ls.length := by rw [HN.out]; exact hlt
      obtain ⟨lk, hlk0⟩ : ∃ lk, lk = ls[k] := ⟨_, rfl⟩
      obtain ⟨v0, hsrc, ⟨ao, c1, rfl, hno, hrd⟩, _⟩ := (HR.out.kept hkp (fun _ _ _ => id)) k lk (by rw [hlk0]; simp [hkl])
      obtain ⟨eflat, hflat⟩ := flat_take ls k hkl
      rw [← hlk0] at eflat hflat
      obtain ⟨lt, hlt0⟩ : ∃ lt, lt = l ++ (ls.take k).flatten := ⟨_, rfl⟩
      have e2 : l ++ (ls.take (k + 1)).flatten = lt ++ lk := by rw [eflat, hlt0, List.append_assoc]
      rw [← hlt0] at hf
      have hLm : lt.length + lk.length < 1000000000 := by have := HL.out; rw [hlt0]; simp only [List.length_append] at hflat ⊢; omega
      have hls : l.length ≤ lt.length := by rw [hlt0]; simp
      obtain ⟨v, hv, hb⟩ := hf.b
      have hp := hf.p
      have f0 := hf.f0
      have f1 := hf.f1
      have HF := Lib.hid hf
      have HB := Lib.hid hb
      have E2 := Lib.hid e2
      have HRD := Lib.hid hrd
      have HNO := Lib.hid hno
      have HM := Lib.hid hm
      have HH := Lib.hid hhd
      have HG := Lib.hid hgr
      have hfl := hf.lt
      clear hf hb e2 hrd hno hm hhd hlk0 hlt0 eflat hflat hgr
      go_wp2_with (at_builtin; refine wpList_appB _ rfl _ _ rfl v gr lt lk rfl HB.out ao lk.length c1 rfl rfl HNO.out ?c1 ?c2 ?_)
      case c1 =>
        intro ad e j u hj
        obtain ⟨b, off, e', hc', _⟩ := HRD.out j u hj
        rw [e'] at e
        cases e
        rw [Addr.add_lit]; exact hc'
      case c2 => omega
      intro v' w1 ha
      obtain ⟨ao', c', rfl⟩ := own_slice ha.own
      have hk1 := ha.kept HB.out.1
      rw [HB.out.2] at hk1
      have hcell0 : w1.cell? ⟨fb, 0, none⟩ = some v := by rw [hk1.cell fb 0 hfl HF.out.ne]; exact hv
      have hcell1 : w1.cell? ⟨fb, 1, none⟩ = some (.int .u64 lt.length) := by rw [hk1.cell fb 1 hfl HF.out.ne]; exact hp
      have hfr0 : w1.frozen? ⟨fb, 0, none⟩ = false := by rw [hk1.fr fb 0 hfl]; exact f0
      have hfr1 : w1.frozen? ⟨fb, 1, none⟩ = false := by rw [hk1.fr fb 1 hfl]; exact f1
      obtain ⟨P1, P2, P3, P4⟩ := HF.out.put hv ha
      have e3 : ((lt ++ lk).length : Int) = (lt.length : Int) + lk.length := by simp
      rw [e3] at P1 P3 P4
      have Q1 := Lib.hid P1
      have Q2 := Lib.hid P2
      have Q3 := Lib.hid P3
      have Q4 := Lib.hid P4
      clear P1 P2 P3 P4 ha hk1 e3
      go_wp2
      go_roundw
      case rel =>
        refine ⟨k + 1, _, by omega, by go_num, HM.out.trans Q2.out hkp.size, by rw [E2.out]; exact Q1.out, hkp.trans Q3.out (fwP_step HM.out), fun b hb j hj => ?_, fun b hb => ?_⟩
        · rcases HM.out with rfl | ⟨b', rfl, hb'⟩
          · rw [Q4.out b hb j (by omega)]; exact HH.out b hb j hj
          · have hlt' := H.out.b
            obtain ⟨v9, hv9, hb9⟩ := hlt'
            have hbl := hb9.lt b hb
            rw [Q3.out.cell b j (Nat.lt_of_lt_of_le hbl hkp.size) ?_]
            · exact HH.out b hb j hj
            · rintro (hP | hP)
              · exact H.out.ne (by rw [hb, hP.1])
              · cases hP; omega
        · rcases HM.out.trans Q2.out hkp.size with e | ⟨b', e, hb'⟩
          · exact .inl (by rw [← e, hb])
          · rw [hb] at e; cases e; exact .inr hb'
      case measure => simp [intOf]; omega
    · obtain rfl : k = n := by omega
      rw [List.take_of_length_le (by rw [HN.out]; exact Nat.le_refl _)] at hf
      have HF := Lib.hid hf
      have HH := Lib.hid hhd
      have HG := Lib.hid hgr
      clear hf hhd hgr
      go_wp2
      go_ret
      exact ⟨rfl, gr, hm, HF.out, hkp, HH.out, HG.out⟩

end Go.Proofs.YtfipfoplmopkaaaGreatDoor

namespace Go.Proofs.YtfipfoplmopkaaaGreatDoor
open Go.RowKit

/-- FileWriter.Flush. -/
theorem flush_any (v : Value) (w : World) : Calls Tryz.prog 113 #[v] w fun e w' => e = .returned .nilIface ∧ w = w' := by
  go_enter Tryz.func113, Tryz.ntmps113
  go_wp2
  go_ret
  exact ⟨rfl, rfl⟩

def zeros (n : Nat) : List UInt8 := List.replicate n 0
@[simp] theorem zeros_length (n : Nat) : (zeros n).length = n := by simp [zeros]

theorem made_bytes (n : Nat) : (madeCells #[Value.int .u8 0] n).toList = bVs (zeros n) := by
  rw [toList_madeCells_one]
  simp [bVs, zeros, bV]

/-- How many bytes are wanted up to the next multiple. -/
def padN (n s : Nat) : Nat := (s - n % s) % s

set_option maxHeartbeats 800000 in
set_option maxRecDepth 100000 in
/-- FileWriter.AddPadding. -/
theorem fwPad_any (fb s : Nat) (g : Option Nat) (l : List UInt8) (w : World) (h : FW w fb g l) (hs0 : 0 < s) (hs : s ≤ 64) (hl : l.length < 100000000) :
    Calls Tryz.prog 104 #[.pointer (some ⟨fb, 0, none⟩), .int .i64 s] w fun e w' => e = .returned .nilIface ∧ Wr w fb g l.length (l ++ zeros (padN l.length s)) w' := by
  obtain ⟨i0, hi, hz0, hz1, hz2⟩ := info_parts Tryz.info5
  have hp := h.p
  have hfl := h.lt
  by_cases h0 : l.length % s = 0
  · have hp0 : padN l.length s = 0 := by unfold padN; rw [h0]; simp
    have HP := Lib.hid hp0
    have hb : (((l.length : Int) % (s : Int)) == 0) = true := by
      have : ((l.length : Int) % (s : Int)) = ((l.length % s : Nat) : Int) := by simp
      rw [this, h0]; rfl
    have H := Lib.hid h
    have H0 := Lib.hid h0
    clear h hp0 h0
    go_enter Tryz.func104, Tryz.ntmps104
    go_wp2
    go_ret
    exact ⟨rfl, g, .inl rfl, by rw [HP.out]; simpa [zeros] using H.out, Kept.refl _ _, fun _ _ _ _ => rfl, fun b hb => .inl hb⟩
  · obtain ⟨r, hr0⟩ : ∃ r, r = l.length % s := ⟨_, rfl⟩
    have hrs : r < s := by rw [hr0]; exact Nat.mod_lt _ hs0
    have hr1 : 0 < r := by omega
    have hp0 : padN l.length s = s - r := by unfold padN; rw [← hr0, Nat.mod_eq_of_lt (by omega)]
    have hri : ((l.length : Int) % (s : Int)) = (r : Int) := by rw [hr0]; simp
    have HP := Lib.hid hp0
    have hrb : ((r : Int) == 0) = false := by simp; omega
    have H := Lib.hid h
    clear h hp0 h0 hr0
    go_enter Tryz.func104, Tryz.ntmps104
    go_wp2_with (with_reducible refine wpList_make_full _ rfl _ _ 27 rfl 0 5 i0 (.int .u8 0) 1 Tryz.underlying27 hi hz0 hz1 _ _ _ _ (s - r) rfl rfl ?cL ?cC ?b2 ?b3 ?b4 ?_)
    case cL => omega
    case cC => omega
    case b2 => rw [hz2]; omega
    case b3 => unfold maxLen; omega
    case b4 => omega
    intro w1 ho hg
    rw [made_bytes] at ho
    have k1 : Kept (fun _ _ => False) w w1 := Kept.grown hg (fun _ _ e => by cases e) (fun _ _ e => by cases e)
    have hb1 : Bf w1 (.slice (some ⟨w.heap.size, 0, none⟩) (s - r) (s - r)) (some w.heap.size) (zeros (s - r)) := ⟨by simpa using ho, rfl⟩
    have k2 := k1.trans (Kept.alloc (fun _ _ => False) w1 (.cells #[.slice (some ⟨w.heap.size, 0, none⟩) (s - r) (s - r)] 27)) (fun _ _ _ => id)
    have hF2 := Lib.hid (H.out.kept k2 (fun _ => id) (fun _ _ _ => id))
    have hb2 : Bf (w1.alloc (.cells #[.slice (some ⟨w.heap.size, 0, none⟩) (s - r) (s - r)] 27)) (.slice (some ⟨w.heap.size, 0, none⟩) (s - r) (s - r)) (some w.heap.size) (zeros (s - r)) := ⟨hb1.1.alloc _, rfl⟩
    have hlt1 := hb1.lt _ rfl
    have hgn : g ≠ some w.heap.size := by
      obtain ⟨v, _, hb⟩ := H.out.b
      intro e; have := hb.lt _ e; omega
    have hgn1 : g ≠ some w1.heap.size := by
      obtain ⟨v, _, hb⟩ := H.out.b
      intro e; have := hb.lt _ e; omega
    have hR : Rows2 (fwP fb g) (w1.alloc (.cells #[.slice (some ⟨w.heap.size, 0, none⟩) (s - r) (s - r)] 27)) w1.heap.size 0 [zeros (s - r)] := by
      intro j lj hj
      match j, hj with
      | 0, hj =>
        simp at hj; subst hj
        refine ⟨_, by rw [Nat.add_zero, World.cell?_alloc_new]; rfl, hb2.rd ?_, ?_⟩
        · rintro k o e (hP | hP)
          · cases e; omega
          · rw [hP] at hgn; exact hgn e.symm
        · rintro (hP | hP)
          · omega
          · exact hgn1 hP
    have HR := Lib.hid hR
    have HK := Lib.hid k2
    clear hR k2 hb1 hb2 k1 ho hg hgn hgn1
    go_wp2_with fail
    refine (fwWrite_any fb w1.heap.size 0 1 1 g l [zeros (s - r)] _ hF2.out HR.out rfl (by omega) (by simp; omega)).mono ?_
    rintro e w3 ⟨rfl, g', m3, f3, k3, d3, n3⟩
    have F3 := Lib.hid f3
    have D3 := Lib.hid d3
    have N3 := Lib.hid n3
    clear f3 d3 n3
    go_wp2
    go_ret
    refine ⟨rfl, g', ?_, by rw [HP.out]; simpa using F3.out, (HK.out.mono (fun _ _ _ h => h.elim)).trans k3 (fun _ _ _ => id), fun b hb j hj => ?_, fun b hb => ?_⟩
    · exact Mv.trans (.inl rfl) m3 HK.out.size
    · obtain ⟨v, _, hbv⟩ := H.out.b
      rw [D3.out b hb j hj]
      exact HK.out.cell b j (hbv.lt b hb) id
    · rcases N3.out b hb with h | h
      · exact .inl h
      · exact .inr (Nat.le_trans HK.out.size h)

/-- Bytes written over others. -/
def spl (l : List UInt8) (p : Nat) (k : List UInt8) : List UInt8 := l.take p ++ (k ++ l.drop (p + k.length))
theorem spl_length (l : List UInt8) (p : Nat) (k : List UInt8) (h : p + k.length ≤ l.length) : (spl l p k).length = l.length := by simp [spl]; omega

theorem setRow_kept (w : World) (b p : Nat) (cur : Array Value) (k : List Value) (t : TypeId) (hg : w.heap[b]? = some (.cells cur t (0, 0))) (hp : p + k.length ≤ cur.size) (hk0 : 0 < k.length) :
    Kept (fun i o => i = b ∧ p ≤ o ∧ o < p + k.length) w (w.setRow b (cur.toList.take p ++ (k ++ cur.toList.drop (p + k.length))).toArray) := by
  have hn := setRow_heap w b cur (cur.toList.take p ++ (k ++ cur.toList.drop (p + k.length))).toArray t (0, 0) hg
  have hlt : b < w.heap.size := lt_of_block hg
  refine ⟨rfl, rfl, rfl, by simp [World.setRow], fun i o hi hn' => ?_, fun i o hi => ?_, fun i hi hn' => ?_⟩
  · by_cases e : i = b
    · subst e
      simp only [World.cell?, hn, hg]
      have : o < p ∨ p + k.length ≤ o := by
        rcases Nat.lt_or_ge o p with h | h
        · exact .inl h
        · rcases Nat.lt_or_ge o (p + k.length) with h' | h'
          · exact absurd ⟨rfl, h, h'⟩ hn'
          · exact .inr h'
      simp only [Option.isSome_none, Bool.false_eq_true, if_false, List.getElem?_toArray]
      have hcs : cur.toList.length = cur.size := by simp
      rw [← Array.getElem?_toList]
      rcases this with h | h
      · rw [List.getElem?_append_left (by rw [List.length_take, hcs]; omega), List.getElem?_take_of_lt h]
      · rw [List.getElem?_append_right (by rw [List.length_take, hcs]; omega), List.length_take, hcs, Nat.min_eq_left (by omega), List.getElem?_append_right (by omega), List.getElem?_drop]
        congr 1; omega
    · exact World.cell?_of_block (a := ⟨i, o, none⟩) (setRow_other w b i _ e)
  · by_cases e : i = b
    · subst e; simp only [World.frozen?, hn, hg]
    · exact World.frozen?_of_block (a := ⟨i, o, none⟩) (setRow_other w b i _ e)
  · exact setRow_other w b i _ (fun e => hn' p ⟨e, Nat.le_refl _, by omega⟩)

theorem bVs_take (l : List UInt8) (n : Nat) : (bVs l).take n = bVs (l.take n) := by simp [bVs, List.map_take]
theorem bVs_drop (l : List UInt8) (n : Nat) : (bVs l).drop n = bVs (l.drop n) := by simp [bVs, List.map_drop]

/-- copy over bytes that a slice owns, at the list of a region's operations. -/
theorem wpList_copyB {w : World} {ops : Array Oper} {rest : List Oper} {o : Oper} {a : Act} {Q : Exit → Act → World → Prop} (hgd : o.guard = none) (d s : Operand)
    (ho : o.op = .call { callee := .builtin .copy, args := #[d, s], argTypes := #[27, 27] }) (b L cap p c : Nat) (l k : List UInt8) (hb : Bf w (.slice (some ⟨b, 0, none⟩) L cap) (some b) l)
    (hd : a.eval d = .slice (some ⟨b, p, none⟩) (L - p) (cap - p)) (ad : Addr) (m : Nat) (hs : a.eval s = .slice (some ad) m c) (hm : k.length = m) (hk0 : 0 < k.length) (hp : p + k.length ≤ l.length)
    (hsrc : ∀ j u, k[j]? = some u → w.cell? (ad.add j) = some (bV u))
    (h : ∀ w', Bf w' (.slice (some ⟨b, 0, none⟩) L cap) (some b) (spl l p k) → Kept (fun i o => i = b ∧ p ≤ o ∧ o < p + k.length) w w' → wpList Tryz.prog ops Q rest (a.put o.dst (goInt k.length)) w') : wpList Tryz.prog ops Q (o :: rest) a w := by
  subst hm
  obtain ⟨i0, hi, hz0, hz1, hz2⟩ := info_parts Tryz.info5
  obtain ⟨cur, hg, hcs, htake, hLl, hLc, hcm⟩ : ∃ cur, w.heap[b]? = some (.cells cur 5 (0, 0)) ∧ cur.size = cap * 1 ∧ cur.toList.take (l.length * 1) = bVs l ∧ L = l.length ∧ L ≤ cap ∧ cap ≤ maxLen := by
    rcases hb.1.2 with ⟨h, _⟩ | ⟨g', cap', cur, h, _, hg, hle, hm, hcs, ht⟩
    · cases h
    · cases h; exact ⟨cur, hg, hcs, ht, rfl, hle, hm⟩
  have hsz : p + k.length ≤ cur.size := by omega
  refine wpList_copy_own hgd d s 27 27 ho 5 Tryz.underlying27 (by rw [hi]; simp [hz1]) b p _ _ ad _ _ hd hs cur 5 hg (bVs k) (by rw [bVs_length]; show _ = min _ _; omega) (fun j v hj => ?_) (by simpa using hsz) bVs_one ?_
  · obtain ⟨u, hu, rfl⟩ := bVs_get hj
    exact hsrc j u hu
  rw [bVs_length]
  have hK := setRow_kept w b p cur (bVs k) 5 hg (by simpa using hsz) (by simpa using hk0)
  rw [bVs_length] at hK
  refine h _ ⟨⟨by simp, .inr ⟨b, cap, _, by rw [spl_length l p k hp, hLl], Nat.zero_le _, setRow_heap w b cur _ 5 (0, 0) hg, by rw [spl_length l p k hp]; omega, hcm, ?_, ?_⟩⟩, rfl⟩ hK
  · simp; omega
  · rw [spl_length l p k hp]
    rw [Nat.mul_one] at htake ⊢
    have hcl : cur.toList.length = cap := by simp; omega
    have e1 : cur.toList.take p = (bVs l).take p := by rw [← htake, List.take_take, Nat.min_eq_left (by omega)]
    have e2 : (bVs l).drop (p + k.length) = (cur.toList.drop (p + k.length)).take (l.length - (p + k.length)) := by rw [← htake, List.drop_take]
    have e3 : (cur.toList.take p).length = p := by rw [List.length_take]; omega
    show (cur.toList.take p ++ (bVs k ++ cur.toList.drop (p + k.length))).take l.length = _
    have e4 : (cur.toList.take p).take l.length = cur.toList.take p := by rw [List.take_take, Nat.min_eq_right (by omega)]
    have e5 : (bVs k).take (l.length - p) = bVs k := List.take_of_length_le (by rw [bVs_length]; omega)
    rw [List.take_append, e3, e4, List.take_append, e5, bVs_length, Nat.sub_sub, ← e2, e1, spl, bVs_append, bVs_append, bVs_take, bVs_drop]

end Go.Proofs.YtfipfoplmopkaaaGreatDoor

namespace Go.Proofs.YtfipfoplmopkaaaGreatDoor
open Go.RowKit

set_option maxRecDepth 100000 in
/-- FileWriter.WriteAt, within what is there. -/
theorem fwWriteAt_any (fb p c : Nat) (g : Option Nat) (l k : List UInt8) (ad : Addr) (w : World) (h : FW w fb g l) (hk0 : 0 < k.length) (hp : p + k.length ≤ l.length) (hl : l.length < 1000000000)
    (hsrc : ∀ j u, k[j]? = some u → w.cell? (ad.add j) = some (bV u)) :
    Calls Tryz.prog 158 #[.pointer (some ⟨fb, 0, none⟩), .slice (some ad) k.length c, .int .u64 p] w fun e w' => e = .returned .nilIface ∧ FW w' fb g (spl l p k) ∧ Kept (fun i o => g = some i ∧ p ≤ o ∧ o < p + k.length) w w' := by
  obtain ⟨v, hv, hb⟩ := h.b
  rcases hb.form with ⟨rfl, rfl, rfl⟩ | ⟨b, cap, rfl, rfl, hle, hcm⟩
  · simp only [List.length_nil] at hp; omega
  obtain ⟨L, hL⟩ : ∃ L, L = l.length := ⟨_, rfl⟩
  rw [← hL] at hp hl hle hv hb
  obtain ⟨m, hm⟩ : ∃ m, m = k.length := ⟨_, rfl⟩
  rw [← hm] at hp hk0 ⊢
  have hpc : p < cap := by omega
  unfold maxLen at hcm
  have H := Lib.hid h
  have HB := Lib.hid hb
  have HL := Lib.hid hL
  have HM := Lib.hid hm
  have HS := Lib.hid hsrc
  have hi1 : (p : Int) ≤ L := by omega
  clear h hb hL hm hsrc
  go_enter Tryz.func158, Tryz.ntmps158
  go_wp2_with fail
  refine (flush_any _ _).mono ?_
  rintro e w1 ⟨rfl, rfl⟩
  go_wp2_with (with_reducible refine wpList_copyB rfl _ _ rfl b L cap p c l k HB.out rfl ad m rfl HM.out.symm ?c1 ?c2 HS.out ?_)
  case c1 => rw [← HM.out]; exact hk0
  case c2 => rw [← HM.out, ← HL.out]; exact hp
  intro w2 hb2 hk2
  rw [← HM.out] at hk2
  have HK := Lib.hid hk2
  have HB2 := Lib.hid hb2
  clear hk2 hb2
  go_wp2
  go_ret
  have hne : b ≠ fb := fun e => H.out.ne (by rw [e])
  have hsl : (spl l p k).length = l.length := spl_length l p k (by rw [← HM.out, ← HL.out]; exact hp)
  refine ⟨rfl, ⟨⟨_, ?_, HB2.out⟩, ?_, ?_, ?_, H.out.ne⟩, HK.out.mono (fun i o _ hP => ⟨by rw [hP.1], hP.2⟩)⟩
  · rw [HK.out.cell fb 0 H.out.lt (fun hP => hne hP.1.symm)]; exact hv
  · rw [HK.out.cell fb 1 H.out.lt (fun hP => hne hP.1.symm), hsl]; exact H.out.p
  · rw [HK.out.fr fb 0 H.out.lt]; exact H.out.f0
  · rw [HK.out.fr fb 1 H.out.lt]; exact H.out.f1

end Go.Proofs.YtfipfoplmopkaaaGreatDoor
