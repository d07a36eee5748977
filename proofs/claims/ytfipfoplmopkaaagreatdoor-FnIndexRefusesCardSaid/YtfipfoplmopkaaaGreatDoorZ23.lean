/- slices.Sort of numbers of 32 bits. Conditions: the row is there. slices.Sort of strings, as the shelf has it: laid at this dump by the kit's own tool. Conditions: the row is there; its length. The steps of the Writer's methods once more, with what the Writer holds as one row ('Vw'). Conditions: bounds on lengths. The steps of the Writer's methods with the step's own 'Reach' beside: for functions with things of their own. Conditions: bounds on lengths. Files that are not written to: their blocks stay whole. No condition. Writer.writePosting. Conditions: bounds on lengths. writeLengthAndHash, writeTOC, the methods that do nothing. Conditions: bounds on lengths. -/
import Derived.Test.YtfipfoplmopkaaaGreatDoorZ20
import Derived.Test.YtfipfoplmopkaaaGreatDoorProg
import Derived.Test.YtfipfoplmopkaaaGreatDoorZ22
import Derived.Shelf.Sort.Plain
import Derived.Shelf.Slices.In.SortNone
import Derived.Defers
import Derived.Deep.CutRange
import Derived.Deep.RegionHeld3

namespace Go.Proofs.YtfipfoplmopkaaaGreatDoor
open Go.RowKit

theorem bitLen_lt (n : Nat) (hn : n < 1000000000) : Lib.bitLen n < 1000 := by
  rcases Nat.eq_zero_or_pos n with rfl | h1
  · decide
  · obtain ⟨a, b, _⟩ := Lib.bitLenAux_bounds 64 n (by omega) (by omega)
    have e : Lib.bitLen n = Lib.bitLenAux 64 n := rfl
    rw [e]
    rcases Nat.lt_or_ge (Lib.bitLenAux 64 n) 1000 with h | h
    · exact h
    · have := Nat.pow_le_pow_right (n := 2) (by decide) (show 31 ≤ Lib.bitLenAux 64 n - 1 by omega)
      have h2 : (2 : Nat) ^ 31 = 2147483648 := by decide
      omega

set_option maxRecDepth 100000 in
/-- slices.Sort. -/
theorem sortU_any (Q : Int → Prop) (b off n c : Nat) (w : World) (h : UR Q w b off n) (hb : b < w.heap.size) (hn : n < 1000000000) :
    Calls Tryz.prog 139 #[.slice (some ⟨b, off, none⟩) n c] w fun e w' => e = .returned (.tuple #[]) ∧ US Q b off n w w' := by
  have h0 := Tryz.bits_Len (n : Int)
  have hL : ∀ ws, Calls Tryz.prog 150 #[.int .u64 n] ws fun e w' => e = .returned (.int .i64 (Lib.bitLen n : Nat)) ∧ w' = ws := fun ws => by
    have := h0 ws (by omega) (by omega)
    rwa [Int.toNat_natCast] at this
  have hlt := bitLen_lt n hn
  obtain ⟨k, hk⟩ : ∃ k, k = Lib.bitLen n := ⟨_, rfl⟩
  rw [← hk] at hL hlt
  have hp := pdq_any Q b off n c hn n 0 n k w (by omega) (by omega) (by omega) hlt h hb
  have HP := Lib.hid hp
  have wr : IntKind.u64.wrap (n : Int) = n := by simp [IntKind.wrap, IntKind.bits, IntKind.signed]; omega
  clear h0 hk h hp
  go_enter Tryz.func139, Tryz.ntmps139
  go_wp2_with (go_at_call 150; refine (hL _).mono ?_; rintro e w' ⟨rfl, rfl⟩)
  refine HP.out.mono ?_
  rintro e w1 ⟨rfl, hw1⟩
  have HW := Lib.hid hw1
  clear hw1
  go_wp2
  go_end0
  exact ⟨rfl, HW.out⟩

end Go.Proofs.YtfipfoplmopkaaaGreatDoor

namespace Go.Proofs
open Go.Shelf
def Tryz.lays190_ren : Go.Shelf.Ren := ⟨fun | 190 => 132 | 125 => 150 | 258 => 162 | 128 => 174 | 129 => 175 | 302 => 182 | 303 => 183 | 304 => 184 | 305 => 185 | 306 => 186 | 307 => 187 | 308 => 188 | 309 => 189 | 310 => 190 | 333 => 205 | 329 => 201 | 330 => 202 | 334 => 206 | 335 => 207 | 336 => 208 | 344 => 214 | n => n, fun | 31 => 22 | 9 => 9 | 3 => 3 | 46 => 194 | 0 => 0 | 51 => 94 | 53 => 32 | 4 => 4 | 183 => 269 | 182 => 268 | 131 => 273 | 5 => 5 | 218 => 302 | 222 => 305 | 228 => 314 | 229 => 168 | n => n, fun | n => n⟩
theorem Tryz.lays190 : Go.Proofs.Lays.n190 Tryz.prog Tryz.lays190_ren := {
  mixed := by kernel_rfl
  f125 := Tryz.func150.trans (congrArg some (by kernel_rfl))
  f128 := Tryz.func174.trans (congrArg some (by kernel_rfl))
  f129 := Tryz.func175.trans (congrArg some (by kernel_rfl))
  f190 := Tryz.func132.trans (congrArg some (by kernel_rfl))
  f258 := Tryz.func162.trans (congrArg some (by kernel_rfl))
  f302 := Tryz.func182.trans (congrArg some (by kernel_rfl))
  f303 := Tryz.func183.trans (congrArg some (by kernel_rfl))
  f304 := Tryz.func184.trans (congrArg some (by kernel_rfl))
  f305 := Tryz.func185.trans (congrArg some (by kernel_rfl))
  f306 := Tryz.func186.trans (congrArg some (by kernel_rfl))
  f307 := Tryz.func187.trans (congrArg some (by kernel_rfl))
  f308 := Tryz.func188.trans (congrArg some (by kernel_rfl))
  f309 := Tryz.func189.trans (congrArg some (by kernel_rfl))
  f310 := Tryz.func190.trans (congrArg some (by kernel_rfl))
  f329 := Tryz.func201.trans (congrArg some (by kernel_rfl))
  f330 := Tryz.func202.trans (congrArg some (by kernel_rfl))
  f333 := Tryz.func205.trans (congrArg some (by kernel_rfl))
  f334 := Tryz.func206.trans (congrArg some (by kernel_rfl))
  f335 := Tryz.func207.trans (congrArg some (by kernel_rfl))
  f336 := Tryz.func208.trans (congrArg some (by kernel_rfl))
  f344 := Tryz.func214.trans (congrArg some (by kernel_rfl))
  t0 := Tryz.underlying0
  a0 := Tryz.isAgg0
  z0 := Tryz.sizeOf0
  v0 := Tryz.zeroValue0
  t3 := Tryz.underlying3
  a3 := Tryz.isAgg3
  z3 := Tryz.sizeOf3
  v3 := Tryz.zeroValue3
  t4 := Tryz.underlying4
  a4 := Tryz.isAgg4
  z4 := Tryz.sizeOf4
  v4 := Tryz.zeroValue4
  t5 := Tryz.underlying5
  a5 := Tryz.isAgg5
  z5 := Tryz.sizeOf5
  v5 := Tryz.zeroValue5
  t9 := Tryz.underlying9
  a9 := Tryz.isAgg9
  z9 := Tryz.sizeOf9
  v9 := Tryz.zeroValue9
  t31 := Tryz.underlying22
  a31 := Tryz.isAgg22
  z31 := Tryz.sizeOf22
  v31 := Tryz.zeroValue22
  t46 := Tryz.underlying194
  a46 := Tryz.isAgg194
  z46 := Tryz.sizeOf194
  v46 := Tryz.zeroValue194
  t51 := Tryz.underlying94
  a51 := Tryz.isAgg94
  z51 := Tryz.sizeOf94
  v51 := Tryz.zeroValue94
  t53 := Tryz.underlying32
  a53 := Tryz.isAgg32
  z53 := Tryz.sizeOf32
  v53 := Tryz.zeroValue32
  t131 := Tryz.underlying273
  a131 := Tryz.isAgg273
  z131 := Tryz.sizeOf273
  v131 := Tryz.zeroValue273
  t182 := Tryz.underlying268
  a182 := Tryz.isAgg268
  z182 := Tryz.sizeOf268
  v182 := Tryz.zeroValue268
  t183 := Tryz.underlying269
  a183 := Tryz.isAgg269
  z183 := Tryz.sizeOf269
  v183 := Tryz.zeroValue269
  t218 := Tryz.underlying302
  a218 := Tryz.isAgg302
  z218 := Tryz.sizeOf302
  v218 := Tryz.zeroValue302
  t222 := Tryz.underlying305
  a222 := Tryz.isAgg305
  z222 := Tryz.sizeOf305
  v222 := Tryz.zeroValue305
  t228 := Tryz.underlying314
  a228 := Tryz.isAgg314
  z228 := Tryz.sizeOf314
  v228 := Tryz.zeroValue314
  t229 := Tryz.underlying168
  a229 := Tryz.isAgg168
  z229 := Tryz.sizeOf168
  v229 := Tryz.zeroValue168 }
open Go.Sort Go.RowKit in
theorem Tryz.slices_Sort_string (blk off cap : Nat) (ss : List (List UInt8)) (w : World) (hH : Holds encStr w blk off ss.toArray) (hblk : blk < w.heap.size) (hsz : ss.length < 4611686018427387904) :
    Calls Tryz.prog 132 #[.slice (some ⟨blk, off, none⟩) ss.length cap] w fun e w' =>
      e = .returned (.tuple #[]) ∧ ∃ n os, w' = grow (putRow encStr (Sort.ahead w n) blk off (ss.mergeSort fun x y => decide (x ≤ y)).toArray) os := Any.slices_Sort_string Tryz.lays190 blk off cap ss w hH hblk hsz
open Go.RowKit Go.Sort in
theorem Tryz.slices_Sort_string_none (p : Option Addr) (cap : Nat) (w : World) :
    Calls Tryz.prog 132 #[.slice p 0 cap] w fun e w' => e = .returned (.tuple #[]) ∧ w' = w := Any.slices_Sort_string_none Tryz.lays190 p cap w

end Go.Proofs

namespace Go.Proofs.YtfipfoplmopkaaaGreatDoor
open Go.RowKit Go.Maps

/-- What the Writer holds, without where. -/
structure Vw where
  l1 : List UInt8
  l2 : List UInt8
  lf : List UInt8
  lp : List UInt8
  lo : List UInt8
  cs : Nat → Value
  wn : Nat
  gf : Option Nat
  go : Option Nat
  zm : Bool
  zo : Bool
  ns : Nat
  S : DataW Unit
  nl : Nat
  L : DataW Unit
def Gh.v (G : Gh) : Vw := ⟨G.l1, G.l2, G.lf, G.lp, G.lo, G.cs, G.wn, G.gf, G.go, G.zm, G.zo, G.ns, G.S, G.nl, G.L⟩
def upd (f : Nat → Value) (i : Nat) (v : Value) : Nat → Value := fun j => if j = i then v else f j
theorem upd_same (f : Nat → Value) (i : Nat) (v : Value) : upd f i v i = v := if_pos rfl
theorem upd_other (f : Nat → Value) (i j : Nat) (v : Value) (h : j ≠ i) : upd f i v j = f j := if_neg h

section
variable {w0 w : World} {G0 G : Gh} {V : Vw}

theorem Reach.cv (R : Reach w0 G0 w G) (hV : G.v = V) (i : Nat) {x : Value} (hx : V.cs i = x) (hi : i < 47) (hr : i < 12 ∨ 33 < i) : w.cell? ⟨G0.wb, i, none⟩ = some x := by
  subst hV; exact R.fld i hx hi hr
theorem Reach.posv (R : Reach w0 G0 w G) (hV : G.v = V) {n : Nat} (hn : V.lf.length = n) : w.cell? ⟨G0.fb, 1, none⟩ = some (.int .u64 n) := by
  subst hV; exact R.posn hn
theorem Reach.pospv (R : Reach w0 G0 w G) (hV : G.v = V) {n : Nat} (hn : V.lp.length = n) : w.cell? ⟨G0.pb, 1, none⟩ = some (.int .u64 n) := by
  subst hV; subst hn; rw [← R.nx.pb]; exact R.wi.p.p
theorem Reach.posov (R : Reach w0 G0 w G) (hV : G.v = V) {n : Nat} (hn : V.lo.length = n) : w.cell? ⟨G0.ob, 1, none⟩ = some (.int .u64 n) := by
  subst hV; subst hn; rw [← R.nx.ob]; exact R.wi.o.p
theorem Reach.c44 (R : Reach w0 G0 w G) : w.cell? ⟨G0.wb, 44, none⟩ = some (.iface 284 (.pointer (some ⟨G0.dg, 0, none⟩))) := by rw [← R.nx.dg]; exact R.fld 44 R.wi.c44 (by decide) (by decide)
theorem Reach.c38 (R : Reach w0 G0 w G) : w.cell? ⟨G0.wb, 38, none⟩ = some (.map (some G0.sm)) := by rw [← R.nx.sm]; exact R.fld 38 R.wi.c38 (by decide) (by decide)
theorem Reach.c40 (R : Reach w0 G0 w G) : w.cell? ⟨G0.wb, 40, none⟩ = some (.map (some G0.lm)) := by rw [← R.nx.lm]; exact R.fld 40 R.wi.c40 (by decide) (by decide)

/-- What a step that returns nothing leaves. -/
def Stp (w0 : World) (G0 : Gh) (V : Vw) (e : Ending) (w' : World) : Prop := e = .returned (.tuple #[]) ∧ ∃ G', Reach w0 G0 w' G' ∧ G'.v = V
/-- What a step that returns no error leaves. -/
def StE (w0 : World) (G0 : Gh) (V : Vw) (e : Ending) (w' : World) : Prop := e = .returned .nilIface ∧ ∃ G', Reach w0 G0 w' G' ∧ G'.v = V

theorem Reach.reset1 (R : Reach w0 G0 w G) (hV : G.v = V) : Calls Tryz.prog 55 #[.pointer (some ⟨G0.wb, 12, none⟩)] w (Stp w0 G0 { V with l1 := [] }) := by
  subst hV; exact (R.wi.reset1 R.nx.wb).mono (fun e w' ⟨a, g, r⟩ => ⟨a, _, R.trans r, rfl⟩)
theorem Reach.reset2 (R : Reach w0 G0 w G) (hV : G.v = V) : Calls Tryz.prog 55 #[.pointer (some ⟨G0.wb, 23, none⟩)] w (Stp w0 G0 { V with l2 := [] }) := by
  subst hV; exact (R.wi.reset2 R.nx.wb).mono (fun e w' ⟨a, g, r⟩ => ⟨a, _, R.trans r, rfl⟩)
theorem Reach.uv1 (R : Reach w0 G0 w G) (hV : G.v = V) (x : Nat) (hl : V.l1.length < 1000000000) (hx : x < 4294967296) : Calls Tryz.prog 42 #[.pointer (some ⟨G0.wb, 12, none⟩), .int .i64 x] w (Stp w0 G0 { V with l1 := V.l1 ++ Lib.uvarint x }) := by
  subst hV; exact (R.wi.uv1 R.nx.wb x hl hx).mono (fun e w' ⟨a, g, r⟩ => ⟨a, _, R.trans r, rfl⟩)
theorem Reach.uv2 (R : Reach w0 G0 w G) (hV : G.v = V) (x : Nat) (hl : V.l2.length < 1000000000) (hx : x < 4294967296) : Calls Tryz.prog 42 #[.pointer (some ⟨G0.wb, 23, none⟩), .int .i64 x] w (Stp w0 G0 { V with l2 := V.l2 ++ Lib.uvarint x }) := by
  subst hV; exact (R.wi.uv2 R.nx.wb x hl hx).mono (fun e w' ⟨a, g, r⟩ => ⟨a, _, R.trans r, rfl⟩)
theorem Reach.u32_2 (R : Reach w0 G0 w G) (hV : G.v = V) (x : Nat) (hl : V.l2.length < 1000000000) (hx : x < 4294967296) : Calls Tryz.prog 43 #[.pointer (some ⟨G0.wb, 23, none⟩), .int .u32 x] w (Stp w0 G0 { V with l2 := V.l2 ++ Lib.uvarint x }) := by
  subst hV; exact (R.wi.u32_2 R.nx.wb x hl hx).mono (fun e w' ⟨a, g, r⟩ => ⟨a, _, R.trans r, rfl⟩)
theorem Reach.u64_1 (R : Reach w0 G0 w G) (hV : G.v = V) (x : Nat) (hl : V.l1.length < 1000000000) (hx : x < 18446744073709551616) : Calls Tryz.prog 44 #[.pointer (some ⟨G0.wb, 12, none⟩), .int .u64 x] w (Stp w0 G0 { V with l1 := V.l1 ++ Lib.uvarint x }) := by
  subst hV; exact (R.wi.u64_1 R.nx.wb x hl hx).mono (fun e w' ⟨a, g, r⟩ => ⟨a, _, R.trans r, rfl⟩)
theorem Reach.u64_2 (R : Reach w0 G0 w G) (hV : G.v = V) (x : Nat) (hl : V.l2.length < 1000000000) (hx : x < 18446744073709551616) : Calls Tryz.prog 44 #[.pointer (some ⟨G0.wb, 23, none⟩), .int .u64 x] w (Stp w0 G0 { V with l2 := V.l2 ++ Lib.uvarint x }) := by
  subst hV; exact (R.wi.u64_2 R.nx.wb x hl hx).mono (fun e w' ⟨a, g, r⟩ => ⟨a, _, R.trans r, rfl⟩)
theorem Reach.v64_2 (R : Reach w0 G0 w G) (hV : G.v = V) (x : Int) (hl : V.l2.length < 1000000000) (h0 : -9223372036854775808 ≤ x) (h1 : x ≤ 9223372036854775807) : Calls Tryz.prog 45 #[.pointer (some ⟨G0.wb, 23, none⟩), .int .i64 x] w (Stp w0 G0 { V with l2 := V.l2 ++ Lib.uvarint (Lib.zigzag x) }) := by
  subst hV; exact (R.wi.v64_2 R.nx.wb x hl h0 h1).mono (fun e w' ⟨a, g, r⟩ => ⟨a, _, R.trans r, rfl⟩)
theorem Reach.str1 (R : Reach w0 G0 w G) (hV : G.v = V) (s : ByteArray) (hl : V.l1.length < 100000000) (hs : s.size < 1000000000) : Calls Tryz.prog 46 #[.pointer (some ⟨G0.wb, 12, none⟩), .string s] w (Stp w0 G0 { V with l1 := V.l1 ++ symE s }) := by
  subst hV; exact (R.wi.str1 R.nx.wb s hl hs).mono (fun e w' ⟨a, g, r⟩ => ⟨a, _, R.trans r, rfl⟩)
theorem Reach.be32_1 (R : Reach w0 G0 w G) (hV : G.v = V) (x : Nat) (hl : V.l1.length < 1000000000) (hx : x < 4294967296) : Calls Tryz.prog 36 #[.pointer (some ⟨G0.wb, 12, none⟩), .int .u32 x] w (Stp w0 G0 { V with l1 := V.l1 ++ be32 x }) := by
  subst hV; exact (R.wi.be32_1 R.nx.wb x hl hx).mono (fun e w' ⟨a, g, r⟩ => ⟨a, _, R.trans r, rfl⟩)
theorem Reach.be32i_1 (R : Reach w0 G0 w G) (hV : G.v = V) (x : Nat) (hl : V.l1.length < 1000000000) (hx : x < 4294967296) : Calls Tryz.prog 38 #[.pointer (some ⟨G0.wb, 12, none⟩), .int .i64 x] w (Stp w0 G0 { V with l1 := V.l1 ++ be32 x }) := by
  subst hV; exact (R.wi.be32i_1 R.nx.wb x hl hx).mono (fun e w' ⟨a, g, r⟩ => ⟨a, _, R.trans r, rfl⟩)
theorem Reach.be32i_2 (R : Reach w0 G0 w G) (hV : G.v = V) (x : Nat) (hl : V.l2.length < 1000000000) (hx : x < 4294967296) : Calls Tryz.prog 38 #[.pointer (some ⟨G0.wb, 23, none⟩), .int .i64 x] w (Stp w0 G0 { V with l2 := V.l2 ++ be32 x }) := by
  subst hV; exact (R.wi.be32i_2 R.nx.wb x hl hx).mono (fun e w' ⟨a, g, r⟩ => ⟨a, _, R.trans r, rfl⟩)
theorem Reach.be64_1 (R : Reach w0 G0 w G) (hV : G.v = V) (x : Nat) (hl : V.l1.length < 1000000000) (hx : x < 18446744073709551616) : Calls Tryz.prog 37 #[.pointer (some ⟨G0.wb, 12, none⟩), .int .u64 x] w (Stp w0 G0 { V with l1 := V.l1 ++ Lib.beBytes 8 x }) := by
  subst hV; exact (R.wi.be64_1 R.nx.wb x hl hx).mono (fun e w' ⟨a, g, r⟩ => ⟨a, _, R.trans r, rfl⟩)
theorem Reach.hash1 (R : Reach w0 G0 w G) (hV : G.v = V) (hl : V.l1.length < 100000000) : Calls Tryz.prog 64 #[.pointer (some ⟨G0.wb, 12, none⟩), .iface 284 (.pointer (some ⟨G0.dg, 0, none⟩))] w (fun e w' => ∃ k : List UInt8, k.length = 4 ∧ Stp w0 G0 { V with l1 := V.l1 ++ k } e w') := by
  subst hV; exact (R.wi.hash1 R.nx.wb R.nx.dg hl).mono (fun e w' ⟨a, k, hk, g, r⟩ => ⟨k, hk, a, _, R.trans r, rfl⟩)
theorem Reach.hash2 (R : Reach w0 G0 w G) (hV : G.v = V) (hl : V.l2.length < 100000000) : Calls Tryz.prog 64 #[.pointer (some ⟨G0.wb, 23, none⟩), .iface 284 (.pointer (some ⟨G0.dg, 0, none⟩))] w (fun e w' => ∃ k : List UInt8, k.length = 4 ∧ Stp w0 G0 { V with l2 := V.l2 ++ k } e w') := by
  subst hV; exact (R.wi.hash2 R.nx.wb R.nx.dg hl).mono (fun e w' ⟨a, k, hk, g, r⟩ => ⟨k, hk, a, _, R.trans r, rfl⟩)
theorem Reach.sum1 (R : Reach w0 G0 w G) (hV : G.v = V) (hl : V.l1.length < 100000000) : Calls Tryz.prog 106 #[.pointer (some ⟨G0.wb, 12, none⟩), .iface 284 (.pointer (some ⟨G0.dg, 0, none⟩))] w (fun e w' => ∃ k : List UInt8, k.length = 4 ∧ Stp w0 G0 { V with l1 := V.l1 ++ k } e w') := by
  subst hV; exact (R.wi.sum1 R.nx.wb R.nx.dg hl).mono (fun e w' ⟨a, k, hk, g, r⟩ => ⟨k, hk, a, _, R.trans r, rfl⟩)
theorem Reach.wth1 (R : Reach w0 G0 w G) (hV : G.v = V) (hl : V.l1.length < 100000000) : Calls Tryz.prog 105 #[.pointer (some ⟨G0.wb, 12, none⟩), .iface 284 (.pointer (some ⟨G0.dg, 0, none⟩))] w (Stp w0 G0 V) := by
  subst hV; exact (R.wi.wth1 R.nx.wb R.nx.dg hl).mono (fun e w' ⟨a, r⟩ => ⟨a, _, R.trans r, rfl⟩)
theorem Reach.dreset (R : Reach w0 G0 w G) (hV : G.v = V) : Calls Tryz.prog 287 #[.pointer (some ⟨G0.dg, 0, none⟩)] w (Stp w0 G0 V) := by
  subst hV; exact (R.wi.dreset R.nx.dg).mono (fun e w' ⟨a, r⟩ => ⟨a, _, R.trans r, rfl⟩)
/-- w.write(w.buf1.Get()), behind the slice that is laid for it. -/
theorem Reach.write1 (R : Reach w0 G0 w G) (hV : G.v = V) {x : Value} (hx : w.cell? ⟨G0.wb, 12, none⟩ = some x) (hl : V.lf.length + V.l1.length < 1000000000) (hm : V.zm = false) :
    Calls Tryz.prog 56 #[.pointer (some ⟨G0.wb, 0, none⟩), .slice (some ⟨w.heap.size, 0, none⟩) 1 1] (w.alloc (.cells #[x] 27)) (fun e w' => ∃ g, StE w0 G0 { V with lf := V.lf ++ V.l1, gf := g } e w') := by
  subst hV; exact (R.wi.write1 R.nx.wb hx hl hm).mono (fun e w' ⟨a, g, n, r⟩ => ⟨g, a, _, R.trans r, rfl⟩)
theorem Reach.write12 (R : Reach w0 G0 w G) (hV : G.v = V) {x y : Value} (hx : w.cell? ⟨G0.wb, 12, none⟩ = some x) (hy : w.cell? ⟨G0.wb, 23, none⟩ = some y) (hl : V.lf.length + (V.l1.length + V.l2.length) < 1000000000) (hm : V.zm = false) :
    Calls Tryz.prog 56 #[.pointer (some ⟨G0.wb, 0, none⟩), .slice (some ⟨w.heap.size, 0, none⟩) 2 2] (w.alloc (.cells #[x, y] 27)) (fun e w' => ∃ g, StE w0 G0 { V with lf := V.lf ++ (V.l1 ++ V.l2), gf := g } e w') := by
  subst hV; exact (R.wi.write12 R.nx.wb hx hy hl hm).mono (fun e w' ⟨a, g, n, r⟩ => ⟨g, a, _, R.trans r, rfl⟩)
theorem Reach.writeO1 (R : Reach w0 G0 w G) (hV : G.v = V) {x : Value} (hx : w.cell? ⟨G0.wb, 12, none⟩ = some x) (hl : V.lo.length + V.l1.length < 1000000000) (hfo : V.zo = false) :
    Calls Tryz.prog 101 #[.pointer (some ⟨G0.ob, 0, none⟩), .slice (some ⟨w.heap.size, 0, none⟩) 1 1] (w.alloc (.cells #[x] 27)) (fun e w' => ∃ g, StE w0 G0 { V with lo := V.lo ++ V.l1, go := g } e w') := by
  subst hV; exact (R.wi.writeO1 R.nx.wb R.nx.ob hx hl hfo).mono (fun e w' ⟨a, g, n, r⟩ => ⟨g, a, _, R.trans r, rfl⟩)
theorem Reach.writeP21 (R : Reach w0 G0 w G) (hV : G.v = V) {x y : Value} (hx : w.cell? ⟨G0.wb, 23, none⟩ = some x) (hy : w.cell? ⟨G0.wb, 12, none⟩ = some y) (hl : V.lp.length + (V.l2.length + V.l1.length) < 1000000000) :
    Calls Tryz.prog 101 #[.pointer (some ⟨G0.pb, 0, none⟩), .slice (some ⟨w.heap.size, 0, none⟩) 2 2] (w.alloc (.cells #[x, y] 27)) (StE w0 G0 { V with lp := V.lp ++ (V.l2 ++ V.l1) }) := by
  subst hV; exact (R.wi.writeP21 R.nx.wb R.nx.pb hx hy hl).mono (fun e w' ⟨a, g, n, r⟩ => ⟨a, _, R.trans r, rfl⟩)
theorem Reach.padP (R : Reach w0 G0 w G) (hV : G.v = V) (s : Nat) (hs0 : 0 < s) (hs : s ≤ 64) (hl : V.lp.length < 100000000) : Calls Tryz.prog 104 #[.pointer (some ⟨G0.pb, 0, none⟩), .int .i64 s] w (StE w0 G0 { V with lp := V.lp ++ zeros (padN V.lp.length s) }) := by
  subst hV; exact (R.wi.padP R.nx.pb s hs0 hs hl).mono (fun e w' ⟨a, g, n, r⟩ => ⟨a, _, R.trans r, rfl⟩)
theorem Reach.padF (R : Reach w0 G0 w G) (hV : G.v = V) (s : Nat) (hs0 : 0 < s) (hs : s ≤ 64) (hl : V.lf.length < 100000000) (hm : V.zm = false) : Calls Tryz.prog 104 #[.pointer (some ⟨G0.fb, 0, none⟩), .int .i64 s] w (fun e w' => ∃ g, StE w0 G0 { V with lf := V.lf ++ zeros (padN V.lf.length s), gf := g } e w') := by
  subst hV; exact (R.wi.padF R.nx.fb s hs0 hs hl hm).mono (fun e w' ⟨a, g, n, r⟩ => ⟨g, a, _, R.trans r, rfl⟩)
theorem Reach.padW (R : Reach w0 G0 w G) (hV : G.v = V) (s : Nat) (hs0 : 0 < s) (hs : s ≤ 64) (hl : V.lf.length < 100000000) (hm : V.zm = false) : Calls Tryz.prog 59 #[.pointer (some ⟨G0.wb, 0, none⟩), .int .i64 s] w (fun e w' => ∃ g, StE w0 G0 { V with lf := V.lf ++ zeros (padN V.lf.length s), gf := g } e w') := by
  subst hV; exact (R.wi.padW R.nx.wb s hs0 hs hl hm).mono (fun e w' ⟨a, g, n, r⟩ => ⟨g, a, _, R.trans r, rfl⟩)
theorem Reach.writeAt1 (R : Reach w0 G0 w G) (hV : G.v = V) (p : Nat) {x : Value} (hx : w.cell? ⟨G0.wb, 12, none⟩ = some x) (hk0 : 0 < V.l1.length) (hp : p + V.l1.length ≤ V.lf.length) (hl : V.lf.length < 1000000000) (hw : V.wn ≤ p) (hm : V.zm = false) :
    Calls Tryz.prog 126 #[.pointer (some ⟨G0.wb, 0, none⟩), x, .int .u64 p] w (StE w0 G0 { V with lf := spl V.lf p V.l1 }) := by
  subst hV; exact (R.wi.writeAt1 R.nx.wb p hx hk0 hp hl hw hm).mono (fun e w' ⟨a, n, r⟩ => ⟨a, _, R.trans r, rfl⟩)
theorem Reach.writeLit (R : Reach w0 G0 w G) (hV : G.v = V) (k : List UInt8) (fr : Nat × Nat) (hl : V.lf.length + k.length < 1000000000) (hm : V.zm = false) :
    Calls Tryz.prog 56 #[.pointer (some ⟨G0.wb, 0, none⟩), .slice (some ⟨w.heap.size + 1, 0, none⟩) 1 1] ((w.alloc (.cells (bVs k).toArray 5 fr)).alloc (.cells #[.slice (some ⟨w.heap.size, 0, none⟩) k.length k.length] 27)) (fun e w' => ∃ g, StE w0 G0 { V with lf := V.lf ++ k, gf := g } e w') := by
  subst hV; exact (R.wi.writeLit R.nx.wb k fr hl hm).mono (fun e w' ⟨a, g, n, r⟩ => ⟨g, a, _, R.trans r, rfl⟩)
theorem Reach.encRaw (R : Reach w0 G0 w G) (hV : G.v = V) (ao : Option Addr) (n c : Nat) (xs : List Nat) (hn : n = xs.length) (hx : U32s w G ao xs) (hl : V.l1.length + 4 * n < 100000000) :
    Calls Tryz.prog 80 #[.pointer (some ⟨G0.wb, 12, none⟩), .slice ao n c] w (StE w0 G0 { V with l1 := V.l1 ++ (be32 n ++ raw32 xs) }) := by
  subst hV
  refine (encRaw_any w G R.wi _ R.nx.wb ao n c xs hn hx hl).mono (fun e w' ⟨a, G', r, h1, ob⟩ => ⟨a, _, R.trans r, ?_⟩)
  simp only [Gh.v, h1, ob.l2, ob.lf, ob.lp, ob.lo, ob.cs, ob.wn, ob.gf, ob.go, ob.zm, ob.zo, ob.ns, ob.S, ob.nl, ob.L]
/-- A field is stored. -/
theorem Reach.stv (R : Reach w0 G0 w G) (hV : G.v = V) (i : Nat) (x : Value) (hi : i < 47) (hr : i < 12 ∨ 33 < i) (h0 : i ≠ 0) (h1 : i ≠ 44) (h2 : i ≠ 38) (h3 : i ≠ 40) : ∃ G', Reach w0 G0 (w.setCell ⟨G0.wb, i, none⟩ x) G' ∧ G'.v = { V with cs := upd V.cs i x } := by
  subst hV; exact ⟨_, R.set i x hi hr h0 h1 h2 h3, rfl⟩
/-- Something is laid that is nobody's. -/
theorem Reach.newv (R : Reach w0 G0 w G) (hV : G.v = V) (o : Obj) : ∃ G', Reach w0 G0 (w.alloc o) G' ∧ G'.v = V ∧ G'.T w.heap.size = 0 ∧ ∀ k, k < w.heap.size → G'.T k = G.T k := by
  subst hV; exact ⟨_, R.trans (R.wi.freer o), rfl, Gh.free_T _ _, fun k hk => if_neg (Nat.ne_of_lt hk)⟩
/-- What was laid behind the beginning and is nobody's is turned; and new things are laid. -/
theorem Reach.locv (R : Reach w0 G0 w G) (hV : G.v = V) {P : Nat → Nat → Prop} {w' : World} (hk : Kept P w w') (hP : ∀ k o, k < w.heap.size → P k o → w0.heap.size ≤ k ∧ G.T k = 0) : ∃ G', Reach w0 G0 w' G' ∧ G'.v = V ∧ (∀ k, w.heap.size ≤ k → G'.T k = 0) ∧ ∀ k, k < w.heap.size → G'.T k = G.T k := by
  subst hV
  have ha := R.wi.kept hk (fun k o h1 h2 => (hP k o h1 h2).2)
  have h := R.wi
  have hT : ∀ {k}, k < w.heap.size → (G.news w.heap.size).T k = G.T k := fun {k} hk => if_neg (by omega)
  refine ⟨G.news w.heap.size, ⟨⟨ha.e1, ha.e2, ha.f, ha.p, ha.o, ha.d, ha.s, ha.l, ha.c, ha.fr, (hT h.e1.lt).trans h.t1, (hT h.f.lt).trans h.t2, (hT h.p.lt).trans h.t3, (hT h.o.lt).trans h.t4, (hT h.d.lt).trans h.t5, (hT h.d.ltb).trans h.t6, (hT (ownsMap_lt h.s)).trans h.t7, (hT (ownsMap_lt h.l)).trans h.t8,
    fun k hk => (hT (h.gl1 k hk)).trans (h.t9 k hk), fun k hk => (hT (h.gl2 k hk)).trans (h.t10 k hk), fun k hk => (hT (h.f.gl k hk)).trans (h.t11 k hk), fun k hk => (hT (h.p.gl k hk)).trans (h.t12 k hk), fun k hk => (hT (h.o.gl k hk)).trans (h.t13 k hk), h.c0, h.c44, h.c38, h.c40, h.wn⟩, ?_, ?_, ?_⟩, rfl, fun k hk => Gh.news_T _ hk, fun k hk => hT hk⟩
  · exact R.nx.trans ⟨fun k hk => hT hk, rfl, rfl, rfl, rfl, rfl, rfl, rfl, rfl, Nat.le_refl _, rfl, rfl⟩ R.kp.size
  · exact R.kp.trans hk (fun i o hi hp => by
      have := hP i o (Nat.lt_of_lt_of_le hi R.kp.size) hp
      omega)
  · have hb0 : ∀ b, b < w0.heap.size → w'.heap[b]? = w.heap[b]? := fun b hb => hk.block b (Nat.lt_of_lt_of_le hb R.kp.size) (fun o hp => by
      have := hP b o (Nat.lt_of_lt_of_le hb R.kp.size) hp
      omega)
    exact ⟨fun b o hb ht ho => (World.cell?_of_block (a := ⟨b, o, none⟩) (hb0 b hb)).trans (R.hp.h b o hb ht ho), fun e b hb ht => (hb0 b hb).trans (R.hp.m e b hb ht), fun e b hb ht => (hb0 b hb).trans (R.hp.o e b hb ht)⟩
theorem Reach.drewv (R : Reach w0 G0 w G) : Reach w0 G0 w.drew G := R.drew
end

end Go.Proofs.YtfipfoplmopkaaaGreatDoor

namespace Go.Proofs.YtfipfoplmopkaaaGreatDoor
open Go.RowKit Go.Maps

section
variable {w0 w : World} {G0 G : Gh} {V : Vw}
/-- What a step that returns nothing leaves; the step's own Reach beside. -/
def Stq (w0 : World) (G0 : Gh) (w : World) (G : Gh) (V : Vw) (e : Ending) (w' : World) : Prop := e = .returned (.tuple #[]) ∧ ∃ G', Reach w0 G0 w' G' ∧ G'.v = V ∧ Reach w G w' G'
def SqE (w0 : World) (G0 : Gh) (w : World) (G : Gh) (V : Vw) (e : Ending) (w' : World) : Prop := e = .returned .nilIface ∧ ∃ G', Reach w0 G0 w' G' ∧ G'.v = V ∧ Reach w G w' G'

theorem Reach.reset1s (R : Reach w0 G0 w G) (hV : G.v = V) : Calls Tryz.prog 55 #[.pointer (some ⟨G0.wb, 12, none⟩)] w (Stq w0 G0 w G { V with l1 := [] }) := by
  subst hV; exact (R.wi.reset1 R.nx.wb).mono (fun e w' ⟨a, g, r⟩ => ⟨a, _, R.trans r, rfl, r⟩)
theorem Reach.reset2s (R : Reach w0 G0 w G) (hV : G.v = V) : Calls Tryz.prog 55 #[.pointer (some ⟨G0.wb, 23, none⟩)] w (Stq w0 G0 w G { V with l2 := [] }) := by
  subst hV; exact (R.wi.reset2 R.nx.wb).mono (fun e w' ⟨a, g, r⟩ => ⟨a, _, R.trans r, rfl, r⟩)
theorem Reach.uv1s (R : Reach w0 G0 w G) (hV : G.v = V) (x : Nat) (hl : V.l1.length < 1000000000) (hx : x < 4294967296) : Calls Tryz.prog 42 #[.pointer (some ⟨G0.wb, 12, none⟩), .int .i64 x] w (Stq w0 G0 w G { V with l1 := V.l1 ++ Lib.uvarint x }) := by
  subst hV; exact (R.wi.uv1 R.nx.wb x hl hx).mono (fun e w' ⟨a, g, r⟩ => ⟨a, _, R.trans r, rfl, r⟩)
theorem Reach.uv2s (R : Reach w0 G0 w G) (hV : G.v = V) (x : Nat) (hl : V.l2.length < 1000000000) (hx : x < 4294967296) : Calls Tryz.prog 42 #[.pointer (some ⟨G0.wb, 23, none⟩), .int .i64 x] w (Stq w0 G0 w G { V with l2 := V.l2 ++ Lib.uvarint x }) := by
  subst hV; exact (R.wi.uv2 R.nx.wb x hl hx).mono (fun e w' ⟨a, g, r⟩ => ⟨a, _, R.trans r, rfl, r⟩)
theorem Reach.u32_2s (R : Reach w0 G0 w G) (hV : G.v = V) (x : Nat) (hl : V.l2.length < 1000000000) (hx : x < 4294967296) : Calls Tryz.prog 43 #[.pointer (some ⟨G0.wb, 23, none⟩), .int .u32 x] w (Stq w0 G0 w G { V with l2 := V.l2 ++ Lib.uvarint x }) := by
  subst hV; exact (R.wi.u32_2 R.nx.wb x hl hx).mono (fun e w' ⟨a, g, r⟩ => ⟨a, _, R.trans r, rfl, r⟩)
theorem Reach.u64_1s (R : Reach w0 G0 w G) (hV : G.v = V) (x : Nat) (hl : V.l1.length < 1000000000) (hx : x < 18446744073709551616) : Calls Tryz.prog 44 #[.pointer (some ⟨G0.wb, 12, none⟩), .int .u64 x] w (Stq w0 G0 w G { V with l1 := V.l1 ++ Lib.uvarint x }) := by
  subst hV; exact (R.wi.u64_1 R.nx.wb x hl hx).mono (fun e w' ⟨a, g, r⟩ => ⟨a, _, R.trans r, rfl, r⟩)
theorem Reach.u64_2s (R : Reach w0 G0 w G) (hV : G.v = V) (x : Nat) (hl : V.l2.length < 1000000000) (hx : x < 18446744073709551616) : Calls Tryz.prog 44 #[.pointer (some ⟨G0.wb, 23, none⟩), .int .u64 x] w (Stq w0 G0 w G { V with l2 := V.l2 ++ Lib.uvarint x }) := by
  subst hV; exact (R.wi.u64_2 R.nx.wb x hl hx).mono (fun e w' ⟨a, g, r⟩ => ⟨a, _, R.trans r, rfl, r⟩)
theorem Reach.v64_2s (R : Reach w0 G0 w G) (hV : G.v = V) (x : Int) (hl : V.l2.length < 1000000000) (h0 : -9223372036854775808 ≤ x) (h1 : x ≤ 9223372036854775807) : Calls Tryz.prog 45 #[.pointer (some ⟨G0.wb, 23, none⟩), .int .i64 x] w (Stq w0 G0 w G { V with l2 := V.l2 ++ Lib.uvarint (Lib.zigzag x) }) := by
  subst hV; exact (R.wi.v64_2 R.nx.wb x hl h0 h1).mono (fun e w' ⟨a, g, r⟩ => ⟨a, _, R.trans r, rfl, r⟩)
theorem Reach.str1s (R : Reach w0 G0 w G) (hV : G.v = V) (s : ByteArray) (hl : V.l1.length < 100000000) (hs : s.size < 1000000000) : Calls Tryz.prog 46 #[.pointer (some ⟨G0.wb, 12, none⟩), .string s] w (Stq w0 G0 w G { V with l1 := V.l1 ++ symE s }) := by
  subst hV; exact (R.wi.str1 R.nx.wb s hl hs).mono (fun e w' ⟨a, g, r⟩ => ⟨a, _, R.trans r, rfl, r⟩)
theorem Reach.be32_1s (R : Reach w0 G0 w G) (hV : G.v = V) (x : Nat) (hl : V.l1.length < 1000000000) (hx : x < 4294967296) : Calls Tryz.prog 36 #[.pointer (some ⟨G0.wb, 12, none⟩), .int .u32 x] w (Stq w0 G0 w G { V with l1 := V.l1 ++ be32 x }) := by
  subst hV; exact (R.wi.be32_1 R.nx.wb x hl hx).mono (fun e w' ⟨a, g, r⟩ => ⟨a, _, R.trans r, rfl, r⟩)
theorem Reach.be32i_1s (R : Reach w0 G0 w G) (hV : G.v = V) (x : Nat) (hl : V.l1.length < 1000000000) (hx : x < 4294967296) : Calls Tryz.prog 38 #[.pointer (some ⟨G0.wb, 12, none⟩), .int .i64 x] w (Stq w0 G0 w G { V with l1 := V.l1 ++ be32 x }) := by
  subst hV; exact (R.wi.be32i_1 R.nx.wb x hl hx).mono (fun e w' ⟨a, g, r⟩ => ⟨a, _, R.trans r, rfl, r⟩)
theorem Reach.be32i_2s (R : Reach w0 G0 w G) (hV : G.v = V) (x : Nat) (hl : V.l2.length < 1000000000) (hx : x < 4294967296) : Calls Tryz.prog 38 #[.pointer (some ⟨G0.wb, 23, none⟩), .int .i64 x] w (Stq w0 G0 w G { V with l2 := V.l2 ++ be32 x }) := by
  subst hV; exact (R.wi.be32i_2 R.nx.wb x hl hx).mono (fun e w' ⟨a, g, r⟩ => ⟨a, _, R.trans r, rfl, r⟩)
theorem Reach.be64_1s (R : Reach w0 G0 w G) (hV : G.v = V) (x : Nat) (hl : V.l1.length < 1000000000) (hx : x < 18446744073709551616) : Calls Tryz.prog 37 #[.pointer (some ⟨G0.wb, 12, none⟩), .int .u64 x] w (Stq w0 G0 w G { V with l1 := V.l1 ++ Lib.beBytes 8 x }) := by
  subst hV; exact (R.wi.be64_1 R.nx.wb x hl hx).mono (fun e w' ⟨a, g, r⟩ => ⟨a, _, R.trans r, rfl, r⟩)
theorem Reach.hash1s (R : Reach w0 G0 w G) (hV : G.v = V) (hl : V.l1.length < 100000000) : Calls Tryz.prog 64 #[.pointer (some ⟨G0.wb, 12, none⟩), .iface 284 (.pointer (some ⟨G0.dg, 0, none⟩))] w (fun e w' => ∃ k : List UInt8, k.length = 4 ∧ Stq w0 G0 w G { V with l1 := V.l1 ++ k } e w') := by
  subst hV; exact (R.wi.hash1 R.nx.wb R.nx.dg hl).mono (fun e w' ⟨a, k, hk, g, r⟩ => ⟨k, hk, a, _, R.trans r, rfl, r⟩)
theorem Reach.hash2s (R : Reach w0 G0 w G) (hV : G.v = V) (hl : V.l2.length < 100000000) : Calls Tryz.prog 64 #[.pointer (some ⟨G0.wb, 23, none⟩), .iface 284 (.pointer (some ⟨G0.dg, 0, none⟩))] w (fun e w' => ∃ k : List UInt8, k.length = 4 ∧ Stq w0 G0 w G { V with l2 := V.l2 ++ k } e w') := by
  subst hV; exact (R.wi.hash2 R.nx.wb R.nx.dg hl).mono (fun e w' ⟨a, k, hk, g, r⟩ => ⟨k, hk, a, _, R.trans r, rfl, r⟩)
theorem Reach.sum1s (R : Reach w0 G0 w G) (hV : G.v = V) (hl : V.l1.length < 100000000) : Calls Tryz.prog 106 #[.pointer (some ⟨G0.wb, 12, none⟩), .iface 284 (.pointer (some ⟨G0.dg, 0, none⟩))] w (fun e w' => ∃ k : List UInt8, k.length = 4 ∧ Stq w0 G0 w G { V with l1 := V.l1 ++ k } e w') := by
  subst hV; exact (R.wi.sum1 R.nx.wb R.nx.dg hl).mono (fun e w' ⟨a, k, hk, g, r⟩ => ⟨k, hk, a, _, R.trans r, rfl, r⟩)
theorem Reach.wth1s (R : Reach w0 G0 w G) (hV : G.v = V) (hl : V.l1.length < 100000000) : Calls Tryz.prog 105 #[.pointer (some ⟨G0.wb, 12, none⟩), .iface 284 (.pointer (some ⟨G0.dg, 0, none⟩))] w (Stq w0 G0 w G V) := by
  subst hV; exact (R.wi.wth1 R.nx.wb R.nx.dg hl).mono (fun e w' ⟨a, r⟩ => ⟨a, _, R.trans r, rfl, r⟩)
theorem Reach.dresets (R : Reach w0 G0 w G) (hV : G.v = V) : Calls Tryz.prog 287 #[.pointer (some ⟨G0.dg, 0, none⟩)] w (Stq w0 G0 w G V) := by
  subst hV; exact (R.wi.dreset R.nx.dg).mono (fun e w' ⟨a, r⟩ => ⟨a, _, R.trans r, rfl, r⟩)
/-- w.write(w.buf1.Get()), behind the slice that is laid for it. -/
theorem Reach.write1s (R : Reach w0 G0 w G) (hV : G.v = V) {x : Value} (hx : w.cell? ⟨G0.wb, 12, none⟩ = some x) (hl : V.lf.length + V.l1.length < 1000000000) (hm : V.zm = false) :
    Calls Tryz.prog 56 #[.pointer (some ⟨G0.wb, 0, none⟩), .slice (some ⟨w.heap.size, 0, none⟩) 1 1] (w.alloc (.cells #[x] 27)) (fun e w' => ∃ g, SqE w0 G0 w G { V with lf := V.lf ++ V.l1, gf := g } e w') := by
  subst hV; exact (R.wi.write1 R.nx.wb hx hl hm).mono (fun e w' ⟨a, g, n, r⟩ => ⟨g, a, _, R.trans r, rfl, r⟩)
theorem Reach.write12s (R : Reach w0 G0 w G) (hV : G.v = V) {x y : Value} (hx : w.cell? ⟨G0.wb, 12, none⟩ = some x) (hy : w.cell? ⟨G0.wb, 23, none⟩ = some y) (hl : V.lf.length + (V.l1.length + V.l2.length) < 1000000000) (hm : V.zm = false) :
    Calls Tryz.prog 56 #[.pointer (some ⟨G0.wb, 0, none⟩), .slice (some ⟨w.heap.size, 0, none⟩) 2 2] (w.alloc (.cells #[x, y] 27)) (fun e w' => ∃ g, SqE w0 G0 w G { V with lf := V.lf ++ (V.l1 ++ V.l2), gf := g } e w') := by
  subst hV; exact (R.wi.write12 R.nx.wb hx hy hl hm).mono (fun e w' ⟨a, g, n, r⟩ => ⟨g, a, _, R.trans r, rfl, r⟩)
theorem Reach.writeO1s (R : Reach w0 G0 w G) (hV : G.v = V) {x : Value} (hx : w.cell? ⟨G0.wb, 12, none⟩ = some x) (hl : V.lo.length + V.l1.length < 1000000000) (hfo : V.zo = false) :
    Calls Tryz.prog 101 #[.pointer (some ⟨G0.ob, 0, none⟩), .slice (some ⟨w.heap.size, 0, none⟩) 1 1] (w.alloc (.cells #[x] 27)) (fun e w' => ∃ g, SqE w0 G0 w G { V with lo := V.lo ++ V.l1, go := g } e w') := by
  subst hV; exact (R.wi.writeO1 R.nx.wb R.nx.ob hx hl hfo).mono (fun e w' ⟨a, g, n, r⟩ => ⟨g, a, _, R.trans r, rfl, r⟩)
theorem Reach.writeP21s (R : Reach w0 G0 w G) (hV : G.v = V) {x y : Value} (hx : w.cell? ⟨G0.wb, 23, none⟩ = some x) (hy : w.cell? ⟨G0.wb, 12, none⟩ = some y) (hl : V.lp.length + (V.l2.length + V.l1.length) < 1000000000) :
    Calls Tryz.prog 101 #[.pointer (some ⟨G0.pb, 0, none⟩), .slice (some ⟨w.heap.size, 0, none⟩) 2 2] (w.alloc (.cells #[x, y] 27)) (SqE w0 G0 w G { V with lp := V.lp ++ (V.l2 ++ V.l1) }) := by
  subst hV; exact (R.wi.writeP21 R.nx.wb R.nx.pb hx hy hl).mono (fun e w' ⟨a, g, n, r⟩ => ⟨a, _, R.trans r, rfl, r⟩)
theorem Reach.padPs (R : Reach w0 G0 w G) (hV : G.v = V) (s : Nat) (hs0 : 0 < s) (hs : s ≤ 64) (hl : V.lp.length < 100000000) : Calls Tryz.prog 104 #[.pointer (some ⟨G0.pb, 0, none⟩), .int .i64 s] w (SqE w0 G0 w G { V with lp := V.lp ++ zeros (padN V.lp.length s) }) := by
  subst hV; exact (R.wi.padP R.nx.pb s hs0 hs hl).mono (fun e w' ⟨a, g, n, r⟩ => ⟨a, _, R.trans r, rfl, r⟩)
theorem Reach.padFs (R : Reach w0 G0 w G) (hV : G.v = V) (s : Nat) (hs0 : 0 < s) (hs : s ≤ 64) (hl : V.lf.length < 100000000) (hm : V.zm = false) : Calls Tryz.prog 104 #[.pointer (some ⟨G0.fb, 0, none⟩), .int .i64 s] w (fun e w' => ∃ g, SqE w0 G0 w G { V with lf := V.lf ++ zeros (padN V.lf.length s), gf := g } e w') := by
  subst hV; exact (R.wi.padF R.nx.fb s hs0 hs hl hm).mono (fun e w' ⟨a, g, n, r⟩ => ⟨g, a, _, R.trans r, rfl, r⟩)
theorem Reach.padWs (R : Reach w0 G0 w G) (hV : G.v = V) (s : Nat) (hs0 : 0 < s) (hs : s ≤ 64) (hl : V.lf.length < 100000000) (hm : V.zm = false) : Calls Tryz.prog 59 #[.pointer (some ⟨G0.wb, 0, none⟩), .int .i64 s] w (fun e w' => ∃ g, SqE w0 G0 w G { V with lf := V.lf ++ zeros (padN V.lf.length s), gf := g } e w') := by
  subst hV; exact (R.wi.padW R.nx.wb s hs0 hs hl hm).mono (fun e w' ⟨a, g, n, r⟩ => ⟨g, a, _, R.trans r, rfl, r⟩)
theorem Reach.writeAt1s (R : Reach w0 G0 w G) (hV : G.v = V) (p : Nat) {x : Value} (hx : w.cell? ⟨G0.wb, 12, none⟩ = some x) (hk0 : 0 < V.l1.length) (hp : p + V.l1.length ≤ V.lf.length) (hl : V.lf.length < 1000000000) (hw : V.wn ≤ p) (hm : V.zm = false) :
    Calls Tryz.prog 126 #[.pointer (some ⟨G0.wb, 0, none⟩), x, .int .u64 p] w (SqE w0 G0 w G { V with lf := spl V.lf p V.l1 }) := by
  subst hV; exact (R.wi.writeAt1 R.nx.wb p hx hk0 hp hl hw hm).mono (fun e w' ⟨a, n, r⟩ => ⟨a, _, R.trans r, rfl, r⟩)
theorem Reach.writeLits (R : Reach w0 G0 w G) (hV : G.v = V) (k : List UInt8) (fr : Nat × Nat) (hl : V.lf.length + k.length < 1000000000) (hm : V.zm = false) :
    Calls Tryz.prog 56 #[.pointer (some ⟨G0.wb, 0, none⟩), .slice (some ⟨w.heap.size + 1, 0, none⟩) 1 1] ((w.alloc (.cells (bVs k).toArray 5 fr)).alloc (.cells #[.slice (some ⟨w.heap.size, 0, none⟩) k.length k.length] 27)) (fun e w' => ∃ g, SqE w0 G0 w G { V with lf := V.lf ++ k, gf := g } e w') := by
  subst hV; exact (R.wi.writeLit R.nx.wb k fr hl hm).mono (fun e w' ⟨a, g, n, r⟩ => ⟨g, a, _, R.trans r, rfl, r⟩)
theorem Reach.encRaws (R : Reach w0 G0 w G) (hV : G.v = V) (ao : Option Addr) (n c : Nat) (xs : List Nat) (hn : n = xs.length) (hx : U32s w G ao xs) (hl : V.l1.length + 4 * n < 100000000) :
    Calls Tryz.prog 80 #[.pointer (some ⟨G0.wb, 12, none⟩), .slice ao n c] w (SqE w0 G0 w G { V with l1 := V.l1 ++ (be32 n ++ raw32 xs) }) := by
  subst hV
  refine (encRaw_any w G R.wi _ R.nx.wb ao n c xs hn hx hl).mono (fun e w' ⟨a, G', r, h1, ob⟩ => ⟨a, _, R.trans r, ?_, r⟩)
  simp only [Gh.v, h1, ob.l2, ob.lf, ob.lp, ob.lo, ob.cs, ob.wn, ob.gf, ob.go, ob.zm, ob.zo, ob.ns, ob.S, ob.nl, ob.L]
end

end Go.Proofs.YtfipfoplmopkaaaGreatDoor

namespace Go.Proofs.YtfipfoplmopkaaaGreatDoor
open Go.RowKit Go.Maps

/-- What a step may touch, the files that are held left out. -/
def wiZ (G : Gh) (k _off : Nat) : Prop := G.T k ≠ 0 ∧ (G.zm = true → G.T k ≠ 11) ∧ (G.zo = true → G.T k ≠ 13)
theorem Reach.kz {w w' : World} {G G' : Gh} (S : Reach w G w' G') : Kept (wiZ G) w w' := by
  have hb : ∀ k, k < w.heap.size → ¬ (G.T k ≠ 0 ∧ (G.zm = true → G.T k ≠ 11) ∧ (G.zo = true → G.T k ≠ 13)) → w'.heap[k]? = w.heap[k]? := fun k hk hn => by
    by_cases h0 : G.T k = 0
    · exact KT.block S.kp hk h0
    · by_cases h1 : G.zm = true ∧ G.T k = 11
      · exact S.hp.m h1.1 k hk h1.2
      · by_cases h2 : G.zo = true ∧ G.T k = 13
        · exact S.hp.o h2.1 k hk h2.2
        · exact absurd ⟨h0, fun e h => h1 ⟨e, h⟩, fun e h => h2 ⟨e, h⟩⟩ hn
  exact ⟨S.kp.os, S.kp.tape, S.kp.output, S.kp.size, fun k o hk hn => World.cell?_of_block (a := ⟨k, o, none⟩) (hb k hk hn), S.kp.fr, fun k hk hn => hb k hk (hn 0)⟩

def Gh.fz (G : Gh) (m o : Bool) : Gh := { G with zm := m, zo := o }
theorem WI.fz {w : World} {G : Gh} (h : WI w G) (m o : Bool) : WI w (G.fz m o) :=
  ⟨h.e1, h.e2, h.f, h.p, h.o, h.d, h.s, h.l, h.c, h.fr, h.t1, h.t2, h.t3, h.t4, h.t5, h.t6, h.t7, h.t8, h.t9, h.t10, h.t11, h.t12, h.t13, h.c0, h.c44, h.c38, h.c40, h.wn⟩
theorem Gh.fz_v {G : Gh} {V : Vw} (h : G.v = V) (m o : Bool) : (G.fz m o).v = { V with zm := m, zo := o } := by subst h; rfl
/-- The files are let go again. -/
theorem Reach.unfz {w w' : World} {G G2 : Gh} {m o : Bool} (hm : G.zm = false) (ho : G.zo = false) (R : Reach w (G.fz m o) w' G2) : Reach w G w' (G2.fz false false) :=
  ⟨R.wi.fz false false, ⟨R.nx.T, R.nx.wb, R.nx.fb, R.nx.pb, R.nx.ob, R.nx.dg, R.nx.tb, R.nx.sm, R.nx.lm, R.nx.wn, hm.symm, ho.symm⟩, R.kp, ⟨R.hp.h, fun e => absurd (e.symm.trans hm) (by decide), fun e => absurd (e.symm.trans ho) (by decide)⟩⟩

theorem DB.reach13 {w w' : World} {G G' : Gh} {db b : Nat} {l : List UInt8} (h : DB w db b l) (S : Reach w G w' G') (h0 : G.T db = 0) (hb : G.T b = 13) (hf : G.zo = true) : DB w' db b l :=
  h.kept S.kz (fun _ hp => hp.1 h0) (fun _ _ hp => hp.2.2 hf hb)
theorem DB.reach11 {w w' : World} {G G' : Gh} {db b : Nat} {l : List UInt8} (h : DB w db b l) (S : Reach w G w' G') (h0 : G.T db = 0) (hb : G.T b = 11) (hf : G.zm = true) : DB w' db b l :=
  h.kept S.kz (fun _ hp => hp.1 h0) (fun _ _ hp => hp.2.1 hf hb)

/-- zzFile.Close, deferred. -/
theorem zzClose_d (v : Value) (u : FrameMode) (w : World) : CallsD Tryz.prog 68 #[v] u w fun e u' w' => u' = u ∧ (e = .returned .nilIface ∧ w' = w) := by
  go_enter_d Tryz.func68, Tryz.ntmps68
  go_wp2
  go_ret
  exact ⟨rfl, rfl⟩

/-- bytes.Equal. -/
theorem bytesEq_any (v1 v2 : Value) (s1 s2 : ByteArray) (w : World) (h1 : (convert 27 9 v1).run Tryz.prog w = .ok (.string s1) w) (h2 : (convert 27 9 v2).run Tryz.prog w = .ok (.string s2) w) :
    Calls Tryz.prog 143 #[v1, v2] w fun e w' => e = .returned (.bool (s1.toList == s2.toList)) ∧ w = w' := by
  go_enter Tryz.func143, Tryz.ntmps143
  go_wp2
  go_ret
  exact ⟨rfl, rfl⟩

end Go.Proofs.YtfipfoplmopkaaaGreatDoor

namespace Go.Proofs.YtfipfoplmopkaaaGreatDoor
open Go.RowKit Go.Maps

/-- An entry of the table of offsets. -/
def postE (nm va : ByteArray) (off : Nat) : List UInt8 := Lib.uvarint 2 ++ (symE nm ++ (symE va ++ Lib.uvarint off))
def WPost (w : World) (G : Gh) (V : Vw) (nm va : ByteArray) (n cnt : Nat) (e : Ending) (w' : World) : Prop :=
  ∃ l1 l2 k go, k.length = 12 + 4 * n + padN V.lp.length 4 ∧ StE w G { V with go := go, l1 := l1, l2 := l2, lp := V.lp ++ k, lo := V.lo ++ postE nm va (V.lp.length + padN V.lp.length 4), cs := upd V.cs 3 (.int .u64 ((cnt + 1 : Nat) : Int)) } e w'

theorem padN_lt (n s : Nat) (h : 0 < s) : padN n s < s := Nat.mod_lt _ h
theorem zeros_len (n : Nat) : (zeros n).length = n := List.length_replicate
theorem uv_len (x : Nat) (h : x < 1000000000000) : (Lib.uvarint x).length ≤ 10 := Lib.uvarint_length64 (by omega)

theorem U32s.reach {w w' : World} {G G' : Gh} {ao : Option Addr} {xs : List Nat} (h : U32s w G ao xs) (R : Reach w G w' G') : U32s w' G' ao xs := fun j x hj => by
  obtain ⟨k, off, e, hT, hc, hx⟩ := h j x hj
  have hb := World.block_lt_of_cell? _ _ hc
  exact ⟨k, off, e, (R.nx.T k hb).trans hT, (KT.cell R.kp hb hT _).trans hc, hx⟩

set_option maxRecDepth 100000 in
set_option maxHeartbeats 4000000 in
theorem writePosting_any (w : World) (G : Gh) (V : Vw) (hG : WI w G) (hV : G.v = V) (nm va : ByteArray) (ao : Option Addr) (n c : Nat) (xs : List Nat) (hn : n = xs.length) (hx : U32s w G ao xs) (cnt : Nat)
    (h1 : V.cs 1 = .pointer (some ⟨G.pb, 0, none⟩)) (h2 : V.cs 2 = .pointer (some ⟨G.ob, 0, none⟩)) (h3 : V.cs 3 = .int .u64 cnt) (h46 : V.cs 46 = .func (.func 80) #[] #[]) (hcnt : cnt < 100000000)
    (hlo : V.lo.length < 90000000) (hlp : V.lp.length < 90000000) (hn9 : n < 1000000) (hnm : nm.size < 10000) (hva : va.size < 10000) (hfo : V.zo = false) :
    Calls Tryz.prog 138 #[.pointer (some ⟨G.wb, 0, none⟩), .string nm, .string va, .slice ao n c] w (WPost w G V nm va n cnt) := by
  have R0 := Lib.hid (Reach.refl hG)
  have V0 := Lib.hid hV
  have HX := Lib.hid hx
  have HN := Lib.hid hn
  have f1 := R0.out.cv V0.out 1 h1 (by decide) (by decide)
  have H1 := Lib.hid h1
  have H2 := Lib.hid h2
  have H3 := Lib.hid h3
  have H46 := Lib.hid h46
  obtain ⟨np, hnp⟩ : ∃ np, np = V.lp.length := ⟨_, rfl⟩
  obtain ⟨no, hno⟩ : ∃ no, no = V.lo.length := ⟨_, rfl⟩
  rw [← hnp] at hlp
  rw [← hno] at hlo
  have HNP := Lib.hid hnp
  have HNO := Lib.hid hno
  clear hG hV hx hn h1 h2 h3 h46 hnp hno
  go_enter Tryz.func138, Tryz.ntmps138
  go_wp2_with fail
  refine (R0.out.padP V0.out 4 (by decide) (by decide) (by have := HNP.out; omega)).mono ?_
  rintro e w1 ⟨rfl, G1, r1, v1⟩
  have R1 := Lib.hid r1
  have V1 := Lib.hid v1
  clear r1 v1 f1
  go_wp2_with fail
  refine (R1.out.reset1 V1.out).mono ?_
  rintro e w2 ⟨rfl, G2, r2, v2⟩
  have R2 := Lib.hid r2
  have V2 := Lib.hid v2
  clear r2 v2
  go_wp2_with fail
  refine (R2.out.uv1 V2.out 2 (by simp) (by decide)).mono ?_
  rintro e w3 ⟨rfl, G3, r3, v3⟩
  have R3 := Lib.hid r3
  have V3 := Lib.hid v3
  clear r3 v3
  have u2 := uv_len 2 (by decide)
  have U2 := Lib.hid u2
  clear u2
  go_wp2_with fail
  refine (R3.out.str1 V3.out nm (by have := U2.out; simp; omega) (by omega)).mono ?_
  rintro e w4 ⟨rfl, G4, r4, v4⟩
  have R4 := Lib.hid r4
  have V4 := Lib.hid v4
  clear r4 v4
  have U3 := Lib.hid (uv_len nm.size (by omega))
  have U4 := Lib.hid (uv_len va.size (by omega))
  go_wp2_with fail
  refine (R4.out.str1 V4.out va (by have := U2.out; have := U3.out; simp [symE]; omega) (by omega)).mono ?_
  rintro e w5 ⟨rfl, G5, r5, v5⟩
  have R5 := Lib.hid r5
  have V5 := Lib.hid v5
  clear r5 v5
  obtain ⟨off, hoff⟩ : ∃ off, off = np + padN np 4 := ⟨_, rfl⟩
  have hoff9 : off < 90000004 := by have := padN_lt np 4 (by decide); omega
  have f2 := R5.out.cv V5.out 1 H1.out (by decide) (by decide)
  have f3 := R5.out.pospv V5.out (n := off) (by simp; have := HNP.out; rw [hoff, this])
  have HOFF := Lib.hid hoff
  clear hoff
  go_wp2_with fail
  go_still_tail 10, (by kernel_rfl)
  go_wp2_with fail
  refine (R5.out.drew.u64_1 V5.out off (by have := U2.out; have := U3.out; have := U4.out; simp [symE]; omega) (by omega)).mono ?_
  rintro e w6 ⟨rfl, G6, r6, v6⟩
  have R6 := Lib.hid r6
  obtain ⟨lp1, hlp1⟩ : ∃ lp1, lp1 = V.lp ++ zeros (padN V.lp.length 4) := ⟨_, rfl⟩
  have hoe : off = V.lp.length + padN V.lp.length 4 := by rw [HOFF.out, HNP.out]
  have v6' : G6.v = { V with lp := lp1, l1 := postE nm va off } := by rw [v6, hlp1]; simp [postE]
  have V6 := Lib.hid v6'
  have HOE := Lib.hid hoe
  have HLP1 := Lib.hid hlp1
  have hpl : (postE nm va off).length ≤ 200000 := by
    have := uv_len off (by omega); have := U2.out; have := U3.out; have := U4.out; simp [postE, symE]; omega
  have HPL := Lib.hid hpl
  clear r6 v6 v6' f2 f3 hoe hlp1 hpl
  have f2 := R6.out.cv V6.out 2 H2.out (by decide) (by decide)
  obtain ⟨ao1, m1, c1, HV1, _⟩ := R6.out.v1
  go_upto_region 9 with fail
  go_cut [10] from 50 to 59 (fun x wx => x = .nilIface ∧ ∃ G' go7, Reach w G wx G' ∧ G'.v = { V with go := go7, lp := lp1, l1 := postE nm va off, lo := V.lo ++ postE nm va off })
  case first =>
    have hl6 : V.lo.length + (postE nm va off).length < 1000000000 := by have := HPL.out; have := HNO.out; omega
    have W6 := Lib.hid (R6.out.drew.writeO1 V6.out (x := .slice ao1 m1 c1) HV1 hl6 hfo)
    clear hl6
    go_region_held3 (fun w' => w'.cell? ⟨G.wb, 2, none⟩ = some (.pointer (some ⟨G.ob, 0, none⟩))) (first | exact f2 | exact y2 | go_keep) (first | (go_at_call 49; refine (get_any G.wb 12 _ w6.drew HV1).mono ?_; rintro e w' ⟨rfl, rfl⟩) | (go_at_call 101; refine W6.out.mono ?_; rintro e w7 ⟨go7, rfl, G7, r7, v7⟩; have y2 := r7.cv v7 2 H2.out (by decide) (by decide); have R7 := Lib.hid r7; have V7 := Lib.hid v7; clear r7 v7))
    all_goals
      go_wp2_with fail
      go_meet
      exact ⟨rfl, _, _, R7.out, V7.out⟩
  case rest =>
  obtain ⟨rfl, G7, go7, r7, v7⟩ := hcut
  have R7 := Lib.hid r7
  have V7 := Lib.hid v7
  clear r7 v7 f2 HV1
  have f3 := R7.out.cv V7.out 3 H3.out (by decide) (by decide)
  have g3 := R7.out.fr 3 (by decide)
  obtain ⟨G8, r8, v8⟩ := R7.out.stv V7.out 3 (.int .u64 ((cnt : Int) + 1)) (by decide) (by decide) (by decide) (by decide) (by decide) (by decide)
  have R8 := Lib.hid r8
  have V8 := Lib.hid v8
  clear r8 v8
  go_wp2_with fail
  clear f3 g3
  refine (R8.out.reset1 V8.out).mono ?_
  rintro e w9 ⟨rfl, G9, r9, v9⟩
  have R9 := Lib.hid r9
  have V9 := Lib.hid v9
  clear r9 v9
  have f46 := R9.out.cv V9.out 46 (x := .func (.func 80) #[] #[]) (by simp [upd, H46.out]) (by decide) (by decide)
  go_wp2_with fail
  go_still_tail 8, (by kernel_rfl)
  go_wp2_with fail
  refine (R9.out.drew.encRaw V9.out ao n c xs HN.out (HX.out.reach R9.out.drew) (by simp; omega)).mono ?_
  rintro e w10 ⟨rfl, G10, r10, v10⟩
  have R10 := Lib.hid r10
  have v10' : G10.v = { V with go := go7, lp := lp1, lo := V.lo ++ postE nm va off, cs := upd V.cs 3 (.int .u64 ((cnt : Int) + 1)), l1 := be32 n ++ raw32 xs } := v10
  have V10 := Lib.hid v10'
  clear r10 v10 v10' f46
  go_wp2_with fail
  refine (R10.out.reset2 V10.out).mono ?_
  rintro e w11 ⟨rfl, G11, r11, v11⟩
  have R11 := Lib.hid r11
  have V11 := Lib.hid v11
  clear r11 v11
  obtain ⟨ao2, m2, c2, HV2, hm2⟩ := R11.out.v1
  have hm2' : m2 = 4 + 4 * n := by
    rw [hm2.out, show G11.l1 = be32 n ++ raw32 xs from congrArg Vw.l1 V11.out]
    simp [raw32_len, be32]; have := HN.out; omega
  have M2 := Lib.hid hm2'
  clear hm2 hm2'
  go_wp2_with fail
  refine (len_any G.wb 12 ao2 m2 c2 w11 HV2).mono ?_
  rintro e w' ⟨rfl, rfl⟩
  have i2 : m2 ≤ 4000000 := by have := M2.out; omega
  have z1 : IntKind.u64.wrap (m2 : Int) = m2 := IntWalk.u64_in _ (by omega)
  go_wp2_with fail
  refine (R11.out.be32i_2 V11.out m2 (by simp) (by omega)).mono ?_
  rintro e w12 ⟨rfl, G12, r12, v12⟩
  have R12 := Lib.hid r12
  have V12 := Lib.hid v12
  clear r12 v12 HV2 i2 z1
  have f44 := R12.out.c44
  go_wp2_with fail
  go_still_tail 7, (by kernel_rfl)
  go_wp2_with fail
  refine (R12.out.drew.hash1 V12.out (by simp [raw32_len, be32]; have := HN.out; omega)).mono ?_
  rintro e w13 ⟨k, hk, rfl, G13, r13, v13⟩
  have R13 := Lib.hid r13
  have v13' : G13.v = { V with go := go7, lp := lp1, lo := V.lo ++ postE nm va off, cs := upd V.cs 3 (.int .u64 ((cnt : Int) + 1)), l1 := be32 n ++ (raw32 xs ++ k), l2 := be32 m2 } := by rw [v13]; simp
  have V13 := Lib.hid v13'
  have HK := Lib.hid hk
  clear r13 v13 v13' f44 hk
  have f1 := R13.out.cv V13.out 1 (x := .pointer (some ⟨G.pb, 0, none⟩)) (by simp [upd, H1.out]) (by decide) (by decide)
  obtain ⟨ao3, m3, c3, HV3, _⟩ := R13.out.v1
  obtain ⟨ao4, m4, c4, HV4, _⟩ := R13.out.v2
  go_upto_region 23 with fail
  have hl13 : lp1.length + ((be32 m2).length + (be32 n ++ (raw32 xs ++ k)).length) < 1000000000 := by
    simp [raw32_len, be32]; have := HN.out; have := HK.out; have := HNP.out; have := padN_lt V.lp.length 4 (by decide); rw [HLP1.out]; simp; omega
  have W13 := Lib.hid (R13.out.drew.writeP21 V13.out (x := .slice ao4 m4 c4) (y := .slice ao3 m3 c3) HV4 HV3 hl13)
  clear hl13
  go_region_held3 (fun w' => w'.cell? ⟨G.wb, 1, none⟩ = some (.pointer (some ⟨G.pb, 0, none⟩))) (first | exact f1 | exact y1 | go_keep) (first | (go_at_call 49; first | ((refine (get_any G.wb 12 _ w13.drew HV3).mono ?_); rintro e w' ⟨rfl, rfl⟩) | ((refine (get_any G.wb 23 _ w13.drew HV4).mono ?_); rintro e w' ⟨rfl, rfl⟩)) | (go_at_call 101; refine W13.out.mono ?_; rintro e w14 ⟨rfl, G14, r14, v14⟩; have y1 := r14.cv v14 1 (x := .pointer (some ⟨G.pb, 0, none⟩)) (by simp [upd, H1.out]) (by decide) (by decide); have R14 := Lib.hid r14; have V14 := Lib.hid v14; clear r14 v14))
  all_goals
    go_wp2
    go_ret
    refine ⟨be32 n ++ (raw32 xs ++ k), be32 m2, zeros (padN V.lp.length 4) ++ (be32 m2 ++ (be32 n ++ (raw32 xs ++ k))), go7, ?_, rfl, G14, R14.out, ?_⟩
    · simp [raw32_len, be32]; have := HN.out; have := HK.out; omega
    · rw [V14.out, HLP1.out, ← HOE.out]; simp

end Go.Proofs.YtfipfoplmopkaaaGreatDoor

namespace Go.Proofs.YtfipfoplmopkaaaGreatDoor
open Go.RowKit Go.Maps

theorem fwClose_any (v : Value) (w : World) : Calls Tryz.prog 69 #[v] w fun e w' => e = .returned .nilIface ∧ w = w' := by
  go_enter Tryz.func69, Tryz.ntmps69
  go_wp2_with fail
  refine (flush_any _ _).mono ?_
  rintro e w' ⟨rfl, rfl⟩
  go_wp2
  go_ret
  exact ⟨rfl, rfl⟩
theorem fwRemove_any (v : Value) (w : World) : Calls Tryz.prog 145 #[v] w fun e w' => e = .returned .nilIface ∧ w = w' := by
  go_enter Tryz.func145, Tryz.ntmps145
  go_wp2
  go_ret
  exact ⟨rfl, rfl⟩
theorem zzClose_any (v : Value) (w : World) : Calls Tryz.prog 68 #[v] w fun e w' => e = .returned .nilIface ∧ w = w' := by
  go_enter Tryz.func68, Tryz.ntmps68
  go_wp2
  go_ret
  exact ⟨rfl, rfl⟩

def WLH (w : World) (G : Gh) (V : Vw) (p m : Nat) (e : Ending) (w' : World) : Prop :=
  ∃ l1 g k, k.length = 4 ∧ StE w G { V with l1 := l1, lf := spl V.lf p (be32 m) ++ k, gf := g } e w'

set_option maxRecDepth 100000 in
set_option maxHeartbeats 4000000 in
theorem writeLH_any (w : World) (G : Gh) (V : Vw) (hG : WI w G) (hV : G.v = V) (p m : Nat) (hN : V.lf.length = p + 4 + m) (hN9 : p + 4 + m < 90000000) (hwn : V.wn ≤ p) (hm : V.zm = false) :
    Calls Tryz.prog 146 #[.pointer (some ⟨G.wb, 0, none⟩), .int .u64 p] w (WLH w G V p m) := by
  have R0 := Lib.hid (Reach.refl hG)
  have V0 := Lib.hid hV
  have HN := Lib.hid hN
  have HW := Lib.hid hwn
  clear hG hV hN hwn
  go_enter Tryz.func146, Tryz.ntmps146
  go_wp2_with fail
  refine (R0.out.reset1 V0.out).mono ?_
  rintro e w1 ⟨rfl, G1, r1, v1⟩
  have R1 := Lib.hid r1
  have V1 := Lib.hid v1
  clear r1 v1
  obtain ⟨N, hNe⟩ : ∃ N, N = p + 4 + m := ⟨_, rfl⟩
  have f0 := R1.out.f0
  have fp := R1.out.posv V1.out (n := N) (by simp; rw [HN.out, hNe])
  have i1 : (N : Int) - p - 4 = m := by omega
  have i2 : m < 90000000 := by omega
  have i3 : p + 4 ≤ N := by omega
  have i4 : N < 90000000 := by omega
  have HNE := Lib.hid hNe
  clear hNe
  go_wp2_with fail
  clear fp f0 i1
  refine (R1.out.be32i_1 V1.out m (by simp) (by omega)).mono ?_
  rintro e w2 ⟨rfl, G2, r2, v2⟩
  have R2 := Lib.hid r2
  have v2' : G2.v = { V with l1 := be32 m } := v2
  have V2 := Lib.hid v2'
  clear r2 v2 v2'
  obtain ⟨ao, mm, c, HV, _⟩ := R2.out.v1
  go_wp2_with (go_at_call 49; refine (get_any G.wb 12 _ w2 HV).mono ?_; rintro e w' ⟨rfl, rfl⟩)
  refine (R2.out.writeAt1 V2.out p HV (by simp [be32]) (by simp [be32]; rw [HN.out]; omega) (by simp; rw [HN.out]; omega) HW.out hm).mono ?_
  rintro e w3 ⟨rfl, G3, r3, v3⟩
  have R3 := Lib.hid r3
  have V3 := Lib.hid v3
  clear r3 v3 HV
  go_wp2_with fail
  refine (R3.out.reset1 V3.out).mono ?_
  rintro e w4 ⟨rfl, G4, r4, v4⟩
  have R4 := Lib.hid r4
  have V4 := Lib.hid v4
  clear r4 v4
  have f44 := R4.out.c44
  go_wp2_with fail
  go_still_tail 7, (by kernel_rfl)
  go_wp2_with fail
  refine (R4.out.drew.sum1 V4.out (by simp)).mono ?_
  rintro e w5 ⟨k, hk, rfl, G5, r5, v5⟩
  have R5 := Lib.hid r5
  have v5' : G5.v = { V with lf := spl V.lf p (be32 m), l1 := k } := v5
  have V5 := Lib.hid v5'
  have HK := Lib.hid hk
  clear r5 v5 v5' hk f44
  obtain ⟨ao2, m2, c2, HV2, _⟩ := R5.out.v1
  go_wp2_with (go_at_call 49; refine (get_any G.wb 12 _ w5 HV2).mono ?_; rintro e w' ⟨rfl, rfl⟩)
  have hsl : (spl V.lf p (be32 m)).length = p + 4 + m := by rw [spl_length _ _ _ (by simp [be32]; rw [HN.out]; omega), HN.out]
  refine (R5.out.write1 V5.out HV2 (by simp; rw [hsl, HK.out]; omega) hm).mono ?_
  rintro e w6 ⟨g, rfl, G6, r6, v6⟩
  have R6 := Lib.hid r6
  have V6 := Lib.hid v6
  clear r6 v6 hsl HV2
  go_wp2
  go_ret
  exact ⟨k, g, k, HK.out, rfl, G6, R6.out, V6.out⟩

def WTOC (w : World) (G : Gh) (V : Vw) (e : Ending) (w' : World) : Prop := ∃ l1 g k, StE w G { V with l1 := l1, lf := V.lf ++ k, gf := g } e w'

theorem be64_len (x : Nat) : (Lib.beBytes 8 x).length = 8 := by simp [Lib.beBytes, Lib.leBytes]

set_option maxRecDepth 100000 in
set_option maxHeartbeats 8000000 in
theorem writeTOC_any (w : World) (G : Gh) (V : Vw) (hG : WI w G) (hV : G.v = V) (hN9 : V.lf.length < 90000000) (a0 a1 a2 a3 a4 a5 : Nat) (h0 : V.cs 4 = .int .u64 a0) (h1 : V.cs 5 = .int .u64 a1) (h2 : V.cs 6 = .int .u64 a2) (h3 : V.cs 7 = .int .u64 a3) (h4 : V.cs 8 = .int .u64 a4) (h5 : V.cs 9 = .int .u64 a5)
    (b0 : a0 < 100000000) (b1 : a1 < 100000000) (b2 : a2 < 100000000) (b3 : a3 < 100000000) (b4 : a4 < 100000000) (b5 : a5 < 100000000) (hm : V.zm = false) :
    Calls Tryz.prog 100 #[.pointer (some ⟨G.wb, 0, none⟩)] w (WTOC w G V) := by
  have R0 := Lib.hid (Reach.refl hG)
  have V0 := Lib.hid hV
  have HN := Lib.hid hN9
  have H0 := Lib.hid h0
  have H1 := Lib.hid h1
  have H2 := Lib.hid h2
  have H3 := Lib.hid h3
  have H4 := Lib.hid h4
  have H5 := Lib.hid h5
  clear hG hV hN9 h0 h1 h2 h3 h4 h5
  go_enter Tryz.func100, Tryz.ntmps100
  go_wp2_with fail
  refine (R0.out.reset1 V0.out).mono ?_
  rintro e w1 ⟨rfl, G1, r1, v1⟩
  have R1 := Lib.hid r1
  have V1 := Lib.hid v1
  clear r1 v1
  have f4 := R1.out.cv V1.out 4 H0.out (by decide) (by decide)
  go_wp2_with fail
  go_still_tail 8, (by kernel_rfl)
  go_wp2_with fail
  refine (R1.out.drew.be64_1 V1.out a0 (by simp) (by omega)).mono ?_
  rintro e w2 ⟨rfl, G2, r2, v2⟩
  have R2 := Lib.hid r2
  have V2 := Lib.hid v2
  clear r2 v2 f4
  have f5 := R2.out.cv V2.out 5 H1.out (by decide) (by decide)
  go_wp2_with fail
  go_still_tail 8, (by kernel_rfl)
  go_wp2_with fail
  refine (R2.out.drew.be64_1 V2.out a1 (by simp [be64_len]) (by omega)).mono ?_
  rintro e w3 ⟨rfl, G3, r3, v3⟩
  have R3 := Lib.hid r3
  have V3 := Lib.hid v3
  clear r3 v3 f5
  have f6 := R3.out.cv V3.out 6 H2.out (by decide) (by decide)
  go_wp2_with fail
  go_still_tail 8, (by kernel_rfl)
  go_wp2_with fail
  refine (R3.out.drew.be64_1 V3.out a2 (by simp [be64_len]) (by omega)).mono ?_
  rintro e w4 ⟨rfl, G4, r4, v4⟩
  have R4 := Lib.hid r4
  have V4 := Lib.hid v4
  clear r4 v4 f6
  have f7 := R4.out.cv V4.out 7 H3.out (by decide) (by decide)
  go_wp2_with fail
  go_still_tail 8, (by kernel_rfl)
  go_wp2_with fail
  refine (R4.out.drew.be64_1 V4.out a3 (by simp [be64_len]) (by omega)).mono ?_
  rintro e w5 ⟨rfl, G5, r5, v5⟩
  have R5 := Lib.hid r5
  have V5 := Lib.hid v5
  clear r5 v5 f7
  have f8 := R5.out.cv V5.out 8 H4.out (by decide) (by decide)
  go_wp2_with fail
  go_still_tail 8, (by kernel_rfl)
  go_wp2_with fail
  refine (R5.out.drew.be64_1 V5.out a4 (by simp [be64_len]) (by omega)).mono ?_
  rintro e w6 ⟨rfl, G6, r6, v6⟩
  have R6 := Lib.hid r6
  have V6 := Lib.hid v6
  clear r6 v6 f8
  have f9 := R6.out.cv V6.out 9 H5.out (by decide) (by decide)
  go_wp2_with fail
  go_still_tail 8, (by kernel_rfl)
  go_wp2_with fail
  refine (R6.out.drew.be64_1 V6.out a5 (by simp [be64_len]) (by omega)).mono ?_
  rintro e w7 ⟨rfl, G7, r7, v7⟩
  have R7 := Lib.hid r7
  obtain ⟨L, hL⟩ : ∃ L, L = G7.l1 := ⟨_, rfl⟩
  have hl : L.length = 48 := by rw [hL, show G7.l1 = _ from congrArg Vw.l1 v7]; simp [be64_len]
  have v7' : G7.v = { V with l1 := L } := by rw [hL, show G7.l1 = _ from congrArg Vw.l1 v7, v7]
  have V7 := Lib.hid v7'
  have HL := Lib.hid hl
  clear r7 v7 v7' f9 hL hl
  have f44 := R7.out.c44
  go_wp2_with fail
  go_still_tail 7, (by kernel_rfl)
  go_wp2_with fail
  refine (R7.out.drew.hash1 V7.out (by have := HL.out; simp; omega)).mono ?_
  rintro e w8 ⟨k, hk, rfl, G8, r8, v8⟩
  have R8 := Lib.hid r8
  have V8 := Lib.hid v8
  have HK := Lib.hid hk
  clear r8 v8 f44 hk
  obtain ⟨ao2, m2, c2, HV2, _⟩ := R8.out.v1
  go_wp2_with (go_at_call 49; refine (get_any G.wb 12 _ w8 HV2).mono ?_; rintro e w' ⟨rfl, rfl⟩)
  refine (R8.out.write1 V8.out HV2 (by have := HK.out; have := HL.out; have := HN.out; simp; omega) hm).mono ?_
  rintro e w9 ⟨g, rfl, G9, r9, v9⟩
  have R9 := Lib.hid r9
  have V9 := Lib.hid v9
  clear r9 v9 HV2
  go_wp2
  go_ret
  exact ⟨L ++ k, g, L ++ k, rfl, G9, R9.out, V9.out⟩

end Go.Proofs.YtfipfoplmopkaaaGreatDoor
