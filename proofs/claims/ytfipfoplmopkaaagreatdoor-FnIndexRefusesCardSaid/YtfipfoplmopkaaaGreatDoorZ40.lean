/- writePostingsToTmpFiles, loop 10: one value's postings after another. Conditions: bounds on lengths. writePostingsToTmpFiles, loop 8: the names of the batch. Conditions: bounds on lengths. Writer.writeLabelIndexesOffsetTable. Conditions: bounds on lengths. -/
import Derived.Test.YtfipfoplmopkaaaGreatDoorZ31
import Derived.Test.YtfipfoplmopkaaaGreatDoorZ38
import Derived.Test.YtfipfoplmopkaaaGreatDoorZ24
import Derived.Deep.Light
import Derived.Deep.CutBlock
import Derived.Deep.CutRange
import Derived.Deep.RegionHeld3

namespace Go.Proofs.YtfipfoplmopkaaaGreatDoor
open Go.RowKit Go.Maps

def R10 (w : World) (G : Gh) (V : Vw) (F : Fx) (sf cap g no2 b5 ob ko8 k8 i n nb m2 nv : Nat) (NM2 BN : List (List UInt8)) (O8 : Ow) (wx : World) : Prop :=
  ∃ G' PL l1 l2 lp go, 0 < PL.length ∧ PL.length + 200 * m2 + 200 * (nb - i) ≤ 1 + 200 * n + nv ∧ L8 w G V F sf cap g no2 b5 ob NM2 BN PL l1 l2 lp go ko8 k8 F.ss.length O8 wx G'

set_option maxRecDepth 1000000 in
set_option maxHeartbeats 40000000 in
theorem ptt10 {w : World} {G : Gh} {V : Vw} {F : Fx} {pre : List UInt8} {p L : Nat} {SL : List Se} (H : Hid (PH w G V F pre p L SL)) {sf cap g no2 b5 ob ko8 k8 : Nat} {NM2 BN : List (List UInt8)} {PL : List PE} {l1 l2 lp : List UInt8} {go : Option Nat} {O8 : Ow} {i n nb m2 cs nv cv v10 : Nat} {xn0 : List UInt8} {w12 : World} {G12 : Gh}
    (hx256 : xn0.length < 256) (hcs : cs < 4294967296) (hk8 : k8 ≤ 200) (hnv : nv ≤ 200) (hn200 : n ≤ 200) (q1 : 0 < PL.length) (q2 : PL.length + 200 * m2 + 200 * (nb - i) ≤ 1 + 200 * n)
    (HL12 : Hid (L8 w G V F sf cap g no2 b5 ob NM2 BN PL l1 l2 lp go ko8 k8 F.ss.length O8 w12 G12)) (HU12 : Hid (UR (QL F.ss.length) w12 v10 0 nv)) (hvl12 : v10 < w12.heap.size) (hT12 : G12.T v10 = 0)
    (ds : List Deferred) (x1 x2 x3 x4 x5 x6 x7 x8 x9 x10 x11 x12 x13 x14 x15 x16 x17 x18 x19 x20 x21 x23 x24 x25 x26 x27 x28 x29 x30 x31 x32 x33 x34 x35 x36 x39 x40 x41 x42 x43 x44 x45 x46 x47 x48 x49 x50 x51 x52 x53 x54 x55 x56 x57 x58 x59 x60 x61 x62 x63 x64 x65 x66 x67 x68 x69 x70 x71 x72 x73 x74 x75 x76 x77 x78 x79 x80 x81 x82 x83 x84 x85 x86 x87 x88 x89 x90 x91 x92 x93 x94 x95 x96 x97 x98 x99 x100 x101 x102 x103 x104 x105 x106 x107 x108 x109 x110 x111 x112 x113 x114 x115 x116 x117 x118 x119 x120 x121 x122 x123 x124 x125 x126 x127 x128 x129 x130 x131 x132 x133 x134 x135 x136 x137 x138 x139 x140 x141 x142 x143 x144 x145 x146 x147 x148 x149 x150 x151 x152 x153 x154 x155 x156 x157 x158 x159 x160 x161 x162 x163 x164 x165 x166 x167 x168 x169 x170 x171 x172 x173 x174 x175 x176 x177 x178 x179 x180 x181 x182 x183 x184 x185 x186 x187 x188 x189 x190 x191 x192 x193 x194 x195 x196 x197 x198 x199 x200 x201 x202 x203 x204 x205 x206 x207 x208 x209 x210 x211 x212 x213 x214 x215 x216 x217 x218 x219 x220 x221 x222 x223 x224 x225 x226 x227 x228 x229 x230 x231 x232 x233 x234 x235 x236 x237 x238 x239 x240 x241 x242 x243 x244 x245 x246 x247 x248 x249 x250 x251 x252 x253 x254 x255 x256 x257 x258 x259 x260 x261 x262 x263 x264 x265 x266 x267 x268 x269 x270 x271 x272 x273 x274 x275 x276 x277 x278 x279 x280 x281 x282 x283 x284 x285 x286 x287 x288 x289 x290 x291 x292 x293 x294 x295 x296 x297 x298 x299 x300 x301 x302 x303 x304 x305 x306 x307 x308 x309 x310 x311 x312 x313 x314 x315 x316 x317 x318 x319 x320 x321 x322 x323 x324 x325 x326 x327 x331 x332 x333 x334 x335 x336 x337 x338 x339 x340 x341 x342 x343 x344 x345 x346 x347 x348 x349 x350 x351 x352 x353 x354 x355 x356 x357 x358 x359 x360 x361 : Value) (Q0 : Exit → Act → World → Prop)
    (hexit : ∀ (y2 y43 y44 y45 y46 y330 y331 y332 y333 y334 y335 y336 y337 y338 y339 y340 y341 y342 y343 y344 y345 y346 y347 y348 y349 y350 y351 y352 y353 y354 y355 y356 y357 y358 y359 y360 : Value) (wx : World), R10 w G V F sf cap g no2 b5 ob ko8 k8 i n nb m2 nv NM2 BN O8 wx → Q0 (.exit 18) ⟨(.pointer (some ⟨G.wb, 0, none⟩) :: x1 :: y2 :: x3 :: x4 :: x5 :: x6 :: x7 :: x8 :: x9 :: x10 :: x11 :: x12 :: x13 :: x14 :: x15 :: x16 :: x17 :: x18 :: x19 :: x20 :: x21 :: .map (some ob) :: x23 :: x24 :: x25 :: x26 :: x27 :: x28 :: x29 :: x30 :: x31 :: x32 :: x33 :: x34 :: x35 :: x36 :: encStr xn0 :: .int .u32 (cs : Int) :: x39 :: x40 :: x41 :: x42 :: y43 :: y44 :: y45 :: y46 :: x47 :: x48 :: x49 :: x50 :: x51 :: x52 :: x53 :: x54 :: x55 :: x56 :: x57 :: x58 :: x59 :: x60 :: x61 :: x62 :: x63 :: x64 :: x65 :: x66 :: x67 :: x68 :: x69 :: x70 :: x71 :: x72 :: x73 :: x74 :: x75 :: x76 :: x77 :: x78 :: x79 :: x80 :: x81 :: x82 :: x83 :: x84 :: x85 :: x86 :: x87 :: x88 :: x89 :: x90 :: x91 :: x92 :: x93 :: x94 :: x95 :: x96 :: x97 :: x98 :: x99 :: x100 :: x101 :: x102 :: x103 :: x104 :: x105 :: x106 :: x107 :: x108 :: x109 :: x110 :: x111 :: x112 :: x113 :: x114 :: x115 :: x116 :: x117 :: x118 :: x119 :: x120 :: x121 :: x122 :: x123 :: x124 :: x125 :: x126 :: x127 :: x128 :: x129 :: x130 :: x131 :: x132 :: x133 :: x134 :: x135 :: x136 :: x137 :: x138 :: x139 :: x140 :: x141 :: x142 :: x143 :: x144 :: x145 :: x146 :: x147 :: x148 :: x149 :: x150 :: x151 :: x152 :: x153 :: x154 :: x155 :: x156 :: x157 :: x158 :: x159 :: x160 :: x161 :: x162 :: x163 :: x164 :: x165 :: x166 :: x167 :: x168 :: x169 :: x170 :: x171 :: x172 :: x173 :: x174 :: x175 :: x176 :: x177 :: x178 :: x179 :: x180 :: x181 :: x182 :: x183 :: x184 :: x185 :: x186 :: x187 :: x188 :: x189 :: x190 :: x191 :: x192 :: x193 :: x194 :: x195 :: x196 :: x197 :: x198 :: x199 :: x200 :: x201 :: x202 :: x203 :: x204 :: x205 :: x206 :: x207 :: x208 :: x209 :: x210 :: x211 :: x212 :: x213 :: x214 :: x215 :: x216 :: x217 :: x218 :: x219 :: x220 :: x221 :: x222 :: x223 :: x224 :: x225 :: x226 :: x227 :: x228 :: x229 :: x230 :: x231 :: x232 :: x233 :: x234 :: x235 :: x236 :: x237 :: x238 :: x239 :: x240 :: x241 :: x242 :: x243 :: x244 :: x245 :: x246 :: x247 :: x248 :: x249 :: x250 :: x251 :: x252 :: x253 :: x254 :: x255 :: x256 :: x257 :: x258 :: x259 :: x260 :: x261 :: x262 :: x263 :: x264 :: x265 :: x266 :: x267 :: x268 :: x269 :: x270 :: x271 :: x272 :: x273 :: x274 :: x275 :: x276 :: x277 :: x278 :: x279 :: x280 :: x281 :: x282 :: x283 :: x284 :: x285 :: x286 :: x287 :: x288 :: x289 :: x290 :: x291 :: x292 :: x293 :: x294 :: x295 :: x296 :: x297 :: x298 :: x299 :: x300 :: x301 :: x302 :: x303 :: x304 :: x305 :: x306 :: x307 :: x308 :: x309 :: x310 :: x311 :: x312 :: x313 :: x314 :: x315 :: x316 :: x317 :: x318 :: x319 :: x320 :: x321 :: x322 :: x323 :: x324 :: x325 :: x326 :: x327 :: .slice (some ⟨v10, 0, none⟩) nv cv :: .int .i64 nv :: y330 :: y331 :: y332 :: y333 :: y334 :: y335 :: y336 :: y337 :: y338 :: y339 :: y340 :: y341 :: y342 :: y343 :: y344 :: y345 :: y346 :: y347 :: y348 :: y349 :: y350 :: y351 :: y352 :: y353 :: y354 :: y355 :: y356 :: y357 :: y358 :: y359 :: y360 :: x361 :: []).toArray, ds⟩ wx) :
    Code.wp Tryz.prog (Code.loop (lp95 9)) Q0 ⟨(.pointer (some ⟨G.wb, 0, none⟩) :: x1 :: x2 :: x3 :: x4 :: x5 :: x6 :: x7 :: x8 :: x9 :: x10 :: x11 :: x12 :: x13 :: x14 :: x15 :: x16 :: x17 :: x18 :: x19 :: x20 :: x21 :: .map (some ob) :: x23 :: x24 :: x25 :: x26 :: x27 :: x28 :: x29 :: x30 :: x31 :: x32 :: x33 :: x34 :: x35 :: x36 :: encStr xn0 :: .int .u32 (cs : Int) :: x39 :: x40 :: x41 :: x42 :: x43 :: x44 :: x45 :: x46 :: x47 :: x48 :: x49 :: x50 :: x51 :: x52 :: x53 :: x54 :: x55 :: x56 :: x57 :: x58 :: x59 :: x60 :: x61 :: x62 :: x63 :: x64 :: x65 :: x66 :: x67 :: x68 :: x69 :: x70 :: x71 :: x72 :: x73 :: x74 :: x75 :: x76 :: x77 :: x78 :: x79 :: x80 :: x81 :: x82 :: x83 :: x84 :: x85 :: x86 :: x87 :: x88 :: x89 :: x90 :: x91 :: x92 :: x93 :: x94 :: x95 :: x96 :: x97 :: x98 :: x99 :: x100 :: x101 :: x102 :: x103 :: x104 :: x105 :: x106 :: x107 :: x108 :: x109 :: x110 :: x111 :: x112 :: x113 :: x114 :: x115 :: x116 :: x117 :: x118 :: x119 :: x120 :: x121 :: x122 :: x123 :: x124 :: x125 :: x126 :: x127 :: x128 :: x129 :: x130 :: x131 :: x132 :: x133 :: x134 :: x135 :: x136 :: x137 :: x138 :: x139 :: x140 :: x141 :: x142 :: x143 :: x144 :: x145 :: x146 :: x147 :: x148 :: x149 :: x150 :: x151 :: x152 :: x153 :: x154 :: x155 :: x156 :: x157 :: x158 :: x159 :: x160 :: x161 :: x162 :: x163 :: x164 :: x165 :: x166 :: x167 :: x168 :: x169 :: x170 :: x171 :: x172 :: x173 :: x174 :: x175 :: x176 :: x177 :: x178 :: x179 :: x180 :: x181 :: x182 :: x183 :: x184 :: x185 :: x186 :: x187 :: x188 :: x189 :: x190 :: x191 :: x192 :: x193 :: x194 :: x195 :: x196 :: x197 :: x198 :: x199 :: x200 :: x201 :: x202 :: x203 :: x204 :: x205 :: x206 :: x207 :: x208 :: x209 :: x210 :: x211 :: x212 :: x213 :: x214 :: x215 :: x216 :: x217 :: x218 :: x219 :: x220 :: x221 :: x222 :: x223 :: x224 :: x225 :: x226 :: x227 :: x228 :: x229 :: x230 :: x231 :: x232 :: x233 :: x234 :: x235 :: x236 :: x237 :: x238 :: x239 :: x240 :: x241 :: x242 :: x243 :: x244 :: x245 :: x246 :: x247 :: x248 :: x249 :: x250 :: x251 :: x252 :: x253 :: x254 :: x255 :: x256 :: x257 :: x258 :: x259 :: x260 :: x261 :: x262 :: x263 :: x264 :: x265 :: x266 :: x267 :: x268 :: x269 :: x270 :: x271 :: x272 :: x273 :: x274 :: x275 :: x276 :: x277 :: x278 :: x279 :: x280 :: x281 :: x282 :: x283 :: x284 :: x285 :: x286 :: x287 :: x288 :: x289 :: x290 :: x291 :: x292 :: x293 :: x294 :: x295 :: x296 :: x297 :: x298 :: x299 :: x300 :: x301 :: x302 :: x303 :: x304 :: x305 :: x306 :: x307 :: x308 :: x309 :: x310 :: x311 :: x312 :: x313 :: x314 :: x315 :: x316 :: x317 :: x318 :: x319 :: x320 :: x321 :: x322 :: x323 :: x324 :: x325 :: x326 :: x327 :: .slice (some ⟨v10, 0, none⟩) nv cv :: .int .i64 nv :: .int .i64 0 :: x331 :: x332 :: x333 :: x334 :: x335 :: x336 :: x337 :: x338 :: x339 :: x340 :: x341 :: x342 :: x343 :: x344 :: x345 :: x346 :: x347 :: x348 :: x349 :: x350 :: x351 :: x352 :: x353 :: x354 :: x355 :: x356 :: x357 :: x358 :: x359 :: x360 :: x361 :: []).toArray, ds⟩ w12 := by
  obtain ⟨i94, hi94, hz94, hs94, hb94⟩ := info_parts info94
  conv => arg 2; arg 1; whnf
  go_loopg [330] nv (fun m x ws => ∃ i2 : Nat, x = .int .i64 i2 ∧ i2 ≤ nv ∧ nv - i2 ≤ m ∧ Hid (∃ G' PL l1 l2 lp go, 0 < PL.length ∧ PL.length + 200 * m2 + 200 * (nb - i) ≤ 1 + 200 * n + i2 ∧ L8 w G V F sf cap g no2 b5 ob NM2 BN PL l1 l2 lp go ko8 k8 F.ss.length O8 ws G' ∧ UR (QL F.ss.length) ws v10 0 nv ∧ v10 < ws.heap.size ∧ G'.T v10 = 0))
  case atStart => exact ⟨0, rfl, Nat.zero_le _, Nat.le_refl _, Lib.hid ⟨G12, PL, l1, l2, lp, go, q1, q2, HL12.out, HU12.out, hvl12, hT12⟩⟩
  case round =>
  clear HL12 HU12
  obtain ⟨i2, rfl, hi2n, hi2m, HR⟩ := hrel
  by_cases hlt4 : i2 < nv
  case neg =>
    have hlt4' : ¬ (i2 : Int) < nv := by go_light; omega
    go_wp2_with fail
    obtain ⟨G', PL, l1, l2, lp, go, q1, q2, q3, _⟩ := HR.out
    exact ⟨G', PL, l1, l2, lp, go, q1, by go_light; omega, q3⟩
  case pos =>
  have hlt4' : (i2 : Int) < nv := by go_light; omega
  obtain ⟨G13, PL, l1, l2, lp, go, q1, q2, hq, hur, hvl, hvT⟩ := HR.out
  obtain ⟨⟨xv, hxv, hxq0, hxq1⟩, _⟩ := hur i2 hlt4
  rw [Nat.zero_add] at hxv
  obtain ⟨xn, rfl⟩ : ∃ xn : Nat, xv = xn := ⟨xv.toNat, by go_light; omega⟩
  obtain ⟨cnt, hcnt⟩ : ∃ cnt, cnt = F.ss.length := ⟨_, rfl⟩
  obtain ⟨nl0, hnl0⟩ : ∃ nl0, nl0 = F.l0.length := ⟨_, rfl⟩
  obtain ⟨vo, so, hso, s3, hcall⟩ := hq.S.P.look H.out (n := cnt) hcnt (o := xn) (by go_light; omega)
  have c35 := hq.S.P.f6 35 (by decide) (by decide) (by decide) H.out.h35
  have s0 := hq.S.P.sy.c0
  have s1 := hq.S.P.sy.c1
  have s2 := hq.S.P.sy.c2
  have s4 := hq.S.P.sy.c4
  rw [← hnl0] at s0 hcall
  rw [← hcnt] at s4
  have hsoz := H.out.ss so (List.mem_of_getElem? hso)
  have HQ := Lib.hid hq
  have HUR := Lib.hid hur
  have HCALL := Lib.hid hcall
  have hx32 : xn < 4294967296 := by have := H.out.ssl; go_light; omega
  clear hq hur hcall hcnt hnl0 hso hxq0 hxq1 HR
  go_wp2_with fail
  refine HCALL.out.mono ?_
  rintro e w13 ⟨rfl, k13⟩
  obtain ⟨G14, hl14, _, tO14⟩ := HQ.out.loc k13 (fun _ _ _ => False.elim)
  have hvl14 : v10 < w13.heap.size := Nat.lt_of_lt_of_le hvl k13.size
  have hvT14 : G14.T v10 = 0 := (tO14 v10 hvl).trans hvT
  have HUR14 : Hid (UR (QL F.ss.length) w13 v10 0 nv) := Lib.hid (HUR.out.blk (k13.block v10 hvl (fun _ => id)))
  obtain ⟨mv2, mo2, _, hop2, rfl, _, _, _, _, hin2⟩ := hl14.open hk8 hcs
  obtain ⟨v13, hv13, sv13⟩ := hin2 xn hx32
  obtain ⟨ao13, n13, cc13, rfl⟩ := sv13.sl
  obtain ⟨xs13, hn13, hn13k, hu13⟩ := sv13.u32s (Gr := G14) (fun j hj => (hl14.pm.a j hj).2.2.1)
  have hlk2 := hop2 w13 rfl
  have hlk3 := hv13 w13 (fun _ _ => rfl)
  have hpost := hl14.S.P.post ⟨xn0.toArray⟩ so ao13 n13 cc13 xs13 hn13 hu13 (by go_light; omega) (by show xn0.toArray.size < 256; simpa using hx256) hsoz.1 (fun _ => hsoz.2) H.out.h1 H.out.h2 H.out.h46 (by go_light; omega) H.out.zm H.out.zo
  have HPOST := Lib.hid hpost
  have HL14 := Lib.hid hl14
  clear hop2 hin2 hv13 sv13 hn13 hu13 hpost hl14 tO14 k13 HQ HUR HCALL s0 s1 s2 s3 s4 c35 hxv
  go_wp2_with fail
  refine HPOST.out.mono ?_
  rintro e w15 ⟨rfl, G15, off15, l1', l2', lp', go', p15, r15⟩
  have HL15 := Lib.hid (HL14.out.step p15 r15)
  have HUR15 : Hid (UR (QL F.ss.length) w15 v10 0 nv) := Lib.hid (HUR14.out.blk (KT.block r15.kp hvl14 hvT14))
  have hvl15 : v10 < w15.heap.size := Nat.lt_of_lt_of_le hvl14 r15.kp.size
  have hvT15 : G15.T v10 = 0 := (r15.nx.T v10 hvl14).trans hvT14
  clear p15 r15 HL14 HUR14 HPOST hlk2 hlk3
  go_wp2_with fail
  go_roundg (nv - (i2 + 1))
  case measure => go_light; omega
  case rel =>
    refine ⟨i2 + 1, by go_num, hlt4, Nat.le_refl _, Lib.hid ⟨G15, _, l1', l2', lp', go', ?_, ?_, HL15.out, HUR15.out, hvl15, hvT15⟩⟩
    · go_light; rw [List.length_append, List.length_singleton]; omega
    · go_light; rw [List.length_append, List.length_singleton]; omega

end Go.Proofs.YtfipfoplmopkaaaGreatDoor

namespace Go.Proofs.YtfipfoplmopkaaaGreatDoor
open Go.RowKit Go.Maps

def R8 (w : World) (G : Gh) (V : Vw) (F : Fx) (sf cap g no2 b5 ob ko8 k8 n m2 : Nat) (NM2 BN : List (List UInt8)) (O8 : Ow) (wx : World) : Prop :=
  ∃ G' PL l1 l2 lp go, 0 < PL.length ∧ PL.length + 200 * m2 ≤ 1 + 200 * n ∧ L8 w G V F sf cap g no2 b5 ob NM2 BN PL l1 l2 lp go ko8 k8 F.ss.length O8 wx G'

set_option maxRecDepth 1000000 in
set_option maxHeartbeats 40000000 in
theorem ptt8 {w : World} {G : Gh} {V : Vw} {F : Fx} {pre : List UInt8} {p L : Nat} {SL : List Se} (H : Hid (PH w G V F pre p L SL)) {sf cap g no2 b5 ob ko8 k8 : Nat} {NM2 BN : List (List UInt8)} {PL : List PE} {l1 l2 lp : List UInt8} {go : Option Nat} {O8 : Ow} {n nb cb m2 : Nat} {w8 : World} {G8 : Gh}
    (HBL : Hid (nb = BN.length)) (hk8 : k8 ≤ 200) (hn200 : n ≤ 200) (h1 : 0 < PL.length) (h2 : PL.length + 200 * m2 + 200 * nb ≤ 1 + 200 * n)
    (H8 : Hid (L8 w G V F sf cap g no2 b5 ob NM2 BN PL l1 l2 lp go ko8 k8 F.ss.length O8 w8 G8))
    (ds : List Deferred) (x1 x2 x3 x4 x5 x6 x7 x8 x9 x10 x11 x12 x13 x14 x15 x16 x17 x18 x19 x20 x21 x23 x24 x25 x26 x27 x28 x29 x30 x31 x32 x33 x34 x35 x36 x37 x38 x39 x40 x41 x42 x43 x44 x45 x46 x47 x48 x49 x50 x51 x52 x53 x54 x55 x56 x57 x58 x59 x60 x61 x62 x63 x64 x65 x66 x67 x68 x69 x70 x71 x72 x73 x74 x75 x76 x77 x78 x79 x80 x81 x82 x83 x84 x85 x86 x87 x88 x89 x90 x91 x92 x93 x94 x95 x96 x97 x98 x99 x100 x101 x102 x103 x104 x105 x106 x107 x108 x109 x110 x111 x112 x113 x114 x115 x116 x117 x118 x119 x120 x121 x122 x123 x124 x125 x126 x127 x128 x129 x130 x131 x132 x133 x134 x135 x136 x137 x138 x139 x140 x141 x142 x143 x144 x145 x146 x147 x148 x149 x150 x151 x152 x153 x154 x155 x156 x157 x158 x159 x160 x161 x162 x163 x164 x165 x166 x167 x168 x169 x170 x171 x172 x173 x174 x175 x176 x177 x178 x179 x180 x181 x182 x183 x184 x185 x186 x187 x188 x189 x190 x191 x192 x193 x194 x195 x196 x197 x198 x199 x200 x201 x202 x203 x204 x205 x206 x207 x208 x209 x210 x211 x212 x213 x214 x215 x216 x217 x218 x219 x220 x221 x222 x223 x224 x225 x226 x227 x228 x229 x230 x231 x232 x233 x234 x235 x236 x237 x238 x239 x240 x241 x242 x243 x244 x245 x246 x247 x248 x249 x250 x251 x252 x253 x254 x255 x256 x257 x258 x259 x260 x261 x262 x263 x264 x265 x266 x267 x268 x269 x270 x271 x272 x273 x274 x275 x276 x277 x278 x279 x280 x281 x282 x283 x284 x285 x286 x287 x288 x289 x290 x294 x295 x296 x297 x298 x299 x300 x301 x302 x303 x304 x305 x306 x307 x308 x309 x310 x311 x312 x313 x314 x315 x316 x317 x318 x319 x320 x321 x322 x323 x324 x325 x326 x327 x328 x329 x330 x331 x332 x333 x334 x335 x336 x337 x338 x339 x340 x341 x342 x343 x344 x345 x346 x347 x348 x349 x350 x351 x352 x353 x354 x355 x356 x357 x358 x359 x360 x361 : Value) (Q0 : Exit → Act → World → Prop)
    (hexit : ∀ (y2 y37 y38 y39 y40 y41 y43 y44 y45 y46 y293 y294 y295 y296 y297 y298 y299 y300 y301 y302 y303 y304 y305 y306 y307 y308 y309 y310 y311 y312 y313 y314 y315 y316 y317 y318 y319 y320 y321 y322 y323 y324 y325 y326 y327 y328 y329 y330 y331 y332 y333 y334 y335 y336 y337 y338 y339 y340 y341 y342 y343 y344 y345 y346 y347 y348 y349 y350 y351 y352 y353 y354 y355 y356 y357 y358 y359 y360 y361 : Value) (wx : World), R8 w G V F sf cap g no2 b5 ob ko8 k8 n m2 NM2 BN O8 wx → Q0 (.exit 14) ⟨(.pointer (some ⟨G.wb, 0, none⟩) :: x1 :: y2 :: x3 :: x4 :: x5 :: x6 :: x7 :: x8 :: x9 :: x10 :: x11 :: x12 :: x13 :: x14 :: x15 :: x16 :: x17 :: x18 :: x19 :: x20 :: x21 :: .map (some ob) :: x23 :: x24 :: x25 :: x26 :: x27 :: x28 :: x29 :: x30 :: x31 :: x32 :: x33 :: x34 :: x35 :: x36 :: y37 :: y38 :: y39 :: y40 :: y41 :: x42 :: y43 :: y44 :: y45 :: y46 :: x47 :: x48 :: x49 :: x50 :: x51 :: x52 :: x53 :: x54 :: x55 :: x56 :: x57 :: x58 :: x59 :: x60 :: x61 :: x62 :: x63 :: x64 :: x65 :: x66 :: x67 :: x68 :: x69 :: x70 :: x71 :: x72 :: x73 :: x74 :: x75 :: x76 :: x77 :: x78 :: x79 :: x80 :: x81 :: x82 :: x83 :: x84 :: x85 :: x86 :: x87 :: x88 :: x89 :: x90 :: x91 :: x92 :: x93 :: x94 :: x95 :: x96 :: x97 :: x98 :: x99 :: x100 :: x101 :: x102 :: x103 :: x104 :: x105 :: x106 :: x107 :: x108 :: x109 :: x110 :: x111 :: x112 :: x113 :: x114 :: x115 :: x116 :: x117 :: x118 :: x119 :: x120 :: x121 :: x122 :: x123 :: x124 :: x125 :: x126 :: x127 :: x128 :: x129 :: x130 :: x131 :: x132 :: x133 :: x134 :: x135 :: x136 :: x137 :: x138 :: x139 :: x140 :: x141 :: x142 :: x143 :: x144 :: x145 :: x146 :: x147 :: x148 :: x149 :: x150 :: x151 :: x152 :: x153 :: x154 :: x155 :: x156 :: x157 :: x158 :: x159 :: x160 :: x161 :: x162 :: x163 :: x164 :: x165 :: x166 :: x167 :: x168 :: x169 :: x170 :: x171 :: x172 :: x173 :: x174 :: x175 :: x176 :: x177 :: x178 :: x179 :: x180 :: x181 :: x182 :: x183 :: x184 :: x185 :: x186 :: x187 :: x188 :: x189 :: x190 :: x191 :: x192 :: x193 :: x194 :: x195 :: x196 :: x197 :: x198 :: x199 :: x200 :: x201 :: x202 :: x203 :: x204 :: x205 :: x206 :: x207 :: x208 :: x209 :: x210 :: x211 :: x212 :: x213 :: x214 :: x215 :: x216 :: x217 :: x218 :: x219 :: x220 :: x221 :: x222 :: x223 :: x224 :: x225 :: x226 :: x227 :: x228 :: x229 :: x230 :: x231 :: x232 :: x233 :: x234 :: x235 :: x236 :: x237 :: x238 :: x239 :: x240 :: x241 :: x242 :: x243 :: x244 :: x245 :: x246 :: x247 :: x248 :: x249 :: x250 :: x251 :: x252 :: x253 :: x254 :: x255 :: x256 :: x257 :: x258 :: x259 :: x260 :: x261 :: x262 :: x263 :: x264 :: x265 :: x266 :: x267 :: x268 :: x269 :: x270 :: x271 :: x272 :: x273 :: x274 :: x275 :: x276 :: x277 :: x278 :: x279 :: x280 :: x281 :: x282 :: x283 :: x284 :: x285 :: x286 :: x287 :: x288 :: x289 :: x290 :: .slice (some ⟨b5, 0, none⟩) nb cb :: .int .i64 nb :: y293 :: y294 :: y295 :: y296 :: y297 :: y298 :: y299 :: y300 :: y301 :: y302 :: y303 :: y304 :: y305 :: y306 :: y307 :: y308 :: y309 :: y310 :: y311 :: y312 :: y313 :: y314 :: y315 :: y316 :: y317 :: y318 :: y319 :: y320 :: y321 :: y322 :: y323 :: y324 :: y325 :: y326 :: y327 :: y328 :: y329 :: y330 :: y331 :: y332 :: y333 :: y334 :: y335 :: y336 :: y337 :: y338 :: y339 :: y340 :: y341 :: y342 :: y343 :: y344 :: y345 :: y346 :: y347 :: y348 :: y349 :: y350 :: y351 :: y352 :: y353 :: y354 :: y355 :: y356 :: y357 :: y358 :: y359 :: y360 :: y361 :: []).toArray, ds⟩ wx) :
    Code.wp Tryz.prog (Code.loop (lp95 7)) Q0 ⟨(.pointer (some ⟨G.wb, 0, none⟩) :: x1 :: x2 :: x3 :: x4 :: x5 :: x6 :: x7 :: x8 :: x9 :: x10 :: x11 :: x12 :: x13 :: x14 :: x15 :: x16 :: x17 :: x18 :: x19 :: x20 :: x21 :: .map (some ob) :: x23 :: x24 :: x25 :: x26 :: x27 :: x28 :: x29 :: x30 :: x31 :: x32 :: x33 :: x34 :: x35 :: x36 :: x37 :: x38 :: x39 :: x40 :: x41 :: x42 :: x43 :: x44 :: x45 :: x46 :: x47 :: x48 :: x49 :: x50 :: x51 :: x52 :: x53 :: x54 :: x55 :: x56 :: x57 :: x58 :: x59 :: x60 :: x61 :: x62 :: x63 :: x64 :: x65 :: x66 :: x67 :: x68 :: x69 :: x70 :: x71 :: x72 :: x73 :: x74 :: x75 :: x76 :: x77 :: x78 :: x79 :: x80 :: x81 :: x82 :: x83 :: x84 :: x85 :: x86 :: x87 :: x88 :: x89 :: x90 :: x91 :: x92 :: x93 :: x94 :: x95 :: x96 :: x97 :: x98 :: x99 :: x100 :: x101 :: x102 :: x103 :: x104 :: x105 :: x106 :: x107 :: x108 :: x109 :: x110 :: x111 :: x112 :: x113 :: x114 :: x115 :: x116 :: x117 :: x118 :: x119 :: x120 :: x121 :: x122 :: x123 :: x124 :: x125 :: x126 :: x127 :: x128 :: x129 :: x130 :: x131 :: x132 :: x133 :: x134 :: x135 :: x136 :: x137 :: x138 :: x139 :: x140 :: x141 :: x142 :: x143 :: x144 :: x145 :: x146 :: x147 :: x148 :: x149 :: x150 :: x151 :: x152 :: x153 :: x154 :: x155 :: x156 :: x157 :: x158 :: x159 :: x160 :: x161 :: x162 :: x163 :: x164 :: x165 :: x166 :: x167 :: x168 :: x169 :: x170 :: x171 :: x172 :: x173 :: x174 :: x175 :: x176 :: x177 :: x178 :: x179 :: x180 :: x181 :: x182 :: x183 :: x184 :: x185 :: x186 :: x187 :: x188 :: x189 :: x190 :: x191 :: x192 :: x193 :: x194 :: x195 :: x196 :: x197 :: x198 :: x199 :: x200 :: x201 :: x202 :: x203 :: x204 :: x205 :: x206 :: x207 :: x208 :: x209 :: x210 :: x211 :: x212 :: x213 :: x214 :: x215 :: x216 :: x217 :: x218 :: x219 :: x220 :: x221 :: x222 :: x223 :: x224 :: x225 :: x226 :: x227 :: x228 :: x229 :: x230 :: x231 :: x232 :: x233 :: x234 :: x235 :: x236 :: x237 :: x238 :: x239 :: x240 :: x241 :: x242 :: x243 :: x244 :: x245 :: x246 :: x247 :: x248 :: x249 :: x250 :: x251 :: x252 :: x253 :: x254 :: x255 :: x256 :: x257 :: x258 :: x259 :: x260 :: x261 :: x262 :: x263 :: x264 :: x265 :: x266 :: x267 :: x268 :: x269 :: x270 :: x271 :: x272 :: x273 :: x274 :: x275 :: x276 :: x277 :: x278 :: x279 :: x280 :: x281 :: x282 :: x283 :: x284 :: x285 :: x286 :: x287 :: x288 :: x289 :: x290 :: .slice (some ⟨b5, 0, none⟩) nb cb :: .int .i64 nb :: .int .i64 0 :: x294 :: x295 :: x296 :: x297 :: x298 :: x299 :: x300 :: x301 :: x302 :: x303 :: x304 :: x305 :: x306 :: x307 :: x308 :: x309 :: x310 :: x311 :: x312 :: x313 :: x314 :: x315 :: x316 :: x317 :: x318 :: x319 :: x320 :: x321 :: x322 :: x323 :: x324 :: x325 :: x326 :: x327 :: x328 :: x329 :: x330 :: x331 :: x332 :: x333 :: x334 :: x335 :: x336 :: x337 :: x338 :: x339 :: x340 :: x341 :: x342 :: x343 :: x344 :: x345 :: x346 :: x347 :: x348 :: x349 :: x350 :: x351 :: x352 :: x353 :: x354 :: x355 :: x356 :: x357 :: x358 :: x359 :: x360 :: x361 :: []).toArray, ds⟩ w8 := by
  obtain ⟨i94, hi94, hz94, hs94, hb94⟩ := info_parts info94
  conv => arg 2; arg 1; whnf
  go_loopg [293] nb (fun m x ws => ∃ i : Nat, x = .int .i64 i ∧ i ≤ nb ∧ nb - i ≤ m ∧ Hid (∃ G' PL l1 l2 lp go, 0 < PL.length ∧ PL.length + 200 * m2 + 200 * (nb - i) ≤ 1 + 200 * n ∧ L8 w G V F sf cap g no2 b5 ob NM2 BN PL l1 l2 lp go ko8 k8 F.ss.length O8 ws G'))
  case atStart => exact ⟨0, rfl, Nat.zero_le _, Nat.le_refl _, Lib.hid ⟨G8, PL, l1, l2, lp, go, h1, by go_light; omega, H8.out⟩⟩
  case round =>
  clear H8
  obtain ⟨i, rfl, hin, him, HR⟩ := hrel
  by_cases hlt : i < nb
  case neg =>
    have hlt' : ¬ (i : Int) < nb := by go_light; omega
    go_wp2_with fail
    obtain ⟨G', PL, l1, l2, lp, go, q1, q2, q3⟩ := HR.out
    exact ⟨G', PL, l1, l2, lp, go, q1, by go_light; omega, q3⟩
  case pos =>
  have hlt' : (i : Int) < nb := by go_light; omega
  obtain ⟨G9, PL, l1, l2, lp, go, q1, q2, hq⟩ := HR.out
  obtain ⟨x0, hx0⟩ : ∃ x0, BN[i]? = some x0 := ⟨BN[i]'(by rw [← HBL.out]; exact hlt), List.getElem?_eq_getElem _⟩
  have n0 := hq.S.B.c i x0 hx0
  rw [Nat.zero_add] at n0
  have hxL := hq.S.B.has x0 (List.mem_of_getElem? hx0)
  obtain ⟨hx256, hxS, _⟩ := H.out.L9 x0 hxL
  obtain ⟨cs, hcs, hlk⟩ := hq.S.P.sc hx256 hxS
  have c38 := hq.S.P.R.c38
  obtain ⟨mv, mo, mm, hop1, rfl, hmm9, hlen, hmo, hrange, _⟩ := hq.open hk8 hcs
  have hlook := hop1 wr rfl
  have HQ := Lib.hid hq
  have HOP := Lib.hid hop1
  have HRANGE := Lib.hid hrange
  have HMO := Lib.hid hmo
  clear hq hop1 hrange hmo hx0 hxL HR
  go_wp2_with (at_make; refine wpList_make_own _ rfl _ _ 149 rfl 0 94 i94 (.int .u32 0) 1 und149 hi94 hz94 hs94 _ _ _ mm rfl rfl rfl (by go_light; rw [hb94]; omega) (by go_light; unfold maxLen; omega) (Nat.zero_le _) ?_)
  intro w9 hrow9 hg9
  obtain ⟨vb, hvb⟩ : ∃ vb, vb = wr.heap.size := ⟨_, rfl⟩
  rw [← hvb] at hrow9 ⊢
  have k9 := kept_grown hg9
  have hob9 : ob < wr.heap.size := HQ.out.pm.m.lt
  have hlook9 := HOP.out w9 (k9.block ob hob9 (fun _ => id))
  obtain ⟨w10, cn, hrun10, hit, hcn, k10, hsz10⟩ := HRANGE.out w9 k9
  obtain ⟨r9, hr9⟩ : ∃ r9, r9 = w9.heap.size := ⟨_, rfl⟩
  rw [← hr9] at hrun10 hit
  have hv9 : ∃ G', V9 w G V F sf cap g no2 b5 ob NM2 BN PL l1 l2 lp go ko8 k8 F.ss.length O8 r9 cn (fun c w' => IT mo r9 k8 F.ss.length c w') (.slice (some ⟨vb, 0, none⟩) 0 mm) [] w10 G' := by
    have kk := k9.trans k10 (fun _ _ _ => id)
    obtain ⟨G', l', tn, tO⟩ := HQ.out.loc kk (fun _ _ _ => False.elim)
    have hvl := (hrow9.lt vb rfl).2
    refine ⟨G', l', hit, ownsRow_block hrow9 (fun j e => k10.block j (hrow9.lt j e).2 (fun _ => id)), ⟨vb, rfl, HQ.out.S.lo tn (by go_light; omega), HQ.out.pm.new0 (by go_light; omega), by go_light; omega⟩, ⟨HQ.out.S.lo tn (by have := k9.size; go_light; omega), HQ.out.pm.new0 (by have := k9.size; go_light; omega), by go_light; omega⟩, (fun x hx => by cases hx), by go_light; simp; omega⟩
  have HV9 := Lib.hid hv9
  clear hv9 hit hrow9 hg9 k9 k10 hsz10 hvb hr9 hob9 hlook hlen
  go_wp2_with fail
  refine ptt9 HMO HV9 _ _ _ _ _ _ _ _ _ _ _ _ _ _ _ _ _ _ _ _ _ _ _ _ _ _ _ _ _ _ _ _ _ _ _ _ _ _ _ _ _ _ _ _ _ _ _ _ _ _ _ _ _ _ _ _ _ _ _ _ _ _ _ _ _ _ _ _ _ _ _ _ _ _ _ _ _ _ _ _ _ _ _ _ _ _ _ _ _ _ _ _ _ _ _ _ _ _ _ _ _ _ _ _ _ _ _ _ _ _ _ _ _ _ _ _ _ _ _ _ _ _ _ _ _ _ _ _ _ _ _ _ _ _ _ _ _ _ _ _ _ _ _ _ _ _ _ _ _ _ _ _ _ _ _ _ _ _ _ _ _ _ _ _ _ _ _ _ _ _ _ _ _ _ _ _ _ _ _ _ _ _ _ _ _ _ _ _ _ _ _ _ _ _ _ _ _ _ _ _ _ _ _ _ _ _ _ _ _ _ _ _ _ _ _ _ _ _ _ _ _ _ _ _ _ _ _ _ _ _ _ _ _ _ _ _ _ _ _ _ _ _ _ _ _ _ _ _ _ _ _ _ _ _ _ _ _ _ _ _ _ _ _ _ _ _ _ _ _ _ _ _ _ _ _ _ _ _ _ _ _ _ _ _ _ _ _ _ _ _ _ _ _ _ _ _ _ _ _ _ _ _ _ _ _ _ _ _ _ _ _ _ _ _ _ _ _ _ _ _ _ _ _ _ _ _ _ _ _ _ _ _ _ _ _ _ _ _ _ _ _ _ _ _ _ _ _ _ _ _ _ _ _ _ _ _ _ _ _ _ _ _ ?_
  clear HV9 hrun10 hlook9
  intro z40 z41 z318 z319 z320 z321 z322 z323 z324 z325 wz HR9
  obtain ⟨nv, cv, v10, G11, rfl, hnv, hV, hur, hvbl, hlo, hO0⟩ := HR9
  have HV := Lib.hid hV
  have HUR := Lib.hid hur
  clear hV hur
  go_wp2_with fail
  refine (sortU_any (QL F.ss.length) v10 0 nv cv wz HUR.out hvbl (by go_light; omega)).mono ?_
  rintro e w11 ⟨rfl, hus⟩
  obtain ⟨G12, hl12, tn12, tO12⟩ := HV.out.loc hus.2 (fun j o _ e => by rw [e]; exact ⟨hlo, hO0⟩)
  have HL12 := Lib.hid hl12
  have HU12 := Lib.hid hus.1
  have hT12 := (tO12 v10 hvbl).trans hlo.2.1
  have hvl12 := Nat.lt_of_lt_of_le hvbl hus.2.size
  clear hus hl12 tn12 tO12 HV HUR
  go_wp2_with fail
  refine ptt10 H hx256 hcs hk8 hnv hn200 q1 q2 HL12 HU12 hvl12 hT12 _ _ _ _ _ _ _ _ _ _ _ _ _ _ _ _ _ _ _ _ _ _ _ _ _ _ _ _ _ _ _ _ _ _ _ _ _ _ _ _ _ _ _ _ _ _ _ _ _ _ _ _ _ _ _ _ _ _ _ _ _ _ _ _ _ _ _ _ _ _ _ _ _ _ _ _ _ _ _ _ _ _ _ _ _ _ _ _ _ _ _ _ _ _ _ _ _ _ _ _ _ _ _ _ _ _ _ _ _ _ _ _ _ _ _ _ _ _ _ _ _ _ _ _ _ _ _ _ _ _ _ _ _ _ _ _ _ _ _ _ _ _ _ _ _ _ _ _ _ _ _ _ _ _ _ _ _ _ _ _ _ _ _ _ _ _ _ _ _ _ _ _ _ _ _ _ _ _ _ _ _ _ _ _ _ _ _ _ _ _ _ _ _ _ _ _ _ _ _ _ _ _ _ _ _ _ _ _ _ _ _ _ _ _ _ _ _ _ _ _ _ _ _ _ _ _ _ _ _ _ _ _ _ _ _ _ _ _ _ _ _ _ _ _ _ _ _ _ _ _ _ _ _ _ _ _ _ _ _ _ _ _ _ _ _ _ _ _ _ _ _ _ _ _ _ _ _ _ _ _ _ _ _ _ _ _ _ _ _ _ _ _ _ _ _ _ _ _ _ _ _ _ _ _ _ _ _ _ _ _ _ _ _ _ _ _ _ _ _ _ _ _ _ _ _ _ _ _ _ _ _ _ _ _ _ _ _ _ _ _ _ _ _ _ _ _ _ _ _ _ _ _ _ _ _ _ _ ?_
  intro z2 z43 z44 z45 z46 z330 z331 z332 z333 z334 z335 z336 z337 z338 z339 z340 z341 z342 z343 z344 z345 z346 z347 z348 z349 z350 z351 z352 z353 z354 z355 z356 z357 z358 z359 z360 wy HR10
  go_wp2_with fail
  go_roundg (nb - (i + 1))
  case measure => go_light; omega
  case rel =>
    go_light
    obtain ⟨G', PL, l1, l2, lp, go, q1, q2, q3⟩ := HR10
    exact ⟨i + 1, by go_num, hlt, Nat.le_refl _, Lib.hid ⟨G', PL, l1, l2, lp, go, q1, by omega, q3⟩⟩

end Go.Proofs.YtfipfoplmopkaaaGreatDoor

namespace Go.Proofs.YtfipfoplmopkaaaGreatDoor
open Go.RowKit Go.Maps

/-- What writeLabelIndexesOffsetTable leaves. -/
def WLOT (w : World) (G : Gh) (V : Vw) (ne : Nat) (e : Ending) (w' : World) : Prop :=
  ∃ l1 g k, k.length ≤ 12 + 290 * ne ∧ StE w G { V with l1 := l1, gf := g, lf := V.lf ++ k } e w'

set_option maxRecDepth 100000 in
set_option maxHeartbeats 4000000 in
theorem writeLOT_any (w : World) (G : Gh) (V : Vw) (hG : WI w G) (hV : G.v = V) (es : List (Nat × ByteArray × Nat)) (hLI : LI (fun i => G.T i = 0) w (V.cs 39) es) (ne : Nat) (hne : ne = es.length) (hne9 : ne < 100000) (hl : V.lf.length + 290 * ne < 80000000) (hwn : V.wn ≤ V.lf.length) (hm : V.zm = false) :
    Calls Tryz.prog 98 #[.pointer (some ⟨G.wb, 0, none⟩)] w (WLOT w G V ne) := by
  have R0 := Lib.hid (Reach.refl hG)
  have V0 := Lib.hid hV
  have HL := Lib.hid hLI
  have HE := Lib.hid hne
  have HW := Lib.hid hwn
  have f0 := R0.out.f0
  obtain ⟨p, hp⟩ : ∃ p, p = V.lf.length := ⟨_, rfl⟩
  rw [← hp] at hl
  have fp := R0.out.posv V0.out (n := p) hp.symm
  have HP := Lib.hid hp
  obtain ⟨ao9, c9, h39⟩ := own_slice hLI.row
  rw [← hne] at h39
  have H39 := Lib.hid h39
  clear hG hV hLI hne hp hwn h39
  have hcv := fun (w : World) (C : Array Value) (n c : Nat) => Lib.run_convert_bytes_const (P := Tryz.prog) w 27 5 C n c Tryz.underlying27 Tryz.underlying5
  have mr1 := method_reset
  have mr2 := ahead_reset
  go_enter Tryz.func98, Tryz.ntmps98
  go_wp2_with fail
  have hwl := R0.out.writeLit V0.out alenL (4, 5) (by simp [alenL]; have := HP.out; omega) hm
  rw [show (bVs alenL).toArray = #[.int .u8 97, .int .u8 108, .int .u8 101, .int .u8 110] from rfl, show alenL.length = 4 from rfl] at hwl
  refine hwl.mono ?_
  clear hwl
  rintro e w1 ⟨g1, rfl, G1, r1, v1⟩
  have R1 := Lib.hid r1
  have V1 := Lib.hid v1
  clear r1 v1 f0 fp
  have f44 := R1.out.c44
  go_wp2_with fail
  refine (R1.out.dreset V1.out).mono ?_
  rintro e w2 ⟨rfl, G2, r2, v2⟩
  have R2 := Lib.hid r2
  have V2 := Lib.hid v2
  clear r2 v2 f44
  go_wp2_with fail
  refine (R2.out.reset1 V2.out).mono ?_
  rintro e w3 ⟨rfl, G3, r3, v3⟩
  have R3 := Lib.hid r3
  have V3 := Lib.hid v3
  clear r3 v3
  have f39 := R3.out.cv V3.out 39 H39.out (by decide) (by decide)
  go_wp2_with fail
  go_still_tail 8, (by kernel_rfl)
  go_wp2_with fail
  refine (R3.out.drew.be32i_1 V3.out ne (by simp) (by omega)).mono ?_
  rintro e w4 ⟨rfl, G4, r4, v4⟩
  have R4 := Lib.hid r4
  have V4 := Lib.hid v4
  clear r4 v4 f39
  have f44 := R4.out.c44
  go_wp2_with fail
  go_still_tail 7, (by kernel_rfl)
  go_wp2_with fail
  refine (R4.out.drew.wth1 V4.out (by simp [be32])).mono ?_
  rintro e w5 ⟨rfl, G5, r5, v5⟩
  have R5 := Lib.hid r5
  have V5 := Lib.hid v5
  clear r5 v5 f44
  obtain ⟨ao1, m1, c1, HV1, _⟩ := R5.out.v1
  go_wp2_with (go_at_call 49; refine (get_any G.wb 12 _ w5 HV1).mono ?_; rintro e w' ⟨rfl, rfl⟩)
  refine (R5.out.write1 V5.out HV1 (by simp [be32, alenL]; have := HP.out; omega) hm).mono ?_
  rintro e w6 ⟨g6, rfl, G6, r6, v6⟩
  have R6 := Lib.hid r6
  have v6' : G6.v = { V with l1 := be32 ne, gf := g6, lf := V.lf ++ (alenL ++ (be32 ne ++ [])) } := by rw [v6]; simp
  have V6 := Lib.hid v6'
  clear r6 v6 v6' HV1
  have f39 := R6.out.cv V6.out 39 H39.out (by decide) (by decide)
  go_wp2_with fail
  clear f39
  go_loopw [68] (fun i wr => ∃ j : Nat, j ≤ ne ∧ i = .int .i64 j ∧ Hid (∃ Gr l g k, k.length ≤ 290 * j ∧ Reach w G wr Gr ∧ Gr.v = { V with l1 := l, gf := g, lf := V.lf ++ (alenL ++ (be32 ne ++ k)) })) (fun i _ => ne - (intOf i).toNat)
  case atStart => exact ⟨0, Nat.zero_le _, rfl, Lib.hid ⟨_, _, _, [], Nat.le_refl _, R6.out, V6.out⟩⟩
  case round =>
    obtain ⟨j, hj, rfl, HR⟩ := hrel
    obtain ⟨Gr, lr, gr, kr, hkr, rr, vr⟩ := HR.out
    have RR := Lib.hid rr
    have VR := Lib.hid vr
    have HKR := Lib.hid hkr
    clear rr vr HR hkr R6 V6
    by_cases hlt : j < ne
    · have hjl : j < es.length := by rw [← HE.out]; exact hlt
      obtain ⟨kb, ky, off, he⟩ : ∃ kb ky off, es[j] = (kb, ky, off) := ⟨_, _, _, rfl⟩
      have hmem : (kb, ky, off) ∈ es := by rw [← he]; exact List.getElem_mem _
      obtain ⟨hkT, hkc, hks, hoff⟩ : G.T kb = 0 ∧ w.cell? ⟨kb, 0, none⟩ = some (.string ky) ∧ ky.size < 256 ∧ off < 100000000 := HL.out.key _ hmem
      have hkc' := (KT.cell RR.out.kp (World.block_lt_of_cell? _ _ hkc) hkT 0).trans hkc
      have hkT' := (RR.out.nx.T kb (World.block_lt_of_cell? _ _ hkc)).trans hkT
      have hrow := HL.out.row
      have hnx : ∀ i u, (liVs es)[i]? = some u → ∃ g9, ao9 = some ⟨g9, 0, none⟩ ∧ wr.cell? ⟨g9, i, none⟩ = some u := fun i u hu => by
        rcases hrow.2 with ⟨hq, h0⟩ | ⟨g9, cap, cur, hq, _⟩
        · rw [← HE.out] at h0; omega
        · rw [H39.out] at hq
          have hao : ao9 = some ⟨g9, 0, none⟩ := by cases hq; rfl
          have hob : (V.cs 39).ownBlock = some g9 := by rw [H39.out, hao]; rfl
          have hc := hrow.cells hob i u hu
          rw [Addr.add_lit, Nat.zero_add] at hc
          exact ⟨g9, hao, (KT.cell RR.out.kp (World.block_lt_of_cell? _ _ hc) (HL.out.blk g9 hob) i).trans hc⟩
      have hli : (liVs es)[j * 2]? = some (.slice (some ⟨kb, 0, none⟩) 1 1) ∧ (liVs es)[j * 2 + 1]? = some (.int .u64 off) := by
        have h1 : liVs es = liVs (es.take j) ++ (liV es[j] ++ liVs (es.drop (j + 1))) := by
          unfold liVs
          rw [← List.flatten_cons, ← List.map_cons, ← List.flatten_append, ← List.map_append, ← List.drop_eq_getElem_cons hjl, List.take_append_drop]
        have h2 : (liVs (es.take j)).length = j * 2 := by rw [liVs_len]; simp; omega
        rw [h1, he]
        constructor
        · rw [List.getElem?_append_right (by omega), h2, Nat.sub_self]; rfl
        · rw [List.getElem?_append_right (by omega), h2, show j * 2 + 1 - j * 2 = 1 by omega]; rfl
      obtain ⟨g9, hao, hca⟩ := hnx _ _ hli.1
      obtain ⟨g9', hao', hcb⟩ := hnx _ _ hli.2
      obtain rfl : g9' = g9 := by rw [hao] at hao'; cases hao'; rfl
      subst hao
      have HKC := Lib.hid hkc'
      have HKCW := Lib.hid hkc
      clear hnx hli hrow hkc hkc' he hmem hao'
      obtain ⟨Ga, ra, va, ta, _⟩ := RR.out.newv VR.out (.cells #[.slice (some ⟨kb, 0, none⟩) 1 1, .int .u64 off] 224)
      obtain ⟨eb, heb⟩ : ∃ eb, eb = wr.heap.size := ⟨_, rfl⟩
      obtain ⟨wa, hwa⟩ : ∃ wa, wa = wr.alloc (.cells #[.slice (some ⟨kb, 0, none⟩) 1 1, .int .u64 off] 224) := ⟨_, rfl⟩
      have ca0 : wa.cell? ⟨eb, 0, none⟩ = some (.slice (some ⟨kb, 0, none⟩) 1 1) := by rw [hwa, heb, World.cell?_alloc_new]; rfl
      have ca1 : wa.cell? ⟨eb, 1, none⟩ = some (.int .u64 off) := by rw [hwa, heb, World.cell?_alloc_new]; rfl
      have hebl : eb < wa.heap.size := World.block_lt_of_cell? _ _ ca0
      rw [← heb] at ta
      rw [← hwa] at ra
      have RA := Lib.hid ra
      have VA := Lib.hid va
      have TA := Lib.hid ta
      have HWA := Lib.hid hwa
      have HEB := Lib.hid heb
      clear ra va ta hwa heb
      go_wp2_with fail
      rw [← HWA.out, ← HEB.out]
      clear hca hcb
      refine (RA.out.reset1s VA.out).mono ?_
      rintro e wb ⟨rfl, Gb, rb, vb, sb⟩
      have RB := Lib.hid rb
      have VB := Lib.hid vb
      have SB := Lib.hid sb
      have cb0 := (KT.cell sb.kp hebl TA.out 0).trans ca0
      clear rb vb sb
      go_wp2_with fail
      go_still_tail 6, (by kernel_rfl)
      go_wp2_with fail
      refine (RB.out.drew.uv1s VB.out 1 (by simp) (by decide)).mono ?_
      rintro e wd ⟨rfl, Gd, rd, vd, sd⟩
      have RD := Lib.hid rd
      have VD := Lib.hid vd
      have SD := Lib.hid (SB.out.drew.trans sd)
      clear rd vd sd cb0
      have cd0 := (KT.cell SD.out.kp hebl TA.out 0).trans ca0
      go_wp2_with fail
      clear cd0
      have u1 := Lib.hid (uv_len 1 (by decide))
      have u2 := Lib.hid (uv_len ky.size (by omega))
      go_loopw [86] (fun i wx => ∃ q : Nat, q ≤ 1 ∧ i = .int .i64 q ∧ Hid (∃ Gx l, l.length ≤ 10 + 266 * q ∧ Reach w G wx Gx ∧ Reach wa Ga wx Gx ∧ Gx.v = { V with l1 := l, gf := gr, lf := V.lf ++ (alenL ++ (be32 ne ++ kr)) })) (fun i _ => 1 - (intOf i).toNat)
      case atStart => exact ⟨0, by omega, rfl, Lib.hid ⟨_, _, by have := u1.out; simp; omega, RD.out, SD.out, VD.out⟩⟩
      case round =>
        obtain ⟨q, hq, rfl, HQ⟩ := hrel
        obtain ⟨Gx, lx, hlx, rx, sx, vx⟩ := HQ.out
        have RX := Lib.hid rx
        have SX := Lib.hid sx
        have VX := Lib.hid vx
        have HLX := Lib.hid hlx
        clear rx sx vx hlx HQ RD SD VD
        by_cases hq0 : q = 0
        · subst hq0
          have hkl := World.block_lt_of_cell? _ _ HKC.out
          have cx := (KT.cell RX.out.kp (World.block_lt_of_cell? _ _ HKCW.out) hkT 0).trans HKCW.out
          go_wp2_with fail
          refine (RX.out.str1s VX.out ky (by have := HLX.out; simp; omega) (by omega)).mono ?_
          rintro e wy ⟨rfl, Gy, ry, vy, sy⟩
          have RY := Lib.hid ry
          have VY := Lib.hid vy
          have SY := Lib.hid (SX.out.trans sy)
          clear ry vy sy cx
          go_wp2
          go_roundw
          case rel => exact ⟨1, Nat.le_refl _, by go_num, Lib.hid ⟨_, _, by have := HLX.out; have := u2.out; simp [symE]; omega, RY.out, SY.out, VY.out⟩⟩
          case measure => simp [intOf]
        · obtain rfl : q = 1 := by omega
          have cx1 := (KT.cell SX.out.kp hebl TA.out 1).trans ca1
          go_wp2_with fail
          go_still_tail 5, (by kernel_rfl)
          go_wp2_with fail
          refine (RX.out.drew.u64_1s VX.out off (by have := HLX.out; simp; omega) (by omega)).mono ?_
          rintro e wy ⟨rfl, Gy, ry, vy, sy⟩
          have RY := Lib.hid ry
          have VY := Lib.hid vy
          clear ry vy sy cx1
          have f44 := RY.out.c44
          have u3 := Lib.hid (uv_len off (by omega))
          go_wp2_with fail
          go_still_tail 7, (by kernel_rfl)
          go_wp2_with fail
          refine (RY.out.drew.wth1 VY.out (by have := HLX.out; have := u3.out; simp; omega)).mono ?_
          rintro e wz ⟨rfl, Gz, rz, vz⟩
          have RZ := Lib.hid rz
          have VZ := Lib.hid vz
          clear rz vz f44
          obtain ⟨ao1, m1, c1, HV1, _⟩ := RZ.out.v1
          go_wp2_with (go_at_call 49; refine (get_any G.wb 12 _ wz HV1).mono ?_; rintro e w' ⟨rfl, rfl⟩)
          refine (RZ.out.write1 VZ.out HV1 (by have := HLX.out; have := u3.out; have := HKR.out; simp [be32, alenL]; have := HP.out; omega) hm).mono ?_
          rintro e wq ⟨gq, rfl, Gq, rq, vq⟩
          have RQ := Lib.hid rq
          have VQ := Lib.hid vq
          clear rq vq HV1
          go_wp2
          go_roundw
          case rel => exact ⟨j + 1, by omega, by go_num, Lib.hid ⟨Gq, lx ++ Lib.uvarint off, gq, kr ++ (lx ++ Lib.uvarint off), by have := HLX.out; have := u3.out; have := HKR.out; simp; omega, RQ.out, by rw [VQ.out]; simp⟩⟩
          case measure => simp [intOf]; omega
    · obtain rfl : j = ne := by omega
      obtain ⟨m, hm2⟩ : ∃ m, m = 4 + kr.length := ⟨_, rfl⟩
      have hmb : m < 80000000 := by have := HKR.out; omega
      have HM := Lib.hid hm2
      clear hm2
      have HLH := Lib.hid (writeLH_any wr Gr _ RR.out.wi VR.out p m (by simp [alenL, be32]; have := HP.out; have := HM.out; omega) (by have := HKR.out; have := HM.out; omega) (by have := HW.out; have := HP.out; simp; omega) hm)
      rw [RR.out.nx.wb] at HLH
      go_wp2_with fail
      refine HLH.out.mono ?_
      rintro e w7 ⟨l7, g7, k7, hk7, rfl, G7, r7, v7⟩
      have R7 := Lib.hid (RR.out.trans r7)
      have V7 := Lib.hid v7
      clear r7 v7 HLH
      go_wp2
      go_ret
      refine ⟨l7, g7, be32 m ++ ((be32 j ++ kr) ++ k7), ?_, rfl, G7, R7.out, ?_⟩
      · simp [be32, hk7]; have := HKR.out; omega
      · rw [V7.out]
        rw [spl_mid V.lf alenL (be32 j ++ kr) (be32 m) p HP.out.symm rfl]
        simp

end Go.Proofs.YtfipfoplmopkaaaGreatDoor
