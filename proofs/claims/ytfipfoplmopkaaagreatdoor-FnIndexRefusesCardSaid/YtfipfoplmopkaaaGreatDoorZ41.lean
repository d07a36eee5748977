/- writePostingsToTmpFiles, loop 3: batch after batch. Conditions: bounds on lengths. -/
import Derived.Test.YtfipfoplmopkaaaGreatDoorZ33
import Derived.Test.YtfipfoplmopkaaaGreatDoorZ34
import Derived.Test.YtfipfoplmopkaaaGreatDoorZ36
import Derived.Test.YtfipfoplmopkaaaGreatDoorZ40
import Derived.Deep.Light
import Derived.Deep.CutBlock
import Derived.Deep.CutRange
import Derived.Deep.RegionHeld3

namespace Go.Proofs.YtfipfoplmopkaaaGreatDoor
open Go.RowKit Go.Maps

def R3 (w : World) (G : Gh) (V : Vw) (F : Fx) (sf cap n : Nat) (wx : World) : Prop :=
  ∃ Gr PL l1 l2 lp go, PT w G V F sf cap wx Gr PL l1 l2 lp go ∧ 0 < PL.length ∧ PL.length ≤ 1 + 200 * n

set_option maxRecDepth 1000000 in
set_option maxHeartbeats 40000000 in
theorem ptt3 {w : World} {G : Gh} {V : Vw} {F : Fx} {pre : List UInt8} {p L : Nat} {SL : List Se} (H : Hid (PH w G V F pre p L SL)) {sf cap g : Nat} {NM : List (List UInt8)} {PL : List PE} {l1 l2 lp : List UInt8} {go : Option Nat} {n c mp : Nat} {w11 : World} {G11 : Gh}
    (hcap : L ≤ cap) (HL : Hid (L = V.lf.length)) (HGS : Hid (g ≠ sf)) (HMP : Hid (mp = SL.length)) (hs200 : mp ≤ 40000) (hnc : n ≤ c) (hn200 : n ≤ 200) (HNM : Hid (NM.length = n)) (HPL : Hid (PL.length = 1))
    (HPT : Hid (PT w G V F sf cap w11 G11 PL l1 l2 lp go)) (HNR : Hid (NR w w11 G11 V g 0 NM))
    (ds : List Deferred) (x1 x2 x4 x5 x7 x8 x9 x10 x11 x12 x13 x15 x16 x17 x18 x19 x20 x21 x22 x23 x24 x25 x26 x27 x28 x29 x30 x31 x32 x33 x34 x35 x36 x37 x38 x39 x40 x41 x42 x43 x44 x45 x46 x47 x48 x49 x50 x51 x52 x53 x54 x55 x56 x57 x58 x59 x60 x61 x62 x63 x64 x65 x66 x67 x68 x69 x70 x71 x72 x73 x74 x75 x76 x77 x78 x79 x80 x81 x82 x83 x84 x85 x86 x87 x88 x89 x90 x91 x92 x93 x94 x95 x96 x97 x98 x99 x100 x101 x102 x103 x104 x105 x106 x107 x108 x109 x110 x111 x112 x113 x114 x115 x116 x117 x118 x119 x120 x121 x122 x123 x124 x125 x126 x127 x128 x129 x130 x131 x132 x133 x134 x135 x136 x137 x138 x139 x140 x141 x142 x143 x144 x145 x146 x147 x148 x149 x150 x151 x152 x153 x154 x155 x156 x157 x158 x159 x160 x161 x162 x163 x164 x165 x166 x167 x168 x169 x170 x171 x172 x173 x174 x175 x176 x177 x178 x179 x180 x181 x182 x183 x184 x185 x186 x187 x188 x189 x190 x191 x192 x193 x194 x195 x196 x197 x198 x199 x200 x201 x202 x203 x204 x205 x206 x207 x208 x209 x210 x211 x212 x213 x214 x215 x216 x217 x218 x219 x220 x221 x222 x223 x224 x225 x226 x227 x228 x229 x230 x231 x232 x233 x234 x235 x236 x237 x238 x239 x240 x241 x242 x243 x244 x245 x246 x247 x248 x249 x250 x251 x252 x253 x254 x255 x256 x257 x258 x259 x260 x261 x262 x263 x264 x265 x266 x267 x268 x269 x270 x271 x272 x273 x274 x275 x276 x277 x278 x279 x280 x281 x282 x283 x284 x285 x286 x287 x288 x289 x290 x291 x292 x293 x294 x295 x296 x297 x298 x299 x300 x301 x302 x303 x304 x305 x306 x307 x308 x309 x310 x311 x312 x313 x314 x315 x316 x317 x318 x319 x320 x321 x322 x323 x324 x325 x326 x327 x328 x329 x330 x331 x332 x333 x334 x335 x336 x337 x338 x339 x340 x341 x342 x343 x344 x345 x346 x347 x348 x349 x350 x351 x352 x353 x354 x355 x356 x357 x358 x359 x360 x361 : Value) (Q0 : Exit → Act → World → Prop)
    (hexit : ∀ (y2 y3 y15 y16 y17 y19 y20 y21 y22 y23 y24 y25 y26 y27 y28 y29 y30 y31 y32 y33 y34 y35 y37 y38 y39 y40 y41 y43 y44 y45 y46 y144 y145 y146 y147 y148 y149 y150 y151 y152 y153 y154 y155 y156 y157 y158 y159 y160 y161 y162 y163 y164 y165 y166 y167 y168 y169 y170 y171 y172 y173 y174 y175 y176 y177 y178 y179 y180 y181 y182 y183 y184 y185 y186 y187 y188 y189 y190 y191 y192 y193 y194 y195 y196 y197 y198 y199 y200 y201 y202 y203 y204 y205 y206 y207 y208 y209 y210 y211 y212 y213 y214 y215 y216 y217 y218 y219 y220 y221 y222 y223 y224 y225 y226 y227 y228 y229 y230 y231 y232 y233 y234 y235 y236 y237 y238 y239 y240 y241 y242 y243 y244 y245 y246 y247 y248 y249 y250 y251 y252 y253 y254 y255 y256 y257 y258 y259 y260 y261 y262 y263 y264 y265 y266 y267 y268 y269 y270 y271 y272 y273 y274 y275 y276 y277 y278 y279 y280 y281 y282 y283 y284 y285 y286 y287 y288 y289 y290 y291 y292 y293 y294 y295 y296 y297 y298 y299 y300 y301 y302 y303 y304 y305 y306 y307 y308 y309 y310 y311 y312 y313 y314 y315 y316 y317 y318 y319 y320 y321 y322 y323 y324 y325 y326 y327 y328 y329 y330 y331 y332 y333 y334 y335 y336 y337 y338 y339 y340 y341 y342 y343 y344 y345 y346 y347 y348 y349 y350 y351 y352 y353 y354 y355 y356 y357 y358 y359 y360 y361 : Value) (wx : World), R3 w G V F sf cap n wx → Q0 (.exit 4) ⟨(.pointer (some ⟨G.wb, 0, none⟩) :: x1 :: y2 :: y3 :: x4 :: x5 :: .pointer (some ⟨sf, 0, none⟩) :: x7 :: x8 :: x9 :: x10 :: x11 :: x12 :: x13 :: .int .u64 mp :: y15 :: y16 :: y17 :: x18 :: y19 :: y20 :: y21 :: y22 :: y23 :: y24 :: y25 :: y26 :: y27 :: y28 :: y29 :: y30 :: y31 :: y32 :: y33 :: y34 :: y35 :: x36 :: y37 :: y38 :: y39 :: y40 :: y41 :: x42 :: y43 :: y44 :: y45 :: y46 :: x47 :: x48 :: x49 :: x50 :: x51 :: x52 :: x53 :: x54 :: x55 :: x56 :: x57 :: x58 :: x59 :: x60 :: x61 :: x62 :: x63 :: x64 :: x65 :: x66 :: x67 :: x68 :: x69 :: x70 :: x71 :: x72 :: x73 :: x74 :: x75 :: x76 :: x77 :: x78 :: x79 :: x80 :: x81 :: x82 :: x83 :: x84 :: x85 :: x86 :: x87 :: x88 :: x89 :: x90 :: x91 :: x92 :: x93 :: x94 :: x95 :: x96 :: x97 :: x98 :: x99 :: x100 :: x101 :: x102 :: x103 :: x104 :: x105 :: x106 :: x107 :: x108 :: x109 :: x110 :: x111 :: x112 :: x113 :: x114 :: x115 :: x116 :: x117 :: x118 :: x119 :: x120 :: x121 :: x122 :: x123 :: x124 :: x125 :: x126 :: x127 :: x128 :: x129 :: x130 :: x131 :: x132 :: x133 :: x134 :: x135 :: x136 :: x137 :: x138 :: x139 :: x140 :: x141 :: x142 :: x143 :: y144 :: y145 :: y146 :: y147 :: y148 :: y149 :: y150 :: y151 :: y152 :: y153 :: y154 :: y155 :: y156 :: y157 :: y158 :: y159 :: y160 :: y161 :: y162 :: y163 :: y164 :: y165 :: y166 :: y167 :: y168 :: y169 :: y170 :: y171 :: y172 :: y173 :: y174 :: y175 :: y176 :: y177 :: y178 :: y179 :: y180 :: y181 :: y182 :: y183 :: y184 :: y185 :: y186 :: y187 :: y188 :: y189 :: y190 :: y191 :: y192 :: y193 :: y194 :: y195 :: y196 :: y197 :: y198 :: y199 :: y200 :: y201 :: y202 :: y203 :: y204 :: y205 :: y206 :: y207 :: y208 :: y209 :: y210 :: y211 :: y212 :: y213 :: y214 :: y215 :: y216 :: y217 :: y218 :: y219 :: y220 :: y221 :: y222 :: y223 :: y224 :: y225 :: y226 :: y227 :: y228 :: y229 :: y230 :: y231 :: y232 :: y233 :: y234 :: y235 :: y236 :: y237 :: y238 :: y239 :: y240 :: y241 :: y242 :: y243 :: y244 :: y245 :: y246 :: y247 :: y248 :: y249 :: y250 :: y251 :: y252 :: y253 :: y254 :: y255 :: y256 :: y257 :: y258 :: y259 :: y260 :: y261 :: y262 :: y263 :: y264 :: y265 :: y266 :: y267 :: y268 :: y269 :: y270 :: y271 :: y272 :: y273 :: y274 :: y275 :: y276 :: y277 :: y278 :: y279 :: y280 :: y281 :: y282 :: y283 :: y284 :: y285 :: y286 :: y287 :: y288 :: y289 :: y290 :: y291 :: y292 :: y293 :: y294 :: y295 :: y296 :: y297 :: y298 :: y299 :: y300 :: y301 :: y302 :: y303 :: y304 :: y305 :: y306 :: y307 :: y308 :: y309 :: y310 :: y311 :: y312 :: y313 :: y314 :: y315 :: y316 :: y317 :: y318 :: y319 :: y320 :: y321 :: y322 :: y323 :: y324 :: y325 :: y326 :: y327 :: y328 :: y329 :: y330 :: y331 :: y332 :: y333 :: y334 :: y335 :: y336 :: y337 :: y338 :: y339 :: y340 :: y341 :: y342 :: y343 :: y344 :: y345 :: y346 :: y347 :: y348 :: y349 :: y350 :: y351 :: y352 :: y353 :: y354 :: y355 :: y356 :: y357 :: y358 :: y359 :: y360 :: y361 :: []).toArray, ds⟩ wx) :
    Code.wp Tryz.prog (Code.loop (lp95 2)) Q0 ⟨(.pointer (some ⟨G.wb, 0, none⟩) :: x1 :: x2 :: .slice (some ⟨g, 0, none⟩) n c :: x4 :: x5 :: .pointer (some ⟨sf, 0, none⟩) :: x7 :: x8 :: x9 :: x10 :: x11 :: x12 :: x13 :: .int .u64 mp :: x15 :: x16 :: x17 :: x18 :: x19 :: x20 :: x21 :: x22 :: x23 :: x24 :: x25 :: x26 :: x27 :: x28 :: x29 :: x30 :: x31 :: x32 :: x33 :: x34 :: x35 :: x36 :: x37 :: x38 :: x39 :: x40 :: x41 :: x42 :: x43 :: x44 :: x45 :: x46 :: x47 :: x48 :: x49 :: x50 :: x51 :: x52 :: x53 :: x54 :: x55 :: x56 :: x57 :: x58 :: x59 :: x60 :: x61 :: x62 :: x63 :: x64 :: x65 :: x66 :: x67 :: x68 :: x69 :: x70 :: x71 :: x72 :: x73 :: x74 :: x75 :: x76 :: x77 :: x78 :: x79 :: x80 :: x81 :: x82 :: x83 :: x84 :: x85 :: x86 :: x87 :: x88 :: x89 :: x90 :: x91 :: x92 :: x93 :: x94 :: x95 :: x96 :: x97 :: x98 :: x99 :: x100 :: x101 :: x102 :: x103 :: x104 :: x105 :: x106 :: x107 :: x108 :: x109 :: x110 :: x111 :: x112 :: x113 :: x114 :: x115 :: x116 :: x117 :: x118 :: x119 :: x120 :: x121 :: x122 :: x123 :: x124 :: x125 :: x126 :: x127 :: x128 :: x129 :: x130 :: x131 :: x132 :: x133 :: x134 :: x135 :: x136 :: x137 :: x138 :: x139 :: x140 :: x141 :: x142 :: x143 :: x144 :: x145 :: x146 :: x147 :: x148 :: x149 :: x150 :: x151 :: x152 :: x153 :: x154 :: x155 :: x156 :: x157 :: x158 :: x159 :: x160 :: x161 :: x162 :: x163 :: x164 :: x165 :: x166 :: x167 :: x168 :: x169 :: x170 :: x171 :: x172 :: x173 :: x174 :: x175 :: x176 :: x177 :: x178 :: x179 :: x180 :: x181 :: x182 :: x183 :: x184 :: x185 :: x186 :: x187 :: x188 :: x189 :: x190 :: x191 :: x192 :: x193 :: x194 :: x195 :: x196 :: x197 :: x198 :: x199 :: x200 :: x201 :: x202 :: x203 :: x204 :: x205 :: x206 :: x207 :: x208 :: x209 :: x210 :: x211 :: x212 :: x213 :: x214 :: x215 :: x216 :: x217 :: x218 :: x219 :: x220 :: x221 :: x222 :: x223 :: x224 :: x225 :: x226 :: x227 :: x228 :: x229 :: x230 :: x231 :: x232 :: x233 :: x234 :: x235 :: x236 :: x237 :: x238 :: x239 :: x240 :: x241 :: x242 :: x243 :: x244 :: x245 :: x246 :: x247 :: x248 :: x249 :: x250 :: x251 :: x252 :: x253 :: x254 :: x255 :: x256 :: x257 :: x258 :: x259 :: x260 :: x261 :: x262 :: x263 :: x264 :: x265 :: x266 :: x267 :: x268 :: x269 :: x270 :: x271 :: x272 :: x273 :: x274 :: x275 :: x276 :: x277 :: x278 :: x279 :: x280 :: x281 :: x282 :: x283 :: x284 :: x285 :: x286 :: x287 :: x288 :: x289 :: x290 :: x291 :: x292 :: x293 :: x294 :: x295 :: x296 :: x297 :: x298 :: x299 :: x300 :: x301 :: x302 :: x303 :: x304 :: x305 :: x306 :: x307 :: x308 :: x309 :: x310 :: x311 :: x312 :: x313 :: x314 :: x315 :: x316 :: x317 :: x318 :: x319 :: x320 :: x321 :: x322 :: x323 :: x324 :: x325 :: x326 :: x327 :: x328 :: x329 :: x330 :: x331 :: x332 :: x333 :: x334 :: x335 :: x336 :: x337 :: x338 :: x339 :: x340 :: x341 :: x342 :: x343 :: x344 :: x345 :: x346 :: x347 :: x348 :: x349 :: x350 :: x351 :: x352 :: x353 :: x354 :: x355 :: x356 :: x357 :: x358 :: x359 :: x360 :: x361 :: []).toArray, ds⟩ w11 := by
  have HLL := H.out.ll
  conv => arg 2; arg 1; whnf
  go_loopg [3] n (fun m x wr => ∃ (m1 no c3 : Nat), x = .slice (some ⟨g, no, none⟩) m1 c3 ∧ m1 ≤ c3 ∧ m1 ≤ n ∧ m1 ≤ m ∧ Hid (∃ Gr PL l1 l2 lp go NM1, PT w G V F sf cap wr Gr PL l1 l2 lp go ∧ NR w wr Gr V g no NM1 ∧ NM1.length = m1 ∧ 0 < PL.length ∧ PL.length + 200 * m1 ≤ 1 + 200 * n))
  case atStart => exact ⟨n, 0, c, rfl, hnc, Nat.le_refl _, Nat.le_refl _, Lib.hid ⟨G11, PL, l1, l2, lp, go, NM, HPT.out, HNR.out, HNM.out, by rw [HPL.out]; decide, by rw [HPL.out]; exact Nat.le_refl _⟩⟩
  case round =>
  clear HPT HNR HPL HNM
  obtain ⟨m1, no, c3, rfl, hmc, hmn, hmk, HR⟩ := hrel
  by_cases h0 : 0 < m1
  case neg =>
    obtain ⟨Gr, PL, l1, l2, lp, go, NM1, hp, hn, hl, h1, h2⟩ := HR.out
    have HF : Hid (R3 w G V F sf cap n wr) := Lib.hid ⟨Gr, PL, l1, l2, lp, go, hp, h1, by go_light; omega⟩
    clear hp hn hl HR h1 h2
    go_wp2_with fail
    exact HF.out
  case pos =>
  obtain ⟨Gr, PL, l1, l2, lp, go, NM1, hp, hn, hl, h1, h2⟩ := HR.out
  have hgs : g ≠ sf := HGS.out
  obtain ⟨wb, hwb⟩ : ∃ wb, wb = wr.alloc (.cells #[] 9) := ⟨_, rfl⟩
  obtain ⟨bb, hbb⟩ : ∃ bb, bb = wr.heap.size := ⟨_, rfl⟩
  obtain ⟨G1, hb4⟩ := B4.start hp hn hgs
  rw [← hwb, ← hbb] at hb4
  have HB4 := Lib.hid hb4
  have HL1 := Lib.hid hl
  clear hp hn hl HR hb4
  go_upto_block 6 with fail
  rw [← hwb, ← hbb]
  clear hwb hbb
  go_wp2_with fail
  refine ptt4 H HMP hs200 h0 hmc (by go_light; omega) HL1 HB4 _ _ _ _ _ _ _ _ _ _ _ _ _ _ _ _ _ _ _ _ _ _ _ _ _ _ _ _ _ _ _ _ _ _ _ _ _ _ _ _ _ _ _ _ _ _ _ _ _ _ _ _ _ _ _ _ _ _ _ _ _ _ _ _ _ _ _ _ _ _ _ _ _ _ _ _ _ _ _ _ _ _ _ _ _ _ _ _ _ _ _ _ _ _ _ _ _ _ _ _ _ _ _ _ _ _ _ _ _ _ _ _ _ _ _ _ _ _ _ _ _ _ _ _ _ _ _ _ _ _ _ _ _ _ _ _ _ _ _ _ _ _ _ _ _ _ _ _ _ _ _ _ _ _ _ _ _ _ _ _ _ _ _ _ _ _ _ _ _ _ _ _ _ _ _ _ _ _ _ _ _ _ _ _ _ _ _ _ _ _ _ _ _ _ _ _ _ _ _ _ _ _ _ _ _ _ _ _ _ _ _ _ _ _ _ _ _ _ _ _ _ _ _ _ _ _ _ _ _ _ _ _ _ _ _ _ _ _ _ _ _ _ _ _ _ _ _ _ _ _ _ _ _ _ _ _ _ _ _ _ _ _ _ _ _ _ _ _ _ _ _ _ _ _ _ _ _ _ _ _ _ _ _ _ _ _ _ _ _ _ _ _ _ _ _ _ _ _ _ _ _ _ _ _ _ _ _ _ _ _ _ _ _ _ _ _ _ _ _ _ _ _ _ _ _ _ _ _ _ _ _ _ _ _ _ _ _ _ _ _ _ _ _ _ _ _ _ _ _ _ _ _ _ _ _ _ _ _ _ ?_
  clear HB4 HL1
  intro z2 z3 z15 z16 z148 z149 z150 z151 z152 z153 z154 z155 z156 z157 z158 z159 z160 z161 z162 z163 z164 z165 z166 z167 z168 z169 z170 z171 z172 z173 z174 z175 z176 z177 z178 z179 z180 z181 z182 z183 wz4 HR4
  obtain ⟨m2, no2, c2, nb, cb, ab, Gr2, NM2, BN, rfl, rfl, hmc2, hnb0, hmb, hb, hl2, hbl⟩ := HR4
  obtain ⟨b5, rfl, hps⟩ := hb.ps hbl hnb0
  obtain ⟨G5, h5⟩ := N5.start hps
  obtain ⟨ns, hns⟩ : ∃ ns, ns = wz4.heap.size := ⟨_, rfl⟩
  obtain ⟨wn, hwn⟩ : ∃ wn, wn = wz4.alloc (.map #[] 0) := ⟨_, rfl⟩
  rw [← hns, ← hwn] at h5
  have H5 := Lib.hid h5
  have HBL := Lib.hid hbl
  have HL2 := Lib.hid hl2
  have hmm := @run_makeMap Tryz.prog
  clear hb hps h5 hbl hl2
  go_upto_block 8 with fail
  rw [← hns, ← hwn]
  clear hns hwn hmm
  go_wp2_with fail
  refine ptt5 H HBL (by go_light; omega) H5 _ _ _ _ _ _ _ _ _ _ _ _ _ _ _ _ _ _ _ _ _ _ _ _ _ _ _ _ _ _ _ _ _ _ _ _ _ _ _ _ _ _ _ _ _ _ _ _ _ _ _ _ _ _ _ _ _ _ _ _ _ _ _ _ _ _ _ _ _ _ _ _ _ _ _ _ _ _ _ _ _ _ _ _ _ _ _ _ _ _ _ _ _ _ _ _ _ _ _ _ _ _ _ _ _ _ _ _ _ _ _ _ _ _ _ _ _ _ _ _ _ _ _ _ _ _ _ _ _ _ _ _ _ _ _ _ _ _ _ _ _ _ _ _ _ _ _ _ _ _ _ _ _ _ _ _ _ _ _ _ _ _ _ _ _ _ _ _ _ _ _ _ _ _ _ _ _ _ _ _ _ _ _ _ _ _ _ _ _ _ _ _ _ _ _ _ _ _ _ _ _ _ _ _ _ _ _ _ _ _ _ _ _ _ _ _ _ _ _ _ _ _ _ _ _ _ _ _ _ _ _ _ _ _ _ _ _ _ _ _ _ _ _ _ _ _ _ _ _ _ _ _ _ _ _ _ _ _ _ _ _ _ _ _ _ _ _ _ _ _ _ _ _ _ _ _ _ _ _ _ _ _ _ _ _ _ _ _ _ _ _ _ _ _ _ _ _ _ _ _ _ _ _ _ _ _ _ _ _ _ _ _ _ _ _ _ _ _ _ _ _ _ _ _ _ _ _ _ _ _ _ _ _ _ _ _ _ _ _ _ _ _ _ _ _ _ _ _ _ _ _ _ _ _ _ _ _ _ _ ?_
  clear H5
  intro z2 z19 z20 z21 z187 z188 z189 z190 z191 z192 z193 z194 z195 z196 z197 z198 z199 z200 z201 z202 z203 z204 z205 z206 wz5 HR5
  obtain ⟨G6, kn, h6⟩ := HR5
  have H6 := Lib.hid h6
  clear h6
  have hmm := @run_makeMap Tryz.prog
  go_upto_region 52 with fail
  obtain ⟨wm, hwm⟩ : ∃ wm, wm = wz5.alloc (.map #[] 0) := ⟨_, rfl⟩
  obtain ⟨ob, hob⟩ : ∃ ob, ob = wz5.heap.size := ⟨_, rfl⟩
  obtain ⟨Gm, hm⟩ := H6.out.alloc (.map #[] 0)
  rw [← hwm] at hm
  have hobm : ob + 1 = wm.heap.size := by rw [hob, hwm]; simp
  have f6 := hm.S.P.f6 6 (by decide) (by decide) (by decide) H.out.h6
  have c5 := hm.S.P.fc
  rw [← H.out.hL] at c5
  have hsflt : sf < wm.heap.size := World.block_lt_of_cell? _ _ c5
  have hwb : G.wb < wm.heap.size := World.block_lt_of_cell? _ _ f6
  have hblt : F.b < wm.heap.size := Nat.lt_of_lt_of_le hm.S.P.bl hm.S.P.R.kp.size
  have C5 := Lib.hid hm.S.P.cf
  have hzw : IntKind.i64.wrap (L : Int) = L := IntWalk.i64_in _ (by go_light; omega)
  have HWM := Lib.hid hwm
  have HOB := Lib.hid hob
  rw [← hwm, ← hob]
  clear hwm hob hm hmm
  go_cut [23] from 184 to 217 (fun x wx => ∃ db2, x = .pointer (some ⟨db2, 0, none⟩) ∧ wm.heap.size ≤ db2 ∧ DB wx db2 F.b V.lf ∧ Kept (fun _ _ => False) wm wx)
  case first =>
    have c1d : wm.drew.cell? ⟨sf, 0, none⟩ = some (.slice (some ⟨F.b, 0, none⟩) L cap) := c5
    have c1a : (wm.alloc (.cells #[.slice none 0 0, .nilIface] 154)).drew.cell? ⟨sf, 0, none⟩ = some (.slice (some ⟨F.b, 0, none⟩) L cap) := (World.cell?_alloc_lt _ _ _ hsflt).trans c5
    go_region_held3 (fun w' => w'.cell? ⟨G.wb, 6, none⟩ = some (.int .u64 L)) (first | exact f6 | exact y2 | exact ((ss2 hwb).trans y2) | go_keep) (first | (go_at_call 129; (with_reducible refine (zzBytes_any sf F.b L cap wm.drew c1d).mono ?_); rintro e w' ⟨rfl, rfl⟩) | (go_at_call 129; (with_reducible refine (zzBytes_any sf F.b L cap (wm.alloc (.cells #[.slice none 0 0, .nilIface] 154)).drew c1a).mono ?_); rintro e w' ⟨rfl, rfl⟩) | (go_at_call 133; (with_reducible refine (newRaw_any F.b 0 L cap L wm.drew (Nat.le_refl _) hcap).mono ?_); rintro e w6 ⟨⟨c6, rfl, hc6⟩, k6⟩; have kk := (Kept.drew (fun _ _ => False) wm).trans k6 (fun _ _ _ => id); have y2 := (kk.cell G.wb 6 hwb id).trans f6; have hfin := DB.made w6 F.b 0 L c6 V.lf HL.out hc6 (rd_kept kk (fun _ _ => id) C5.out) (Nat.lt_of_lt_of_le hblt kk.size); have hsz6 := kk.size; have HF := Lib.hid (And.intro hfin.1 (kk.trans hfin.2 (fun _ _ _ => id))); clear k6 kk hfin) | (go_at_call 133; (with_reducible refine (newRaw_any F.b 0 L cap L (wm.alloc (.cells #[.slice none 0 0, .nilIface] 154)).drew (Nat.le_refl _) hcap).mono ?_); rintro e w6 ⟨⟨c6, rfl, hc6⟩, k6⟩; have kk := ((Kept.alloc (fun _ _ => False) wm (.cells #[.slice none 0 0, .nilIface] 154)).trans (Kept.drew (fun _ _ => False) _) (fun _ _ _ => id)).trans k6 (fun _ _ _ => id); have y2 := (kk.cell G.wb 6 hwb id).trans f6; have z0 : w6.cell? ⟨wm.heap.size, 0, none⟩ = some (.slice none 0 0) := (k6.cell wm.heap.size 0 (by simp) id).trans (by show World.cell? (World.alloc _ _) _ = _; rw [World.cell?_alloc_new]; rfl); have z1 : w6.cell? ⟨wm.heap.size, 1, none⟩ = some .nilIface := (k6.cell wm.heap.size 1 (by simp) id).trans (by show World.cell? (World.alloc _ _) _ = _; rw [World.cell?_alloc_new]; rfl); have z2 : w6.frozen? ⟨wm.heap.size, 0, none⟩ = false := (k6.fr wm.heap.size 0 (by simp)).trans (by simp); have z3 : w6.frozen? ⟨wm.heap.size, 1, none⟩ = false := (k6.fr wm.heap.size 1 (by simp)).trans (by simp); have hsz6 := Nat.le_refl wm.heap.size; have HF := Lib.hid (DB.made2 k6 HL.out hc6 C5.out hblt); clear k6 kk))
    all_goals
      go_wp2_with fail
      go_meet
      exact ⟨_, rfl, hsz6, HF.out.1, HF.out.2⟩
  case rest =>
  obtain ⟨db2, rfl, hdb2, hd2, hk2⟩ := hcut
  rw [HWM.out] at hk2
  have hl6 := L6.start (cnt := F.ss.length) H6.out hk2 hd2 (by go_light; rw [← HOB.out]; omega)
  obtain ⟨Gl, O0, hl6⟩ := hl6
  rw [← HOB.out] at hl6
  have HL6 := Lib.hid hl6
  have f5c := hl6.S.P.f6 5 (by decide) (by decide) (by decide) H.out.h5
  have HD2 := Lib.hid hd2
  have hpl : p ≤ V.lf.length := by rw [H.out.lf, ← H.out.hp]; simp
  have hpw : IntKind.i64.wrap (p : Int) = p := IntWalk.i64_in _ (by have := HL.out; go_light; omega)
  clear hl6 hd2 hk2 hdb2 f6 c5 hsflt hwb hblt C5 hzw HWM HOB H6 hobm
  go_wp2_with fail
  refine (dbSkip_any db2 F.b p V.lf wc HD2.out hpl).mono ?_
  rintro e w6 ⟨rfl, d6, k6⟩
  have hdrop : V.lf.drop p = serBs p SL := by rw [H.out.lf, ← H.out.hp]; simp
  rw [hdrop] at d6
  obtain ⟨G6, hq6⟩ := HL6.out.dbs k6 d6
  have HQ6 := Lib.hid hq6
  have hlen : p + (serBs p SL).length = L := by rw [HL.out, H.out.lf, ← H.out.hp]; simp
  have HLEN := Lib.hid hlen
  clear d6 k6 hq6 HL6 HD2 f5c hpw hdrop hlen hpl
  go_wp2_with fail
  refine ptt6 H HQ6 HLEN _ _ _ _ _ _ _ _ _ _ _ _ _ _ _ _ _ _ _ _ _ _ _ _ _ _ _ _ _ _ _ _ _ _ _ _ _ _ _ _ _ _ _ _ _ _ _ _ _ _ _ _ _ _ _ _ _ _ _ _ _ _ _ _ _ _ _ _ _ _ _ _ _ _ _ _ _ _ _ _ _ _ _ _ _ _ _ _ _ _ _ _ _ _ _ _ _ _ _ _ _ _ _ _ _ _ _ _ _ _ _ _ _ _ _ _ _ _ _ _ _ _ _ _ _ _ _ _ _ _ _ _ _ _ _ _ _ _ _ _ _ _ _ _ _ _ _ _ _ _ _ _ _ _ _ _ _ _ _ _ _ _ _ _ _ _ _ _ _ _ _ _ _ _ _ _ _ _ _ _ _ _ _ _ _ _ _ _ _ _ _ _ _ _ _ _ _ _ _ _ _ _ _ _ _ _ _ _ _ _ _ _ _ _ _ _ _ _ _ _ _ _ _ _ _ _ _ _ _ _ _ _ _ _ _ _ _ _ _ _ _ _ _ _ _ _ _ _ _ _ _ _ _ _ _ _ _ _ _ _ _ _ _ _ _ _ _ _ _ _ _ _ _ _ _ _ _ _ _ _ _ _ _ _ _ _ _ _ _ _ _ _ _ _ _ _ _ _ _ _ _ _ _ _ _ _ _ _ _ _ _ _ _ _ _ _ _ _ _ _ _ _ _ _ _ _ _ _ _ _ _ _ _ _ _ _ _ _ _ _ _ _ _ _ _ _ _ _ _ _ _ _ _ _ _ _ _ _ _ _ ?_
  intro z2 z24 z25 z26 z27 z28 z29 z30 z31 z32 z33 z34 z35 z225 z226 z227 z228 z229 z230 z231 z232 z233 z234 z235 z236 z237 z238 z239 z240 z241 z242 z243 z244 z245 z246 z247 z248 z249 z250 z251 z252 z253 z254 z255 z256 z257 z258 z259 z260 z261 z262 z263 z264 z265 z266 z267 z268 z269 z270 z271 z272 z273 z274 z275 z276 z277 z278 z279 z280 z281 z282 z283 z284 z285 z286 z287 z288 z289 z290 wz6 HR6
  obtain ⟨G8, O8, ko8, k8, hk8, hq8⟩ := HR6
  have H8 := Lib.hid hq8.l8
  clear hq8 HQ6 HLEN
  go_wp2_with fail
  refine ptt8 (m2 := m2) H HBL hk8 hn200 h1 (by go_light; omega) H8 _ _ _ _ _ _ _ _ _ _ _ _ _ _ _ _ _ _ _ _ _ _ _ _ _ _ _ _ _ _ _ _ _ _ _ _ _ _ _ _ _ _ _ _ _ _ _ _ _ _ _ _ _ _ _ _ _ _ _ _ _ _ _ _ _ _ _ _ _ _ _ _ _ _ _ _ _ _ _ _ _ _ _ _ _ _ _ _ _ _ _ _ _ _ _ _ _ _ _ _ _ _ _ _ _ _ _ _ _ _ _ _ _ _ _ _ _ _ _ _ _ _ _ _ _ _ _ _ _ _ _ _ _ _ _ _ _ _ _ _ _ _ _ _ _ _ _ _ _ _ _ _ _ _ _ _ _ _ _ _ _ _ _ _ _ _ _ _ _ _ _ _ _ _ _ _ _ _ _ _ _ _ _ _ _ _ _ _ _ _ _ _ _ _ _ _ _ _ _ _ _ _ _ _ _ _ _ _ _ _ _ _ _ _ _ _ _ _ _ _ _ _ _ _ _ _ _ _ _ _ _ _ _ _ _ _ _ _ _ _ _ _ _ _ _ _ _ _ _ _ _ _ _ _ _ _ _ _ _ _ _ _ _ _ _ _ _ _ _ _ _ _ _ _ _ _ _ _ _ _ _ _ _ _ _ _ _ _ _ _ _ _ _ _ _ _ _ _ _ _ _ _ _ _ _ _ _ _ _ _ _ _ _ _ _ _ _ _ _ _ _ _ _ _ _ _ _ _ _ _ _ _ _ _ _ _ _ _ _ _ _ _ _ _ _ _ _ _ _ _ _ _ _ _ _ _ _ _ _ ?_
  clear H8
  intro z2 z37 z38 z39 z40 z41 z43 z44 z45 z46 z293 z294 z295 z296 z297 z298 z299 z300 z301 z302 z303 z304 z305 z306 z307 z308 z309 z310 z311 z312 z313 z314 z315 z316 z317 z318 z319 z320 z321 z322 z323 z324 z325 z326 z327 z328 z329 z330 z331 z332 z333 z334 z335 z336 z337 z338 z339 z340 z341 z342 z343 z344 z345 z346 z347 z348 z349 z350 z351 z352 z353 z354 z355 z356 z357 z358 z359 z360 z361 wz8 HR8
  go_wp2_with fail
  go_roundg m2
  case measure => go_light; omega
  case rel =>
    go_light
    obtain ⟨G', PL, l1, l2, lp, go, q1, q2, q3⟩ := HR8
    exact ⟨m2, no2, c2, rfl, hmc2, by omega, Nat.le_refl _, Lib.hid ⟨G', PL, l1, l2, lp, go, NM2, q3.S.P, q3.S.N, HL2.out, q1, by omega⟩⟩

end Go.Proofs.YtfipfoplmopkaaaGreatDoor
