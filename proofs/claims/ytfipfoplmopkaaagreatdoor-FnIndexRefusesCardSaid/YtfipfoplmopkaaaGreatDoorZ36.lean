/- writePostingsToTmpFiles, loop 6: the series' pairs. Conditions: bounds on lengths. -/
import Derived.Test.YtfipfoplmopkaaaGreatDoorZ35
import Derived.Deep.Light
import Derived.Deep.CutBlock
import Derived.Deep.CutRange
import Derived.Deep.RegionHeld3

namespace Go.Proofs.YtfipfoplmopkaaaGreatDoor
open Go.RowKit Go.Maps

def R6 (w : World) (G : Gh) (V : Vw) (F : Fx) (sf cap g no2 b5 ns db2 ob kn : Nat) (NM2 BN : List (List UInt8)) (PL : List PE) (l1 l2 lp : List UInt8) (go : Option Nat) (wx : World) : Prop :=
  ∃ G' O' ko k, k ≤ 200 ∧ L6 w G V F sf cap g no2 b5 ns db2 ob NM2 BN PL l1 l2 lp go kn ko k F.ss.length O' [] wx G'

set_option maxRecDepth 1000000 in
set_option maxHeartbeats 40000000 in
theorem ptt6 {w : World} {G : Gh} {V : Vw} {F : Fx} {pre : List UInt8} {p L : Nat} {SL : List Se} (H : Hid (PH w G V F pre p L SL)) {sf cap g no2 b5 ns db2 ob kn : Nat} {NM2 BN : List (List UInt8)} {PL : List PE} {l1 l2 lp : List UInt8} {go : Option Nat} {O0 : Ow} {w6 : World} {G6 : Gh}
    (HQ6 : Hid (L6 w G V F sf cap g no2 b5 ns db2 ob NM2 BN PL l1 l2 lp go kn 0 0 F.ss.length O0 (serBs p SL) w6 G6)) (HLEN : Hid (p + (serBs p SL).length = L))
    (ds : List Deferred) (x1 x2 x3 x4 x5 x6 x7 x8 x9 x10 x11 x12 x13 x14 x15 x16 x18 x19 x20 x21 x24 x25 x26 x27 x28 x29 x30 x31 x32 x33 x34 x35 x36 x37 x38 x39 x40 x41 x42 x43 x44 x45 x46 x47 x48 x49 x50 x51 x52 x53 x54 x55 x56 x57 x58 x59 x60 x61 x62 x63 x64 x65 x66 x67 x68 x69 x70 x71 x72 x73 x74 x75 x76 x77 x78 x79 x80 x81 x82 x83 x84 x85 x86 x87 x88 x89 x90 x91 x92 x93 x94 x95 x96 x97 x98 x99 x100 x101 x102 x103 x104 x105 x106 x107 x108 x109 x110 x111 x112 x113 x114 x115 x116 x117 x118 x119 x120 x121 x122 x123 x124 x125 x126 x127 x128 x129 x130 x131 x132 x133 x134 x135 x136 x137 x138 x139 x140 x141 x142 x143 x144 x145 x146 x147 x148 x149 x150 x151 x152 x153 x154 x155 x156 x157 x158 x159 x160 x161 x162 x163 x164 x165 x166 x167 x168 x169 x170 x171 x172 x173 x174 x175 x176 x177 x178 x179 x180 x181 x182 x183 x184 x185 x186 x187 x188 x189 x190 x191 x192 x193 x194 x195 x196 x197 x198 x199 x200 x201 x202 x203 x204 x205 x206 x207 x208 x209 x210 x211 x212 x213 x214 x215 x216 x217 x218 x219 x220 x221 x222 x223 x224 x225 x226 x227 x228 x229 x230 x231 x232 x233 x234 x235 x236 x237 x238 x239 x240 x241 x242 x243 x244 x245 x246 x247 x248 x249 x250 x251 x252 x253 x254 x255 x256 x257 x258 x259 x260 x261 x262 x263 x264 x265 x266 x267 x268 x269 x270 x271 x272 x273 x274 x275 x276 x277 x278 x279 x280 x281 x282 x283 x284 x285 x286 x287 x288 x289 x290 x291 x292 x293 x294 x295 x296 x297 x298 x299 x300 x301 x302 x303 x304 x305 x306 x307 x308 x309 x310 x311 x312 x313 x314 x315 x316 x317 x318 x319 x320 x321 x322 x323 x324 x325 x326 x327 x328 x329 x330 x331 x332 x333 x334 x335 x336 x337 x338 x339 x340 x341 x342 x343 x344 x345 x346 x347 x348 x349 x350 x351 x352 x353 x354 x355 x356 x357 x358 x359 x360 x361 : Value) (Q0 : Exit → Act → World → Prop)
    (hexit : ∀ (y2 y24 y25 y26 y27 y28 y29 y30 y31 y32 y33 y34 y35 y225 y226 y227 y228 y229 y230 y231 y232 y233 y234 y235 y236 y237 y238 y239 y240 y241 y242 y243 y244 y245 y246 y247 y248 y249 y250 y251 y252 y253 y254 y255 y256 y257 y258 y259 y260 y261 y262 y263 y264 y265 y266 y267 y268 y269 y270 y271 y272 y273 y274 y275 y276 y277 y278 y279 y280 y281 y282 y283 y284 y285 y286 y287 y288 y289 y290 : Value) (wx : World), R6 w G V F sf cap g no2 b5 ns db2 ob kn NM2 BN PL l1 l2 lp go wx → Q0 (.exit 10) ⟨(.pointer (some ⟨G.wb, 0, none⟩) :: x1 :: y2 :: x3 :: x4 :: x5 :: x6 :: x7 :: x8 :: x9 :: x10 :: x11 :: x12 :: x13 :: x14 :: x15 :: x16 :: .map (some ns) :: x18 :: x19 :: x20 :: x21 :: .map (some ob) :: .pointer (some ⟨db2, 0, none⟩) :: y24 :: y25 :: y26 :: y27 :: y28 :: y29 :: y30 :: y31 :: y32 :: y33 :: y34 :: y35 :: x36 :: x37 :: x38 :: x39 :: x40 :: x41 :: x42 :: x43 :: x44 :: x45 :: x46 :: x47 :: x48 :: x49 :: x50 :: x51 :: x52 :: x53 :: x54 :: x55 :: x56 :: x57 :: x58 :: x59 :: x60 :: x61 :: x62 :: x63 :: x64 :: x65 :: x66 :: x67 :: x68 :: x69 :: x70 :: x71 :: x72 :: x73 :: x74 :: x75 :: x76 :: x77 :: x78 :: x79 :: x80 :: x81 :: x82 :: x83 :: x84 :: x85 :: x86 :: x87 :: x88 :: x89 :: x90 :: x91 :: x92 :: x93 :: x94 :: x95 :: x96 :: x97 :: x98 :: x99 :: x100 :: x101 :: x102 :: x103 :: x104 :: x105 :: x106 :: x107 :: x108 :: x109 :: x110 :: x111 :: x112 :: x113 :: x114 :: x115 :: x116 :: x117 :: x118 :: x119 :: x120 :: x121 :: x122 :: x123 :: x124 :: x125 :: x126 :: x127 :: x128 :: x129 :: x130 :: x131 :: x132 :: x133 :: x134 :: x135 :: x136 :: x137 :: x138 :: x139 :: x140 :: x141 :: x142 :: x143 :: x144 :: x145 :: x146 :: x147 :: x148 :: x149 :: x150 :: x151 :: x152 :: x153 :: x154 :: x155 :: x156 :: x157 :: x158 :: x159 :: x160 :: x161 :: x162 :: x163 :: x164 :: x165 :: x166 :: x167 :: x168 :: x169 :: x170 :: x171 :: x172 :: x173 :: x174 :: x175 :: x176 :: x177 :: x178 :: x179 :: x180 :: x181 :: x182 :: x183 :: x184 :: x185 :: x186 :: x187 :: x188 :: x189 :: x190 :: x191 :: x192 :: x193 :: x194 :: x195 :: x196 :: x197 :: x198 :: x199 :: x200 :: x201 :: x202 :: x203 :: x204 :: x205 :: x206 :: x207 :: x208 :: x209 :: x210 :: x211 :: x212 :: x213 :: x214 :: x215 :: x216 :: x217 :: x218 :: x219 :: x220 :: x221 :: x222 :: x223 :: x224 :: y225 :: y226 :: y227 :: y228 :: y229 :: y230 :: y231 :: y232 :: y233 :: y234 :: y235 :: y236 :: y237 :: y238 :: y239 :: y240 :: y241 :: y242 :: y243 :: y244 :: y245 :: y246 :: y247 :: y248 :: y249 :: y250 :: y251 :: y252 :: y253 :: y254 :: y255 :: y256 :: y257 :: y258 :: y259 :: y260 :: y261 :: y262 :: y263 :: y264 :: y265 :: y266 :: y267 :: y268 :: y269 :: y270 :: y271 :: y272 :: y273 :: y274 :: y275 :: y276 :: y277 :: y278 :: y279 :: y280 :: y281 :: y282 :: y283 :: y284 :: y285 :: y286 :: y287 :: y288 :: y289 :: y290 :: x291 :: x292 :: x293 :: x294 :: x295 :: x296 :: x297 :: x298 :: x299 :: x300 :: x301 :: x302 :: x303 :: x304 :: x305 :: x306 :: x307 :: x308 :: x309 :: x310 :: x311 :: x312 :: x313 :: x314 :: x315 :: x316 :: x317 :: x318 :: x319 :: x320 :: x321 :: x322 :: x323 :: x324 :: x325 :: x326 :: x327 :: x328 :: x329 :: x330 :: x331 :: x332 :: x333 :: x334 :: x335 :: x336 :: x337 :: x338 :: x339 :: x340 :: x341 :: x342 :: x343 :: x344 :: x345 :: x346 :: x347 :: x348 :: x349 :: x350 :: x351 :: x352 :: x353 :: x354 :: x355 :: x356 :: x357 :: x358 :: x359 :: x360 :: x361 :: []).toArray, ds⟩ wx) :
    Code.wp Tryz.prog (Code.loop (lp95 5)) Q0 ⟨(.pointer (some ⟨G.wb, 0, none⟩) :: x1 :: x2 :: x3 :: x4 :: x5 :: x6 :: x7 :: x8 :: x9 :: x10 :: x11 :: x12 :: x13 :: x14 :: x15 :: x16 :: .map (some ns) :: x18 :: x19 :: x20 :: x21 :: .map (some ob) :: .pointer (some ⟨db2, 0, none⟩) :: x24 :: x25 :: x26 :: x27 :: x28 :: x29 :: x30 :: x31 :: x32 :: x33 :: x34 :: x35 :: x36 :: x37 :: x38 :: x39 :: x40 :: x41 :: x42 :: x43 :: x44 :: x45 :: x46 :: x47 :: x48 :: x49 :: x50 :: x51 :: x52 :: x53 :: x54 :: x55 :: x56 :: x57 :: x58 :: x59 :: x60 :: x61 :: x62 :: x63 :: x64 :: x65 :: x66 :: x67 :: x68 :: x69 :: x70 :: x71 :: x72 :: x73 :: x74 :: x75 :: x76 :: x77 :: x78 :: x79 :: x80 :: x81 :: x82 :: x83 :: x84 :: x85 :: x86 :: x87 :: x88 :: x89 :: x90 :: x91 :: x92 :: x93 :: x94 :: x95 :: x96 :: x97 :: x98 :: x99 :: x100 :: x101 :: x102 :: x103 :: x104 :: x105 :: x106 :: x107 :: x108 :: x109 :: x110 :: x111 :: x112 :: x113 :: x114 :: x115 :: x116 :: x117 :: x118 :: x119 :: x120 :: x121 :: x122 :: x123 :: x124 :: x125 :: x126 :: x127 :: x128 :: x129 :: x130 :: x131 :: x132 :: x133 :: x134 :: x135 :: x136 :: x137 :: x138 :: x139 :: x140 :: x141 :: x142 :: x143 :: x144 :: x145 :: x146 :: x147 :: x148 :: x149 :: x150 :: x151 :: x152 :: x153 :: x154 :: x155 :: x156 :: x157 :: x158 :: x159 :: x160 :: x161 :: x162 :: x163 :: x164 :: x165 :: x166 :: x167 :: x168 :: x169 :: x170 :: x171 :: x172 :: x173 :: x174 :: x175 :: x176 :: x177 :: x178 :: x179 :: x180 :: x181 :: x182 :: x183 :: x184 :: x185 :: x186 :: x187 :: x188 :: x189 :: x190 :: x191 :: x192 :: x193 :: x194 :: x195 :: x196 :: x197 :: x198 :: x199 :: x200 :: x201 :: x202 :: x203 :: x204 :: x205 :: x206 :: x207 :: x208 :: x209 :: x210 :: x211 :: x212 :: x213 :: x214 :: x215 :: x216 :: x217 :: x218 :: x219 :: x220 :: x221 :: x222 :: x223 :: x224 :: x225 :: x226 :: x227 :: x228 :: x229 :: x230 :: x231 :: x232 :: x233 :: x234 :: x235 :: x236 :: x237 :: x238 :: x239 :: x240 :: x241 :: x242 :: x243 :: x244 :: x245 :: x246 :: x247 :: x248 :: x249 :: x250 :: x251 :: x252 :: x253 :: x254 :: x255 :: x256 :: x257 :: x258 :: x259 :: x260 :: x261 :: x262 :: x263 :: x264 :: x265 :: x266 :: x267 :: x268 :: x269 :: x270 :: x271 :: x272 :: x273 :: x274 :: x275 :: x276 :: x277 :: x278 :: x279 :: x280 :: x281 :: x282 :: x283 :: x284 :: x285 :: x286 :: x287 :: x288 :: x289 :: x290 :: x291 :: x292 :: x293 :: x294 :: x295 :: x296 :: x297 :: x298 :: x299 :: x300 :: x301 :: x302 :: x303 :: x304 :: x305 :: x306 :: x307 :: x308 :: x309 :: x310 :: x311 :: x312 :: x313 :: x314 :: x315 :: x316 :: x317 :: x318 :: x319 :: x320 :: x321 :: x322 :: x323 :: x324 :: x325 :: x326 :: x327 :: x328 :: x329 :: x330 :: x331 :: x332 :: x333 :: x334 :: x335 :: x336 :: x337 :: x338 :: x339 :: x340 :: x341 :: x342 :: x343 :: x344 :: x345 :: x346 :: x347 :: x348 :: x349 :: x350 :: x351 :: x352 :: x353 :: x354 :: x355 :: x356 :: x357 :: x358 :: x359 :: x360 :: x361 :: []).toArray, ds⟩ w6 := by
  have HLL := H.out.ll
  conv => arg 2; arg 1; whnf
  go_loopg [] SL.length (fun m ws => ∃ j pos, SL.length - j ≤ m ∧ j ≤ SL.length ∧ Hid (pos + (serBs pos (SL.drop j)).length = L) ∧ Hid (∃ G' O' ko k, k ≤ seN (SL.take j) ∧ ko ≤ seN (SL.take j) ∧ L6 w G V F sf cap g no2 b5 ns db2 ob NM2 BN PL l1 l2 lp go kn ko k F.ss.length O' (serBs pos (SL.drop j)) ws G'))
  case atStart => exact ⟨0, p, Nat.le_refl _, Nat.zero_le _, by rw [List.drop_zero]; exact HLEN, Lib.hid ⟨G6, O0, 0, 0, Nat.zero_le _, Nat.zero_le _, by rw [List.drop_zero]; exact HQ6.out⟩⟩
  case round =>
  clear HQ6 HLEN
  obtain ⟨j, pos, hjm, hj, HPS, HR⟩ := hrel
  by_cases hlt : j < SL.length
  case neg =>
    obtain ⟨G7, O7, ko, k, hk1, hk2, hl⟩ := HR.out
    have hl0 : serBs pos (SL.drop j) = [] := by rw [List.drop_of_length_le (by go_light; omega)]; rfl
    rw [hl0] at hl
    have hd0 := hl.d
    have hk200 : k ≤ 200 := Nat.le_trans (Nat.le_trans hk1 (seN_take_le _ _)) H.out.sn
    have HQ := Lib.hid hl
    clear hl hl0 HR
    go_wp2_with fail
    refine (dbLen_any db2 F.b 0 [] wr hd0 rfl).mono ?_
    rintro e w' ⟨rfl, rfl⟩
    go_wp2_with fail
    exact ⟨G7, O7, ko, k, hk200, HQ.out⟩
  case pos =>
    obtain ⟨G7, O7, ko, k, hk1, hk2, hq⟩ := HR.out
    have hps := HPS.out
    have hdr := List.drop_eq_getElem_cons hlt
    obtain ⟨s, hs⟩ : ∃ s, s = SL[j] := ⟨_, rfl⟩
    have hok : Se.ok F.ss.length s := H.out.ok s (hs ▸ List.getElem_mem hlt)
    have hsn : seN (SL.take (j + 1)) = seN (SL.take j) + s.ps.length := by rw [seN_drop hlt, hs]
    obtain ⟨rest, hrest⟩ : ∃ rest, rest = serBs (pos + padN pos 16 + s.d.length) (SL.drop (j + 1)) := ⟨_, rfl⟩
    have hl : serBs pos (SL.drop j) = zeros (padN pos 16) ++ (s.d ++ rest) := by rw [hdr, serBs, ← hs, hrest]
    obtain ⟨u, r0, hur, hu0⟩ := s.head rest
    rw [hur] at hl
    obtain ⟨q, hq16⟩ : ∃ q, pos + padN pos 16 = 16 * q := ⟨(pos + padN pos 16) / 16, by have := padN_mod pos; go_light; omega⟩
    obtain ⟨N0, hN0⟩ : ∃ N0, N0 = (serBs pos (SL.drop j)).length := ⟨_, rfl⟩
    obtain ⟨N1, hN1⟩ : ∃ N1, N1 = (u :: r0).length := ⟨_, rfl⟩
    have hl16 : 16 * q + N1 = L := by rw [hl] at hps; simp at hps hN1; go_light; omega
    have hd0 := hq.d
    have hd1 : DB wr db2 F.b (zeros (padN pos 16) ++ u :: r0) := hl ▸ hd0
    have hpos0 : (0 : Int) < N0 := by rw [hl] at hN0; simp at hN0; go_light; omega
    have HQ := Lib.hid hq
    have D0 := Lib.hid hd0
    have D1 := Lib.hid hd1
    have HUR := Lib.hid hur
    have HREST := Lib.hid hrest
    have HN0 := Lib.hid hN0
    have HN1 := Lib.hid hN1
    have HQ16 := Lib.hid hq16
    have HOK := Lib.hid hok
    have HSN := Lib.hid hsn
    clear hdr hs hok hl hur hps hd0 hd1 hq hrest hN0 hN1 hq16 HR HPS hsn
    go_wp2_with fail
    refine (dbLen_any db2 F.b N0 _ wr D0.out HN0.out).mono ?_
    rintro e w' ⟨rfl, rfl⟩
    go_wp2_with fail
    refine (dbPad_any db2 F.b (padN pos 16) u r0 wr D1.out hu0).mono ?_
    rintro e w7 ⟨rfl, d7, k7⟩
    obtain ⟨G8, hq7⟩ := HQ.out.dbs k7 d7
    have HQ7 := Lib.hid hq7
    have D7 : Hid (DB w7.drew db2 F.b (u :: r0)) := Lib.hid (d7.kept (Kept.drew (fun _ _ => False) _) (fun _ => id) (fun _ _ => id))
    have f6 := hq7.S.P.f6 6 (by decide) (by decide) (by decide) H.out.h6
    have zc : IntKind.u64.wrap (N1 : Int) = N1 := by go_light; rw [IntKind.wrap_u64]; omega
    have zs : IntKind.u64.wrap ((L : Int) - N1) = 16 * (q : Int) := by go_light; rw [IntKind.wrap_u64]; omega
    clear d7 k7 hq7 D0 D1 HQ hpos0
    go_upto_region 56 with fail
    go_region_held3 (fun w' => w'.cell? ⟨G.wb, 6, none⟩ = some (.int .u64 L)) (first | exact f6 | go_keep) (first | (go_at_call 135; refine (dbLen_any db2 F.b N1 _ _ D7.out HN1.out).mono ?_; rintro e w' ⟨rfl, rfl⟩))
    obtain ⟨w8, hw8⟩ : ∃ w8, w8 = w7.drew := ⟨_, rfl⟩
    have HQ8 : Hid (L6 w G V F sf cap g no2 b5 ns db2 ob NM2 BN PL l1 l2 lp go kn ko k F.ss.length O7 (u :: r0) w8 G8) := Lib.hid (by rw [hw8]; exact HQ7.out.drewN 1)
    rw [← hw8]
    obtain ⟨nc, hnc⟩ : ∃ nc, nc = s.c.length := ⟨_, rfl⟩
    have hnc9 : nc < 100000000 := by rw [hnc]; exact HOK.out.c
    have hd8 : DB w8 db2 F.b (Lib.uvarint nc ++ (s.c ++ (s.sm ++ rest))) := by
      have := HQ8.out.d
      rw [← HUR.out] at this
      rw [hnc]
      simpa [Se.d] using this
    have D8 := Lib.hid hd8
    have HNC := Lib.hid hnc
    clear hw8 HQ7 D7 zc zs f6 hd8 hnc
    go_wp2_with fail
    refine (dbU_any db2 F.b nc _ w8 D8.out (by go_light; omega) (List.prefix_append _ _)).mono ?_
    rintro e w9 ⟨rfl, d9, k9⟩
    rw [List.drop_left] at d9
    obtain ⟨G9, hq9⟩ := HQ8.out.dbs k9 d9
    obtain ⟨pn, hpn⟩ : ∃ pn, pn = s.ps.length := ⟨_, rfl⟩
    have hpn9 : pn < 1000000 := by rw [hpn]; exact HOK.out.l
    have hl9 : s.c ++ (s.sm ++ rest) = Lib.uvarint pn ++ (pairsB s.ps ++ (s.tl ++ (s.sm ++ rest))) := by rw [hpn]; simp [Se.c]
    obtain ⟨N2, hN2⟩ : ∃ N2, N2 = (s.c ++ (s.sm ++ rest)).length := ⟨_, rfl⟩
    have D9 := Lib.hid d9
    have D9' : Hid (DB w9 db2 F.b (Lib.uvarint pn ++ (pairsB s.ps ++ (s.tl ++ (s.sm ++ rest))))) := Lib.hid (hl9 ▸ d9)
    have HQ9 := Lib.hid hq9
    have HN2 := Lib.hid hN2
    have HPN := Lib.hid hpn
    have HL9 := Lib.hid hl9
    clear d9 k9 hq9 HQ8 D8 hN2 hpn hl9
    go_wp2_with fail
    refine (dbLen_any db2 F.b N2 _ w9 D9.out HN2.out).mono ?_
    rintro e w' ⟨rfl, rfl⟩
    go_wp2_with fail
    refine (dbU_any db2 F.b pn _ w9 D9'.out (by go_light; omega) (List.prefix_append _ _)).mono ?_
    rintro e w10 ⟨rfl, d10, k10⟩
    rw [List.drop_left] at d10
    obtain ⟨G10, hq10⟩ := HQ9.out.dbs k10 d10
    have HQ10 := Lib.hid hq10
    clear d10 k10 hq10 HQ9 D9 D9'
    go_wp2_with fail
    refine ptt7 H hlt HOK HSN HPN hpn9 (by go_light; omega) hk1 hk2 HQ10 _ _ _ _ _ _ _ _ _ _ _ _ _ _ _ _ _ _ _ _ _ _ _ _ _ _ _ _ _ _ _ _ _ _ _ _ _ _ _ _ _ _ _ _ _ _ _ _ _ _ _ _ _ _ _ _ _ _ _ _ _ _ _ _ _ _ _ _ _ _ _ _ _ _ _ _ _ _ _ _ _ _ _ _ _ _ _ _ _ _ _ _ _ _ _ _ _ _ _ _ _ _ _ _ _ _ _ _ _ _ _ _ _ _ _ _ _ _ _ _ _ _ _ _ _ _ _ _ _ _ _ _ _ _ _ _ _ _ _ _ _ _ _ _ _ _ _ _ _ _ _ _ _ _ _ _ _ _ _ _ _ _ _ _ _ _ _ _ _ _ _ _ _ _ _ _ _ _ _ _ _ _ _ _ _ _ _ _ _ _ _ _ _ _ _ _ _ _ _ _ _ _ _ _ _ _ _ _ _ _ _ _ _ _ _ _ _ _ _ _ _ _ _ _ _ _ _ _ _ _ _ _ _ _ _ _ _ _ _ _ _ _ _ _ _ _ _ _ _ _ _ _ _ _ _ _ _ _ _ _ _ _ _ _ _ _ _ _ _ _ _ _ _ _ _ _ _ _ _ _ _ _ _ _ _ _ _ _ _ _ _ _ _ _ _ _ _ _ _ _ _ _ _ _ _ _ _ _ _ _ _ _ _ _ _ _ _ _ _ _ _ _ _ _ _ _ _ _ _ _ _ _ _ _ _ _ _ _ _ _ _ _ _ _ _ _ _ _ _ _ _ _ _ _ _ _ _ _ ?_
    intro z28 z29 z30 z31 z32 z33 z34 z239 z240 z241 z242 z243 z244 z245 z246 z247 z248 z249 z250 z251 z252 z253 z254 z255 z256 z257 z258 z259 z260 z261 z262 z263 z264 z265 z266 z267 z268 z269 z270 z271 z272 z273 z274 z275 z276 z277 z278 z279 wz HR7
    obtain ⟨G11, O11, ko1, k1, hk11, hk12, hq⟩ := HR7.out
    have HQ := Lib.hid hq
    obtain ⟨N3, hN3⟩ : ∃ N3, N3 = (s.tl ++ (s.sm ++ rest)).length := ⟨_, rfl⟩
    have hd3 := hq.d
    have h4 := HOK.out.s4
    have hdr9 : (s.tl ++ (s.sm ++ rest)).drop (s.tl.length + 4) = rest := by
      rw [← List.append_assoc, List.drop_append_of_le_length (by simp; omega), List.drop_of_length_le (by simp; omega)]; rfl
    have hN23 : N2 = (Lib.uvarint pn).length + ((pairsB s.ps).length + N3) := by rw [HN2.out, HL9.out, hN3]; simp
    have hnc2 : nc = (Lib.uvarint pn).length + ((pairsB s.ps).length + s.tl.length) := by rw [HNC.out, HPN.out]; simp [Se.c]
    have hN3le : s.tl.length + 4 ≤ N3 := by rw [hN3]; simp; omega
    have hL29 := HLL
    have hN2L : N2 ≤ L := by
      have h1 := HN1.out
      rw [← HUR.out] at h1
      have h2 := HN2.out
      simp [Se.d] at h1 h2
      go_light; omega
    have hsk := dbSkip_any db2 F.b (s.tl.length + 4) _ wz hd3 (by rw [← hN3]; exact hN3le)
    rw [show ((s.tl.length + 4 : Nat) : Int) = (nc : Int) - ((N2 : Int) - N3) + 4 by go_light; omega, hdr9] at hsk
    have HSK := Lib.hid hsk
    have HN3 := Lib.hid hN3
    have hb1 : (N3 : Int) ≤ N2 := by go_light; omega
    have D3 := Lib.hid hd3
    clear hq hsk hdr9 hN23 hnc2 hN3le hN3 hd3 h4 HQ10 
    go_wp2_with fail
    refine (dbLen_any db2 F.b N3 _ wz D3.out HN3.out).mono ?_
    rintro e w' ⟨rfl, rfl⟩
    go_wp2_with fail
    refine HSK.out.mono ?_
    rintro e w12 ⟨rfl, d12, k12⟩
    obtain ⟨G12, hq12⟩ := HQ.out.dbs k12 d12
    have HQ12 := Lib.hid hq12
    have D12 := Lib.hid d12
    clear d12 k12 hq12 HQ HSK D3
    go_wp2_with fail
    refine (dbErr_any db2 F.b _ w12 D12.out).mono ?_
    rintro e w' ⟨rfl, rfl⟩
    go_wp2_with fail
    go_roundg (SL.length - (j + 1))
    case measure => go_light; omega
    case rel =>
      go_light
      refine ⟨j + 1, pos + padN pos 16 + s.d.length, Nat.le_refl _, hlt, Lib.hid ?_, Lib.hid ⟨G12, O11, ko1, k1, hk11, hk12, ?_⟩⟩
      · have h1 := HN1.out
        rw [← HUR.out] at h1
        have h2 := HQ16.out
        rw [HREST.out] at h1
        simp at h1
        omega
      · rw [← HREST.out]; exact HQ12.out

end Go.Proofs.YtfipfoplmopkaaaGreatDoor
