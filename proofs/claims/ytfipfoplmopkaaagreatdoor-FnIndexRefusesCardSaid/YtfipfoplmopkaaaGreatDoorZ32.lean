/- writePostingsToTmpFiles, loop 2: the series' places. Conditions: bounds on lengths. -/
import Derived.Test.YtfipfoplmopkaaaGreatDoorZ31
import Derived.Deep.Light
import Derived.Deep.CutBlock
import Derived.Deep.CutRange
import Derived.Deep.RegionHeld3

namespace Go.Proofs.YtfipfoplmopkaaaGreatDoor
open Go.RowKit Go.Maps

def R2 (w : World) (G : Gh) (V : Vw) (F : Fx) (sf cap g db : Nat) (NM : List (List UInt8)) (mp : Nat) (v : Value) (wx : World) : Prop :=
  ∃ c1 ao Gr xs, v = .slice ao mp c1 ∧ mp = xs.length ∧ OL w G V F sf cap g db NM wx Gr [] (.slice ao mp c1) xs

set_option maxRecDepth 1000000 in
set_option maxHeartbeats 40000000 in
theorem ptt2 {w : World} {G : Gh} {V : Vw} {F : Fx} {pre : List UInt8} {p L : Nat} {SL : List Se} (H : Hid (PH w G V F pre p L SL)) {sf cap g db of : Nat} {NM : List (List UInt8)} {w6 : World} {G6 : Gh}
    (HQ6 : Hid (OL w G V F sf cap g db NM w6 G6 (serBs p SL) (.slice (some ⟨of, 0, none⟩) 0 0) [])) (HLEN : Hid (p + (serBs p SL).length = L))
    (ds : List Deferred) (x1 x2 x3 x4 x5 x6 x7 x10 x11 x12 x13 x14 x15 x16 x17 x18 x19 x20 x21 x22 x23 x24 x25 x26 x27 x28 x29 x30 x31 x32 x33 x34 x35 x36 x37 x38 x39 x40 x41 x42 x43 x44 x45 x46 x47 x48 x49 x50 x51 x52 x53 x54 x55 x56 x57 x58 x59 x60 x61 x62 x63 x64 x65 x66 x67 x68 x69 x70 x71 x72 x73 x74 x75 x76 x77 x78 x79 x80 x81 x82 x83 x84 x85 x86 x87 x88 x89 x90 x91 x92 x93 x94 x95 x96 x97 x98 x99 x100 x101 x102 x103 x104 x105 x106 x107 x108 x109 x110 x111 x112 x113 x114 x115 x116 x117 x118 x119 x120 x121 x122 x123 x124 x125 x126 x127 x128 x129 x130 x131 x132 x133 x134 x135 x136 x137 x138 x139 x140 x141 x142 x143 x144 x145 x146 x147 x148 x149 x150 x151 x152 x153 x154 x155 x156 x157 x158 x159 x160 x161 x162 x163 x164 x165 x166 x167 x168 x169 x170 x171 x172 x173 x174 x175 x176 x177 x178 x179 x180 x181 x182 x183 x184 x185 x186 x187 x188 x189 x190 x191 x192 x193 x194 x195 x196 x197 x198 x199 x200 x201 x202 x203 x204 x205 x206 x207 x208 x209 x210 x211 x212 x213 x214 x215 x216 x217 x218 x219 x220 x221 x222 x223 x224 x225 x226 x227 x228 x229 x230 x231 x232 x233 x234 x235 x236 x237 x238 x239 x240 x241 x242 x243 x244 x245 x246 x247 x248 x249 x250 x251 x252 x253 x254 x255 x256 x257 x258 x259 x260 x261 x262 x263 x264 x265 x266 x267 x268 x269 x270 x271 x272 x273 x274 x275 x276 x277 x278 x279 x280 x281 x282 x283 x284 x285 x286 x287 x288 x289 x290 x291 x292 x293 x294 x295 x296 x297 x298 x299 x300 x301 x302 x303 x304 x305 x306 x307 x308 x309 x310 x311 x312 x313 x314 x315 x316 x317 x318 x319 x320 x321 x322 x323 x324 x325 x326 x327 x328 x329 x330 x331 x332 x333 x334 x335 x336 x337 x338 x339 x340 x341 x342 x343 x344 x345 x346 x347 x348 x349 x350 x351 x352 x353 x354 x355 x356 x357 x358 x359 x360 x361 : Value) (Q0 : Exit → Act → World → Prop)
    (hexit : ∀ (y2 y8 y10 y11 y12 y106 y107 y108 y109 y110 y111 y112 y113 y114 y115 y116 y117 y118 y119 y120 y121 y122 y123 y124 y125 y126 y127 y128 y129 y130 y131 y132 y133 y134 : Value) (wx : World), R2 w G V F sf cap g db NM SL.length y8 wx → Q0 (.exit 2) ⟨(.pointer (some ⟨G.wb, 0, none⟩) :: x1 :: y2 :: x3 :: x4 :: x5 :: x6 :: x7 :: y8 :: .pointer (some ⟨db, 0, none⟩) :: y10 :: y11 :: y12 :: x13 :: x14 :: x15 :: x16 :: x17 :: x18 :: x19 :: x20 :: x21 :: x22 :: x23 :: x24 :: x25 :: x26 :: x27 :: x28 :: x29 :: x30 :: x31 :: x32 :: x33 :: x34 :: x35 :: x36 :: x37 :: x38 :: x39 :: x40 :: x41 :: x42 :: x43 :: x44 :: x45 :: x46 :: x47 :: x48 :: x49 :: x50 :: x51 :: x52 :: x53 :: x54 :: x55 :: x56 :: x57 :: x58 :: x59 :: x60 :: x61 :: x62 :: x63 :: x64 :: x65 :: x66 :: x67 :: x68 :: x69 :: x70 :: x71 :: x72 :: x73 :: x74 :: x75 :: x76 :: x77 :: x78 :: x79 :: x80 :: x81 :: x82 :: x83 :: x84 :: x85 :: x86 :: x87 :: x88 :: x89 :: x90 :: x91 :: x92 :: x93 :: x94 :: x95 :: x96 :: x97 :: x98 :: x99 :: x100 :: x101 :: x102 :: x103 :: x104 :: x105 :: y106 :: y107 :: y108 :: y109 :: y110 :: y111 :: y112 :: y113 :: y114 :: y115 :: y116 :: y117 :: y118 :: y119 :: y120 :: y121 :: y122 :: y123 :: y124 :: y125 :: y126 :: y127 :: y128 :: y129 :: y130 :: y131 :: y132 :: y133 :: y134 :: x135 :: x136 :: x137 :: x138 :: x139 :: x140 :: x141 :: x142 :: x143 :: x144 :: x145 :: x146 :: x147 :: x148 :: x149 :: x150 :: x151 :: x152 :: x153 :: x154 :: x155 :: x156 :: x157 :: x158 :: x159 :: x160 :: x161 :: x162 :: x163 :: x164 :: x165 :: x166 :: x167 :: x168 :: x169 :: x170 :: x171 :: x172 :: x173 :: x174 :: x175 :: x176 :: x177 :: x178 :: x179 :: x180 :: x181 :: x182 :: x183 :: x184 :: x185 :: x186 :: x187 :: x188 :: x189 :: x190 :: x191 :: x192 :: x193 :: x194 :: x195 :: x196 :: x197 :: x198 :: x199 :: x200 :: x201 :: x202 :: x203 :: x204 :: x205 :: x206 :: x207 :: x208 :: x209 :: x210 :: x211 :: x212 :: x213 :: x214 :: x215 :: x216 :: x217 :: x218 :: x219 :: x220 :: x221 :: x222 :: x223 :: x224 :: x225 :: x226 :: x227 :: x228 :: x229 :: x230 :: x231 :: x232 :: x233 :: x234 :: x235 :: x236 :: x237 :: x238 :: x239 :: x240 :: x241 :: x242 :: x243 :: x244 :: x245 :: x246 :: x247 :: x248 :: x249 :: x250 :: x251 :: x252 :: x253 :: x254 :: x255 :: x256 :: x257 :: x258 :: x259 :: x260 :: x261 :: x262 :: x263 :: x264 :: x265 :: x266 :: x267 :: x268 :: x269 :: x270 :: x271 :: x272 :: x273 :: x274 :: x275 :: x276 :: x277 :: x278 :: x279 :: x280 :: x281 :: x282 :: x283 :: x284 :: x285 :: x286 :: x287 :: x288 :: x289 :: x290 :: x291 :: x292 :: x293 :: x294 :: x295 :: x296 :: x297 :: x298 :: x299 :: x300 :: x301 :: x302 :: x303 :: x304 :: x305 :: x306 :: x307 :: x308 :: x309 :: x310 :: x311 :: x312 :: x313 :: x314 :: x315 :: x316 :: x317 :: x318 :: x319 :: x320 :: x321 :: x322 :: x323 :: x324 :: x325 :: x326 :: x327 :: x328 :: x329 :: x330 :: x331 :: x332 :: x333 :: x334 :: x335 :: x336 :: x337 :: x338 :: x339 :: x340 :: x341 :: x342 :: x343 :: x344 :: x345 :: x346 :: x347 :: x348 :: x349 :: x350 :: x351 :: x352 :: x353 :: x354 :: x355 :: x356 :: x357 :: x358 :: x359 :: x360 :: x361 :: []).toArray, ds⟩ wx) :
    Code.wp Tryz.prog (Code.loop (lp95 1)) Q0 ⟨(.pointer (some ⟨G.wb, 0, none⟩) :: x1 :: x2 :: x3 :: x4 :: x5 :: x6 :: x7 :: .slice (some ⟨of, 0, none⟩) 0 0 :: .pointer (some ⟨db, 0, none⟩) :: x10 :: x11 :: x12 :: x13 :: x14 :: x15 :: x16 :: x17 :: x18 :: x19 :: x20 :: x21 :: x22 :: x23 :: x24 :: x25 :: x26 :: x27 :: x28 :: x29 :: x30 :: x31 :: x32 :: x33 :: x34 :: x35 :: x36 :: x37 :: x38 :: x39 :: x40 :: x41 :: x42 :: x43 :: x44 :: x45 :: x46 :: x47 :: x48 :: x49 :: x50 :: x51 :: x52 :: x53 :: x54 :: x55 :: x56 :: x57 :: x58 :: x59 :: x60 :: x61 :: x62 :: x63 :: x64 :: x65 :: x66 :: x67 :: x68 :: x69 :: x70 :: x71 :: x72 :: x73 :: x74 :: x75 :: x76 :: x77 :: x78 :: x79 :: x80 :: x81 :: x82 :: x83 :: x84 :: x85 :: x86 :: x87 :: x88 :: x89 :: x90 :: x91 :: x92 :: x93 :: x94 :: x95 :: x96 :: x97 :: x98 :: x99 :: x100 :: x101 :: x102 :: x103 :: x104 :: x105 :: x106 :: x107 :: x108 :: x109 :: x110 :: x111 :: x112 :: x113 :: x114 :: x115 :: x116 :: x117 :: x118 :: x119 :: x120 :: x121 :: x122 :: x123 :: x124 :: x125 :: x126 :: x127 :: x128 :: x129 :: x130 :: x131 :: x132 :: x133 :: x134 :: x135 :: x136 :: x137 :: x138 :: x139 :: x140 :: x141 :: x142 :: x143 :: x144 :: x145 :: x146 :: x147 :: x148 :: x149 :: x150 :: x151 :: x152 :: x153 :: x154 :: x155 :: x156 :: x157 :: x158 :: x159 :: x160 :: x161 :: x162 :: x163 :: x164 :: x165 :: x166 :: x167 :: x168 :: x169 :: x170 :: x171 :: x172 :: x173 :: x174 :: x175 :: x176 :: x177 :: x178 :: x179 :: x180 :: x181 :: x182 :: x183 :: x184 :: x185 :: x186 :: x187 :: x188 :: x189 :: x190 :: x191 :: x192 :: x193 :: x194 :: x195 :: x196 :: x197 :: x198 :: x199 :: x200 :: x201 :: x202 :: x203 :: x204 :: x205 :: x206 :: x207 :: x208 :: x209 :: x210 :: x211 :: x212 :: x213 :: x214 :: x215 :: x216 :: x217 :: x218 :: x219 :: x220 :: x221 :: x222 :: x223 :: x224 :: x225 :: x226 :: x227 :: x228 :: x229 :: x230 :: x231 :: x232 :: x233 :: x234 :: x235 :: x236 :: x237 :: x238 :: x239 :: x240 :: x241 :: x242 :: x243 :: x244 :: x245 :: x246 :: x247 :: x248 :: x249 :: x250 :: x251 :: x252 :: x253 :: x254 :: x255 :: x256 :: x257 :: x258 :: x259 :: x260 :: x261 :: x262 :: x263 :: x264 :: x265 :: x266 :: x267 :: x268 :: x269 :: x270 :: x271 :: x272 :: x273 :: x274 :: x275 :: x276 :: x277 :: x278 :: x279 :: x280 :: x281 :: x282 :: x283 :: x284 :: x285 :: x286 :: x287 :: x288 :: x289 :: x290 :: x291 :: x292 :: x293 :: x294 :: x295 :: x296 :: x297 :: x298 :: x299 :: x300 :: x301 :: x302 :: x303 :: x304 :: x305 :: x306 :: x307 :: x308 :: x309 :: x310 :: x311 :: x312 :: x313 :: x314 :: x315 :: x316 :: x317 :: x318 :: x319 :: x320 :: x321 :: x322 :: x323 :: x324 :: x325 :: x326 :: x327 :: x328 :: x329 :: x330 :: x331 :: x332 :: x333 :: x334 :: x335 :: x336 :: x337 :: x338 :: x339 :: x340 :: x341 :: x342 :: x343 :: x344 :: x345 :: x346 :: x347 :: x348 :: x349 :: x350 :: x351 :: x352 :: x353 :: x354 :: x355 :: x356 :: x357 :: x358 :: x359 :: x360 :: x361 :: []).toArray, ds⟩ w6 := by
  obtain ⟨i94, hi94, hz94, hs94, hb94⟩ := info_parts info94
  have HLL := H.out.ll
  conv => arg 2; arg 1; whnf
  go_loopg [8] SL.length (fun m x wr => ∃ (n c : Nat) (ao : Option Addr), x = .slice ao n c ∧ SL.length - n ≤ m ∧ n ≤ SL.length ∧ Hid (∃ Gr pos xs, OL w G V F sf cap g db NM wr Gr (serBs pos (SL.drop n)) (.slice ao n c) xs ∧ n = xs.length ∧ pos + (serBs pos (SL.drop n)).length = L))
  case atStart => exact ⟨0, 0, some ⟨of, 0, none⟩, rfl, Nat.le_refl _, Nat.zero_le _, Lib.hid ⟨G6, p, [], by rw [List.drop_zero]; exact HQ6.out, rfl, by rw [List.drop_zero]; exact HLEN.out⟩⟩
  case round =>
  clear HQ6 HLEN
  obtain ⟨n1, c1, ao, rfl, hm, hn1, HR⟩ := hrel
  by_cases hlt : n1 < SL.length
  case pos =>
    obtain ⟨Gr, pos, xs, hq, hnx, hps⟩ := HR.out
    have hdr := List.drop_eq_getElem_cons hlt
    obtain ⟨s, hs⟩ : ∃ s, s = SL[n1] := ⟨_, rfl⟩
    have hok : Se.ok F.ss.length s := H.out.ok s (hs ▸ List.getElem_mem hlt)
    obtain ⟨rest, hrest⟩ : ∃ rest, rest = serBs (pos + padN pos 16 + s.d.length) (SL.drop (n1 + 1)) := ⟨_, rfl⟩
    have hl : serBs pos (SL.drop n1) = zeros (padN pos 16) ++ (s.d ++ rest) := by rw [hdr, serBs, ← hs, hrest]
    obtain ⟨u, r0, hur, hu0⟩ := s.head rest
    rw [hur] at hl
    obtain ⟨q, hq16⟩ : ∃ q, pos + padN pos 16 = 16 * q := ⟨(pos + padN pos 16) / 16, by go_light; have := padN_mod pos; omega⟩
    obtain ⟨N0, hN0⟩ : ∃ N0, N0 = (serBs pos (SL.drop n1)).length := ⟨_, rfl⟩
    obtain ⟨N1, hN1⟩ : ∃ N1, N1 = (u :: r0).length := ⟨_, rfl⟩
    have hl16 : 16 * q + N1 = L := by rw [hl] at hps; simp at hps hN1; go_light; omega
    have hd0 := hq.d
    have hd1 : DB wr db F.b (zeros (padN pos 16) ++ u :: r0) := hl ▸ hd0
    have hpos0 : (0 : Int) < N0 := by rw [hl] at hN0; simp at hN0; omega
    have HQ := Lib.hid hq
    have D0 := Lib.hid hd0
    have D1 := Lib.hid hd1
    have HUR := Lib.hid hur
    have HREST := Lib.hid hrest
    have HNX := Lib.hid hnx
    have HN0 := Lib.hid hN0
    have HN1 := Lib.hid hN1
    have HQ16 := Lib.hid hq16
    have HOK := Lib.hid hok
    clear hdr hs hok hl hur hps hd0 hd1 hq hrest hnx hN0 hN1 hq16 HR
    go_wp2_with fail
    refine (dbLen_any db F.b N0 _ wr D0.out HN0.out).mono ?_
    rintro e w' ⟨rfl, rfl⟩
    go_wp2_with fail
    refine (dbPad_any db F.b (padN pos 16) u r0 wr D1.out hu0).mono ?_
    rintro e w7 ⟨rfl, d7, k7⟩
    obtain ⟨G7, hq7⟩ := HQ.out.db k7 d7
    have HQ7 := Lib.hid hq7
    have D7 : Hid (DB w7.drew db F.b (u :: r0)) := Lib.hid (d7.kept (Kept.drew (fun _ _ => False) _) (fun _ => id) (fun _ _ => id))
    have f6 := hq7.P.f6 6 (by decide) (by decide) (by decide) H.out.h6
    have zc : IntKind.u64.wrap (N1 : Int) = N1 := by go_light; rw [IntKind.wrap_u64]; omega
    have zs : IntKind.u64.wrap ((L : Int) - N1) = 16 * (q : Int) := by go_light; rw [IntKind.wrap_u64]; omega
    clear d7 k7 hq7 D0 D1 HQ hpos0
    go_upto_region 19 with fail
    go_region_held3 (fun w' => w'.cell? ⟨G.wb, 6, none⟩ = some (.int .u64 L)) (first | exact f6 | go_keep) (first | (go_at_call 135; refine (dbLen_any db F.b N1 _ _ D7.out HN1.out).mono ?_; rintro e w' ⟨rfl, rfl⟩))
    have zq : IntKind.u32.wrap (q : Int) = q := by go_light; rw [IntKind.wrap_u32]; omega
    have hrow : ∀ o : Obj, ((w7.alloc o).drew).ownsRow 0 94 1 (.slice ao n1 c1) n1 (xs.map u32V) := fun o => by
      have h := HQ7.out.row
      rw [← HNX.out] at h
      exact ownsRow_block (w := w7) (w' := (w7.alloc o).drew) h (fun k hk => heap_alloc_old _ _ (h.lt k hk).2)
    have HROW := Lib.hid hrow
    have hsl := H.out.sl
    clear hrow f6 zc zs
    go_wp2_with (at_builtin; refine wpList_app _ rfl _ _ 149 rfl 94 i94 (.int .u32 0) 1 4 und149 hi94 hz94 hs94 hb94 rfl (by decide) (.slice ao n1 c1) n1 (xs.map u32V) rfl (HROW.out _) (some ⟨w7.heap.size, 0, none⟩) 1 1 [.int .u32 q] rfl rfl (fun e => by cases e) (one_new w7 (.int .u32 q) 94) (by intro u hu; obtain rfl := List.mem_singleton.1 hu; rfl) (by go_light; unfold maxLen; omega) (by go_light; omega) ?_)
    intro v' w8 ha
    obtain ⟨ao', c', rfl⟩ := own_slice ha.own
    obtain ⟨G8, hq8⟩ := HQ7.out.push ((Kept.alloc (fun _ _ => False) w7 (.cells #[.int .u32 q] 94)).trans (Kept.drew _ _) (fun _ _ _ => id)) HNX.out (by go_light; omega) ha
    have HQ8 := Lib.hid hq8
    have hd8 : DB w8 db F.b (Lib.uvarint s.c.length ++ (s.c ++ (s.sm ++ rest))) := by
      have := hq8.d
      rw [← HUR.out] at this
      simpa [Se.d] using this
    have D8 := Lib.hid hd8
    clear ha hq8 hd8 zq HQ7 D7
    obtain ⟨nc, hnc⟩ : ∃ nc, nc = s.c.length := ⟨_, rfl⟩
    have hnc9 : nc < 100000000 := by rw [hnc]; exact HOK.out.c
    rw [← hnc] at D8
    have HNC := Lib.hid hnc
    clear hnc
    go_wp2_with fail
    refine (dbU_any db F.b nc _ w8 D8.out (by go_light; omega) (List.prefix_append _ _)).mono ?_
    rintro e w9 ⟨rfl, d9, k9⟩
    rw [List.drop_left] at d9
    obtain ⟨G9, hq9⟩ := HQ8.out.db k9 d9
    have HQ9 := Lib.hid hq9
    have D9 := Lib.hid d9
    clear d9 k9 hq9 HQ8 D8
    have hsk := dbSkip_any db F.b (nc + 4) _ w9 D9.out (by rw [HNC.out]; have := HOK.out.s4; simp; omega)
    rw [show ((nc + 4 : Nat) : Int) = (nc : Int) + 4 by go_light; omega] at hsk
    have hdr9 : (s.c ++ (s.sm ++ rest)).drop (nc + 4) = rest := by
      have h4 := HOK.out.s4
      rw [HNC.out, ← List.append_assoc, List.drop_append_of_le_length (by simp; omega), List.drop_of_length_le (by simp; omega)]; rfl
    rw [hdr9] at hsk
    have HSK := Lib.hid hsk
    clear hsk hdr9 D9
    go_wp2_with fail
    refine HSK.out.mono ?_
    rintro e w10 ⟨rfl, d10, k10⟩
    obtain ⟨G10, hq10⟩ := HQ9.out.db k10 d10
    have HQ10 := Lib.hid hq10
    have D10 := Lib.hid d10
    clear d10 k10 hq10 HQ9 HSK
    go_wp2_with fail
    refine (dbErr_any db F.b _ w10 D10.out).mono ?_
    rintro e w' ⟨rfl, rfl⟩
    go_wp2_with fail
    go_roundg (SL.length - (n1 + 1))
    case measure => go_light; omega
    case rel =>
      refine ⟨n1 + 1, c', ao', rfl, Nat.le_refl _, hlt, Lib.hid ⟨G10, pos + padN pos 16 + s.d.length, xs ++ [q], ?_, by have := HNX.out; rw [List.length_append, List.length_singleton]; omega, ?_⟩⟩
      · rw [← HREST.out]; exact HQ10.out
      · have h1 := HN1.out
        rw [← HUR.out] at h1
        have h2 := HQ16.out
        rw [HREST.out] at h1
        simp at h1
        omega
  case neg =>
  obtain rfl : n1 = SL.length := by go_light; omega
  obtain ⟨Gr, pos, xs, hq, hnx, hps⟩ := HR.out
  have hl0 : serBs pos (SL.drop SL.length) = [] := by rw [List.drop_of_length_le (Nat.le_refl _)]; rfl
  rw [hl0] at hq
  have hd0 := hq.d
  have HF : Hid (R2 w G V F sf cap g db NM SL.length (.slice ao SL.length c1) wr) := Lib.hid ⟨c1, ao, Gr, xs, rfl, hnx, hq⟩
  obtain ⟨mp, hmp⟩ : ∃ mp, mp = SL.length := ⟨_, rfl⟩
  rw [← hmp] at HF ⊢
  have HMP := Lib.hid hmp
  clear hq hnx hps hl0 HR hm hn1 hlt hmp
  go_wp2_with fail
  refine (dbLen_any db F.b 0 [] wr hd0 rfl).mono ?_
  rintro e w' ⟨rfl, rfl⟩
  go_wp2_with fail
  rw [← HMP.out]
  exact HF.out

end Go.Proofs.YtfipfoplmopkaaaGreatDoor
