/- writePostingsToTmpFiles, loop 4: the names of a batch. Conditions: bounds on lengths. -/
import Derived.Test.YtfipfoplmopkaaaGreatDoorZ31
import Derived.Deep.Light
import Derived.Deep.CutBlock
import Derived.Deep.CutRange
import Derived.Deep.RegionHeld3

namespace Go.Proofs.YtfipfoplmopkaaaGreatDoor
open Go.RowKit Go.Maps

def R4 (w : World) (G : Gh) (V : Vw) (F : Fx) (sf cap g m1 : Nat) (PL : List PE) (l1 l2 lp : List UInt8) (go : Option Nat) (x y : Value) (wx : World) : Prop :=
  ∃ (m2 no2 c2 nb cb : Nat) (ab : Option Addr) (Gr : Gh) (NM2 BN : List (List UInt8)), x = .slice (some ⟨g, no2, none⟩) m2 c2 ∧ y = .slice ab nb cb ∧ m2 ≤ c2 ∧ 0 < nb ∧ m2 + nb = m1 ∧ B4 w G V F sf cap g no2 wx Gr PL l1 l2 lp go NM2 BN (.slice ab nb cb) ∧ NM2.length = m2 ∧ nb = BN.length

set_option maxRecDepth 1000000 in
set_option maxHeartbeats 40000000 in
theorem ptt4 {w : World} {G : Gh} {V : Vw} {F : Fx} {pre : List UInt8} {p L : Nat} {SL : List Se} (H : Hid (PH w G V F pre p L SL)) {sf cap g : Nat} {NM1 : List (List UInt8)} {PL : List PE} {l1 l2 lp : List UInt8} {go : Option Nat} {no m1 c3 mp bb : Nat} {w5 : World} {G1 : Gh}
    (HMP : Hid (mp = SL.length)) (hs200 : mp ≤ 40000) (h0 : 0 < m1) (hmc : m1 ≤ c3) (hm200 : m1 ≤ 200) (HL1 : Hid (NM1.length = m1)) (HB4 : Hid (B4 w G V F sf cap g no w5 G1 PL l1 l2 lp go NM1 [] (.slice (some ⟨bb, 0, none⟩) 0 0)))
    (ds : List Deferred) (x1 x2 x4 x5 x6 x7 x8 x9 x10 x11 x12 x13 x17 x18 x19 x20 x21 x22 x23 x24 x25 x26 x27 x28 x29 x30 x31 x32 x33 x34 x35 x36 x37 x38 x39 x40 x41 x42 x43 x44 x45 x46 x47 x48 x49 x50 x51 x52 x53 x54 x55 x56 x57 x58 x59 x60 x61 x62 x63 x64 x65 x66 x67 x68 x69 x70 x71 x72 x73 x74 x75 x76 x77 x78 x79 x80 x81 x82 x83 x84 x85 x86 x87 x88 x89 x90 x91 x92 x93 x94 x95 x96 x97 x98 x99 x100 x101 x102 x103 x104 x105 x106 x107 x108 x109 x110 x111 x112 x113 x114 x115 x116 x117 x118 x119 x120 x121 x122 x123 x124 x125 x126 x127 x128 x129 x130 x131 x132 x133 x134 x135 x136 x137 x138 x139 x140 x141 x142 x143 x144 x145 x146 x147 x148 x149 x150 x151 x152 x153 x154 x155 x156 x157 x158 x159 x160 x161 x162 x163 x164 x165 x166 x167 x168 x169 x170 x171 x172 x173 x174 x175 x176 x177 x178 x179 x180 x181 x182 x183 x184 x185 x186 x187 x188 x189 x190 x191 x192 x193 x194 x195 x196 x197 x198 x199 x200 x201 x202 x203 x204 x205 x206 x207 x208 x209 x210 x211 x212 x213 x214 x215 x216 x217 x218 x219 x220 x221 x222 x223 x224 x225 x226 x227 x228 x229 x230 x231 x232 x233 x234 x235 x236 x237 x238 x239 x240 x241 x242 x243 x244 x245 x246 x247 x248 x249 x250 x251 x252 x253 x254 x255 x256 x257 x258 x259 x260 x261 x262 x263 x264 x265 x266 x267 x268 x269 x270 x271 x272 x273 x274 x275 x276 x277 x278 x279 x280 x281 x282 x283 x284 x285 x286 x287 x288 x289 x290 x291 x292 x293 x294 x295 x296 x297 x298 x299 x300 x301 x302 x303 x304 x305 x306 x307 x308 x309 x310 x311 x312 x313 x314 x315 x316 x317 x318 x319 x320 x321 x322 x323 x324 x325 x326 x327 x328 x329 x330 x331 x332 x333 x334 x335 x336 x337 x338 x339 x340 x341 x342 x343 x344 x345 x346 x347 x348 x349 x350 x351 x352 x353 x354 x355 x356 x357 x358 x359 x360 x361 : Value) (Q0 : Exit → Act → World → Prop)
    (hexit : ∀ (y2 y3 y15 y16 y148 y149 y150 y151 y152 y153 y154 y155 y156 y157 y158 y159 y160 y161 y162 y163 y164 y165 y166 y167 y168 y169 y170 y171 y172 y173 y174 y175 y176 y177 y178 y179 y180 y181 y182 y183 : Value) (wx : World), R4 w G V F sf cap g m1 PL l1 l2 lp go y3 y15 wx → Q0 (.exit 6) ⟨(.pointer (some ⟨G.wb, 0, none⟩) :: x1 :: y2 :: y3 :: x4 :: x5 :: x6 :: x7 :: x8 :: x9 :: x10 :: x11 :: x12 :: x13 :: .int .u64 mp :: y15 :: y16 :: x17 :: x18 :: x19 :: x20 :: x21 :: x22 :: x23 :: x24 :: x25 :: x26 :: x27 :: x28 :: x29 :: x30 :: x31 :: x32 :: x33 :: x34 :: x35 :: x36 :: x37 :: x38 :: x39 :: x40 :: x41 :: x42 :: x43 :: x44 :: x45 :: x46 :: x47 :: x48 :: x49 :: x50 :: x51 :: x52 :: x53 :: x54 :: x55 :: x56 :: x57 :: x58 :: x59 :: x60 :: x61 :: x62 :: x63 :: x64 :: x65 :: x66 :: x67 :: x68 :: x69 :: x70 :: x71 :: x72 :: x73 :: x74 :: x75 :: x76 :: x77 :: x78 :: x79 :: x80 :: x81 :: x82 :: x83 :: x84 :: x85 :: x86 :: x87 :: x88 :: x89 :: x90 :: x91 :: x92 :: x93 :: x94 :: x95 :: x96 :: x97 :: x98 :: x99 :: x100 :: x101 :: x102 :: x103 :: x104 :: x105 :: x106 :: x107 :: x108 :: x109 :: x110 :: x111 :: x112 :: x113 :: x114 :: x115 :: x116 :: x117 :: x118 :: x119 :: x120 :: x121 :: x122 :: x123 :: x124 :: x125 :: x126 :: x127 :: x128 :: x129 :: x130 :: x131 :: x132 :: x133 :: x134 :: x135 :: x136 :: x137 :: x138 :: x139 :: x140 :: x141 :: x142 :: x143 :: x144 :: x145 :: x146 :: x147 :: y148 :: y149 :: y150 :: y151 :: y152 :: y153 :: y154 :: y155 :: y156 :: y157 :: y158 :: y159 :: y160 :: y161 :: y162 :: y163 :: y164 :: y165 :: y166 :: y167 :: y168 :: y169 :: y170 :: y171 :: y172 :: y173 :: y174 :: y175 :: y176 :: y177 :: y178 :: y179 :: y180 :: y181 :: y182 :: y183 :: x184 :: x185 :: x186 :: x187 :: x188 :: x189 :: x190 :: x191 :: x192 :: x193 :: x194 :: x195 :: x196 :: x197 :: x198 :: x199 :: x200 :: x201 :: x202 :: x203 :: x204 :: x205 :: x206 :: x207 :: x208 :: x209 :: x210 :: x211 :: x212 :: x213 :: x214 :: x215 :: x216 :: x217 :: x218 :: x219 :: x220 :: x221 :: x222 :: x223 :: x224 :: x225 :: x226 :: x227 :: x228 :: x229 :: x230 :: x231 :: x232 :: x233 :: x234 :: x235 :: x236 :: x237 :: x238 :: x239 :: x240 :: x241 :: x242 :: x243 :: x244 :: x245 :: x246 :: x247 :: x248 :: x249 :: x250 :: x251 :: x252 :: x253 :: x254 :: x255 :: x256 :: x257 :: x258 :: x259 :: x260 :: x261 :: x262 :: x263 :: x264 :: x265 :: x266 :: x267 :: x268 :: x269 :: x270 :: x271 :: x272 :: x273 :: x274 :: x275 :: x276 :: x277 :: x278 :: x279 :: x280 :: x281 :: x282 :: x283 :: x284 :: x285 :: x286 :: x287 :: x288 :: x289 :: x290 :: x291 :: x292 :: x293 :: x294 :: x295 :: x296 :: x297 :: x298 :: x299 :: x300 :: x301 :: x302 :: x303 :: x304 :: x305 :: x306 :: x307 :: x308 :: x309 :: x310 :: x311 :: x312 :: x313 :: x314 :: x315 :: x316 :: x317 :: x318 :: x319 :: x320 :: x321 :: x322 :: x323 :: x324 :: x325 :: x326 :: x327 :: x328 :: x329 :: x330 :: x331 :: x332 :: x333 :: x334 :: x335 :: x336 :: x337 :: x338 :: x339 :: x340 :: x341 :: x342 :: x343 :: x344 :: x345 :: x346 :: x347 :: x348 :: x349 :: x350 :: x351 :: x352 :: x353 :: x354 :: x355 :: x356 :: x357 :: x358 :: x359 :: x360 :: x361 :: []).toArray, ds⟩ wx) :
    Code.wp Tryz.prog (Code.loop (lp95 3)) Q0 ⟨(.pointer (some ⟨G.wb, 0, none⟩) :: x1 :: x2 :: .slice (some ⟨g, no, none⟩) m1 c3 :: x4 :: x5 :: x6 :: x7 :: x8 :: x9 :: x10 :: x11 :: x12 :: x13 :: .int .u64 mp :: .slice (some ⟨bb, 0, none⟩) 0 0 :: .int .u64 0 :: x17 :: x18 :: x19 :: x20 :: x21 :: x22 :: x23 :: x24 :: x25 :: x26 :: x27 :: x28 :: x29 :: x30 :: x31 :: x32 :: x33 :: x34 :: x35 :: x36 :: x37 :: x38 :: x39 :: x40 :: x41 :: x42 :: x43 :: x44 :: x45 :: x46 :: x47 :: x48 :: x49 :: x50 :: x51 :: x52 :: x53 :: x54 :: x55 :: x56 :: x57 :: x58 :: x59 :: x60 :: x61 :: x62 :: x63 :: x64 :: x65 :: x66 :: x67 :: x68 :: x69 :: x70 :: x71 :: x72 :: x73 :: x74 :: x75 :: x76 :: x77 :: x78 :: x79 :: x80 :: x81 :: x82 :: x83 :: x84 :: x85 :: x86 :: x87 :: x88 :: x89 :: x90 :: x91 :: x92 :: x93 :: x94 :: x95 :: x96 :: x97 :: x98 :: x99 :: x100 :: x101 :: x102 :: x103 :: x104 :: x105 :: x106 :: x107 :: x108 :: x109 :: x110 :: x111 :: x112 :: x113 :: x114 :: x115 :: x116 :: x117 :: x118 :: x119 :: x120 :: x121 :: x122 :: x123 :: x124 :: x125 :: x126 :: x127 :: x128 :: x129 :: x130 :: x131 :: x132 :: x133 :: x134 :: x135 :: x136 :: x137 :: x138 :: x139 :: x140 :: x141 :: x142 :: x143 :: x144 :: x145 :: x146 :: x147 :: x148 :: x149 :: x150 :: x151 :: x152 :: x153 :: x154 :: x155 :: x156 :: x157 :: x158 :: x159 :: x160 :: x161 :: x162 :: x163 :: x164 :: x165 :: x166 :: x167 :: x168 :: x169 :: x170 :: x171 :: x172 :: x173 :: x174 :: x175 :: x176 :: x177 :: x178 :: x179 :: x180 :: x181 :: x182 :: x183 :: x184 :: x185 :: x186 :: x187 :: x188 :: x189 :: x190 :: x191 :: x192 :: x193 :: x194 :: x195 :: x196 :: x197 :: x198 :: x199 :: x200 :: x201 :: x202 :: x203 :: x204 :: x205 :: x206 :: x207 :: x208 :: x209 :: x210 :: x211 :: x212 :: x213 :: x214 :: x215 :: x216 :: x217 :: x218 :: x219 :: x220 :: x221 :: x222 :: x223 :: x224 :: x225 :: x226 :: x227 :: x228 :: x229 :: x230 :: x231 :: x232 :: x233 :: x234 :: x235 :: x236 :: x237 :: x238 :: x239 :: x240 :: x241 :: x242 :: x243 :: x244 :: x245 :: x246 :: x247 :: x248 :: x249 :: x250 :: x251 :: x252 :: x253 :: x254 :: x255 :: x256 :: x257 :: x258 :: x259 :: x260 :: x261 :: x262 :: x263 :: x264 :: x265 :: x266 :: x267 :: x268 :: x269 :: x270 :: x271 :: x272 :: x273 :: x274 :: x275 :: x276 :: x277 :: x278 :: x279 :: x280 :: x281 :: x282 :: x283 :: x284 :: x285 :: x286 :: x287 :: x288 :: x289 :: x290 :: x291 :: x292 :: x293 :: x294 :: x295 :: x296 :: x297 :: x298 :: x299 :: x300 :: x301 :: x302 :: x303 :: x304 :: x305 :: x306 :: x307 :: x308 :: x309 :: x310 :: x311 :: x312 :: x313 :: x314 :: x315 :: x316 :: x317 :: x318 :: x319 :: x320 :: x321 :: x322 :: x323 :: x324 :: x325 :: x326 :: x327 :: x328 :: x329 :: x330 :: x331 :: x332 :: x333 :: x334 :: x335 :: x336 :: x337 :: x338 :: x339 :: x340 :: x341 :: x342 :: x343 :: x344 :: x345 :: x346 :: x347 :: x348 :: x349 :: x350 :: x351 :: x352 :: x353 :: x354 :: x355 :: x356 :: x357 :: x358 :: x359 :: x360 :: x361 :: []).toArray, ds⟩ w5 := by
  obtain ⟨i9, hi9, hz9, hs9, hb9⟩ := info_parts info9
  conv => arg 2; arg 1; whnf
  go_loopg [3, 15, 16] m1 (fun k x y z ws => ∃ (m2 no2 c2 nb cb cc : Nat) (ab : Option Addr), x = .slice (some ⟨g, no2, none⟩) m2 c2 ∧ y = .slice ab nb cb ∧ z = .int .u64 cc ∧ m2 ≤ c2 ∧ m2 ≤ k ∧ m2 + nb = m1 ∧ cc ≤ mp ∧ (nb = 0 → cc = 0) ∧ Hid (∃ Gr NM2 BN, B4 w G V F sf cap g no2 ws Gr PL l1 l2 lp go NM2 BN (.slice ab nb cb) ∧ NM2.length = m2 ∧ nb = BN.length))
  case atStart => exact ⟨m1, no, c3, 0, 0, 0, some ⟨bb, 0, none⟩, rfl, rfl, rfl, hmc, Nat.le_refl _, by go_light; omega, Nat.zero_le _, fun _ => rfl, Lib.hid ⟨G1, NM1, [], HB4.out, HL1.out, rfl⟩⟩
  case round =>
    clear HB4 HL1
    obtain ⟨m2, no2, c2, nb, cb, cc, ab, rfl, rfl, rfl, hmc2, hmk2, hmb, hcc, hc0, HR⟩ := hrel
    by_cases hm0 : 0 < m2
    case neg =>
      go_wp2_with fail
      obtain ⟨Gr, NM2, BN, h1, h2, h3⟩ := HR.out
      exact ⟨m2, no2, c2, nb, cb, ab, Gr, NM2, BN, rfl, rfl, hmc2, by go_light; omega, hmb, h1, h2, h3⟩
    case pos =>
      obtain ⟨Gr, NM2, BN, hb, hl2, hbl⟩ := HR.out
      obtain ⟨x0, NM3, rfl⟩ : ∃ x0 NM3, NM2 = x0 :: NM3 := by
        cases NM2 with
        | nil => go_light; simp at hl2; omega
        | cons a b => exact ⟨a, b, rfl⟩
      have hx0 := hb.N.has x0 (by simp)
      have n0 := hb.N.c 0 x0 rfl
      rw [Nat.add_zero] at n0
      have c40 := hb.P.R.c40
      obtain ⟨hx256, _, cx, hcx, hcxz⟩ := H.out.L9 x0 hx0
      have hlk := hb.P.ln hx256 hcxz
      have HCX := Lib.hid hcxz
      have HB := Lib.hid hb
      have HL2 := Lib.hid hl2
      have HBL := Lib.hid hbl
      have HX0 := Lib.hid hx0
      have hcx2 : cx ≤ mp := by go_light; have := HMP.out; omega
      have i0 : (0 : Int) < m2 := by go_light; omega
      have zs : IntKind.u64.wrap ((cx : Int) + cc) = (cx : Int) + cc := by go_light; rw [IntKind.wrap_u64]; omega
      clear hb hl2 hbl HR hx0 hcxz
      by_cases hex : (mp : Int) < (cx : Int) + cc
      case pos =>
        have hcp : (0 : Int) < cc := by go_light; omega
        have hnb0 : 0 < nb := by
          go_light
          rcases Nat.eq_zero_or_pos nb with h | h
          · have := hc0 h; omega
          · exact h
        go_upto_region 36 with fail
        go_quiet (fail)
        go_wp2_with fail
        exact ⟨m2, no2, c2, nb, cb, ab, Gr, x0 :: NM3, BN, rfl, rfl, hmc2, hnb0, hmb, HB.out.drewN nq, HL2.out, HBL.out⟩
      case neg =>
        go_upto_region 36 with fail
        go_quiet (fail)
        obtain ⟨wx, hwx⟩ : ∃ wx, wx = wr.drewN nq := ⟨_, rfl⟩
        have HBx : Hid (B4 w G V F sf cap g no2 wx Gr PL l1 l2 lp go (x0 :: NM3) BN (.slice ab nb cb)) := Lib.hid (by rw [hwx]; exact HB.out.drewN nq)
        have n0x : wx.cell? ⟨g, no2, none⟩ = some (encStr x0) := by rw [hwx]; exact n0
        rw [← hwx]
        clear hwx n0 c40 hlk HB
        have hrow : ∀ o : Obj, (wx.alloc o).ownsRow 0 9 1 (.slice ab nb cb) nb (BN.map encStr) := fun o => by
          have h := HBx.out.row
          rw [← HBL.out] at h
          exact ownsRow_block (w := wx) (w' := wx.alloc o) h (fun k hk => heap_alloc_old _ _ (h.lt k hk).2)
        have HROW := Lib.hid hrow
        have hnb9 : nb ≤ 200 := by go_light; omega
        clear hrow
        go_wp2_with (at_builtin; refine wpList_app _ rfl _ _ 22 rfl 9 i9 (.string ByteArray.empty) 1 16 Tryz.underlying22 hi9 hz9 hs9 hb9 rfl (by decide) (.slice ab nb cb) nb (BN.map encStr) rfl (HROW.out _) (some ⟨wx.heap.size, 0, none⟩) 1 1 [encStr x0] rfl rfl (fun e => by cases e) (one_new wx (encStr x0) 9) (by intro u hu; obtain rfl := List.mem_singleton.1 hu; rfl) (by go_light; unfold maxLen; omega) (by go_light; omega) ?_)
        intro v' w8 ha
        obtain ⟨ab', cb', rfl⟩ := own_slice ha.own
        obtain ⟨G8, hb8⟩ := HBx.out.push HX0.out (Kept.alloc (fun _ _ => False) wx (.cells #[encStr x0] 9)) HBL.out ha
        have n8 : w8.cell? ⟨g, no2, none⟩ = some (encStr x0) := by have := hb8.N.c 0 x0 rfl; rwa [Nat.add_zero] at this
        have c408 := hb8.P.R.c40
        have hlk8 := hb8.P.ln hx256 HCX.out
        have zs8 : IntKind.u64.wrap ((cc : Int) + cx) = (cc : Int) + cx := by go_light; rw [IntKind.wrap_u64]; omega
        have HB8 := Lib.hid hb8
        have hmp9 : cc + cx ≤ mp := by go_light; omega
        have HBL8 : Hid (nb + 1 = (BN ++ [x0]).length) := Lib.hid (by have := HBL.out; rw [List.length_append, List.length_singleton]; go_light; omega)
        have HL3 : Hid (NM3.length = m2 - 1) := Lib.hid (by have := HL2.out; go_light; simp at this; omega)
        clear hb8 ha HBx n0x HROW HBL HL2 hex zs
        go_upto_region 40 with fail
        go_quiet (fail)
        have i1 : (1 : Int) ≤ m2 := by go_light; omega
        by_cases hc1 : c2 = 1
        case pos =>
          subst hc1
          obtain rfl : m2 = 1 := by go_light; omega
          go_wp2_with fail
          go_roundg 0
          case measure => go_light; omega
          case rel =>
            go_light
            obtain rfl : NM3 = [] := List.eq_nil_of_length_eq_zero HL3.out
            exact ⟨0, no2, 0, nb + 1, cb', cc + cx, ab', rfl, rfl, congrArg (Value.int .u64) (by omega), Nat.le_refl _, Nat.le_refl _, by omega, hmp9, fun h => by omega, Lib.hid ⟨G8, [], BN ++ [x0], (HB8.out.drewN nq).tail.any no2, rfl, HBL8.out⟩⟩
        case neg =>
          go_wp2_with fail
          go_roundg (m2 - 1)
          case measure => go_light; omega
          case rel =>
            go_light
            exact ⟨m2 - 1, no2 + 1, c2 - 1, nb + 1, cb', cc + cx, ab', rfl, rfl, congrArg (Value.int .u64) (by omega), by omega, Nat.le_refl _, by omega, hmp9, fun h => by omega, Lib.hid ⟨G8, NM3, BN ++ [x0], (HB8.out.drewN nq).tail, HL3.out, HBL8.out⟩⟩

end Go.Proofs.YtfipfoplmopkaaaGreatDoor
