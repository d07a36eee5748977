/- writePostingsToTmpFiles, loop 7: the pairs of one series. Conditions: bounds on lengths. -/
import Derived.Test.YtfipfoplmopkaaaGreatDoorZ31
import Derived.Deep.Light
import Derived.Deep.CutBlock
import Derived.Deep.CutRange
import Derived.Deep.RegionHeld3

namespace Go.Proofs.YtfipfoplmopkaaaGreatDoor
open Go.RowKit Go.Maps

set_option maxRecDepth 1000000 in
set_option maxHeartbeats 40000000 in
theorem ptt7 {w : World} {G : Gh} {V : Vw} {F : Fx} {pre : List UInt8} {p L : Nat} {SL : List Se} (H : Hid (PH w G V F pre p L SL)) {sf cap g no2 b5 ns db2 ob kn ko k j q pn : Nat} {NM2 BN : List (List UInt8)} {PL : List PE} {l1 l2 lp rest : List UInt8} {go : Option Nat} {O7 : Ow} {s : Se} {w10 : World} {G10 : Gh}
    (hlt : j < SL.length) (HOK : Hid (Se.ok F.ss.length s)) (HSN : Hid (seN (SL.take (j + 1)) = seN (SL.take j) + s.ps.length)) (HPN : Hid (pn = s.ps.length)) (hpn9 : pn < 1000000) (hq32 : q < 4294967296) (hk1 : k ≤ seN (SL.take j)) (hk2 : ko ≤ seN (SL.take j))
    (HQ10 : Hid (L6 w G V F sf cap g no2 b5 ns db2 ob NM2 BN PL l1 l2 lp go kn ko k F.ss.length O7 (pairsB s.ps ++ (s.tl ++ (s.sm ++ rest))) w10 G10))
    (ds : List Deferred) (x0 x1 x2 x3 x4 x5 x6 x7 x8 x9 x10 x11 x12 x13 x14 x15 x16 x18 x19 x20 x21 x25 x26 x29 x30 x31 x32 x33 x34 x35 x36 x37 x38 x39 x40 x41 x42 x43 x44 x45 x46 x47 x48 x49 x50 x51 x52 x53 x54 x55 x56 x57 x58 x59 x60 x61 x62 x63 x64 x65 x66 x67 x68 x69 x70 x71 x72 x73 x74 x75 x76 x77 x78 x79 x80 x81 x82 x83 x84 x85 x86 x87 x88 x89 x90 x91 x92 x93 x94 x95 x96 x97 x98 x99 x100 x101 x102 x103 x104 x105 x106 x107 x108 x109 x110 x111 x112 x113 x114 x115 x116 x117 x118 x119 x120 x121 x122 x123 x124 x125 x126 x127 x128 x129 x130 x131 x132 x133 x134 x135 x136 x137 x138 x139 x140 x141 x142 x143 x144 x145 x146 x147 x148 x149 x150 x151 x152 x153 x154 x155 x156 x157 x158 x159 x160 x161 x162 x163 x164 x165 x166 x167 x168 x169 x170 x171 x172 x173 x174 x175 x176 x177 x178 x179 x180 x181 x182 x183 x184 x185 x186 x187 x188 x189 x190 x191 x192 x193 x194 x195 x196 x197 x198 x199 x200 x201 x202 x203 x204 x205 x206 x207 x208 x209 x210 x211 x212 x213 x214 x215 x216 x217 x218 x219 x220 x221 x222 x223 x224 x225 x226 x227 x228 x229 x230 x231 x232 x233 x234 x235 x236 x237 x238 x239 x240 x241 x242 x243 x244 x245 x246 x247 x248 x249 x250 x251 x252 x253 x254 x255 x256 x257 x258 x259 x260 x261 x262 x263 x264 x265 x266 x267 x268 x269 x270 x271 x272 x273 x274 x275 x276 x277 x278 x279 x280 x281 x282 x283 x284 x285 x286 x287 x288 x289 x290 x291 x292 x293 x294 x295 x296 x297 x298 x299 x300 x301 x302 x303 x304 x305 x306 x307 x308 x309 x310 x311 x312 x313 x314 x315 x316 x317 x318 x319 x320 x321 x322 x323 x324 x325 x326 x327 x328 x329 x330 x331 x332 x333 x334 x335 x336 x337 x338 x339 x340 x341 x342 x343 x344 x345 x346 x347 x348 x349 x350 x351 x352 x353 x354 x355 x356 x357 x358 x359 x360 x361 : Value) (Q0 : Exit → Act → World → Prop)
    (hexit : ∀ (y28 y29 y30 y31 y32 y33 y34 y239 y240 y241 y242 y243 y244 y245 y246 y247 y248 y249 y250 y251 y252 y253 y254 y255 y256 y257 y258 y259 y260 y261 y262 y263 y264 y265 y266 y267 y268 y269 y270 y271 y272 y273 y274 y275 y276 y277 y278 y279 : Value) (wx : World), Hid (∃ G' O' ko k, k ≤ seN (SL.take (j + 1)) ∧ ko ≤ seN (SL.take (j + 1)) ∧ L6 w G V F sf cap g no2 b5 ns db2 ob NM2 BN PL l1 l2 lp go kn ko k F.ss.length O' (s.tl ++ (s.sm ++ rest)) wx G') → Q0 (.exit 12) ⟨(x0 :: x1 :: x2 :: x3 :: x4 :: x5 :: x6 :: x7 :: x8 :: x9 :: x10 :: x11 :: x12 :: x13 :: x14 :: x15 :: x16 :: .map (some ns) :: x18 :: x19 :: x20 :: x21 :: .map (some ob) :: .pointer (some ⟨db2, 0, none⟩) :: .int .u64 (16 * (q : Int)) :: x25 :: x26 :: .int .i64 pn :: y28 :: y29 :: y30 :: y31 :: y32 :: y33 :: y34 :: x35 :: x36 :: x37 :: x38 :: x39 :: x40 :: x41 :: x42 :: x43 :: x44 :: x45 :: x46 :: x47 :: x48 :: x49 :: x50 :: x51 :: x52 :: x53 :: x54 :: x55 :: x56 :: x57 :: x58 :: x59 :: x60 :: x61 :: x62 :: x63 :: x64 :: x65 :: x66 :: x67 :: x68 :: x69 :: x70 :: x71 :: x72 :: x73 :: x74 :: x75 :: x76 :: x77 :: x78 :: x79 :: x80 :: x81 :: x82 :: x83 :: x84 :: x85 :: x86 :: x87 :: x88 :: x89 :: x90 :: x91 :: x92 :: x93 :: x94 :: x95 :: x96 :: x97 :: x98 :: x99 :: x100 :: x101 :: x102 :: x103 :: x104 :: x105 :: x106 :: x107 :: x108 :: x109 :: x110 :: x111 :: x112 :: x113 :: x114 :: x115 :: x116 :: x117 :: x118 :: x119 :: x120 :: x121 :: x122 :: x123 :: x124 :: x125 :: x126 :: x127 :: x128 :: x129 :: x130 :: x131 :: x132 :: x133 :: x134 :: x135 :: x136 :: x137 :: x138 :: x139 :: x140 :: x141 :: x142 :: x143 :: x144 :: x145 :: x146 :: x147 :: x148 :: x149 :: x150 :: x151 :: x152 :: x153 :: x154 :: x155 :: x156 :: x157 :: x158 :: x159 :: x160 :: x161 :: x162 :: x163 :: x164 :: x165 :: x166 :: x167 :: x168 :: x169 :: x170 :: x171 :: x172 :: x173 :: x174 :: x175 :: x176 :: x177 :: x178 :: x179 :: x180 :: x181 :: x182 :: x183 :: x184 :: x185 :: x186 :: x187 :: x188 :: x189 :: x190 :: x191 :: x192 :: x193 :: x194 :: x195 :: x196 :: x197 :: x198 :: x199 :: x200 :: x201 :: x202 :: x203 :: x204 :: x205 :: x206 :: x207 :: x208 :: x209 :: x210 :: x211 :: x212 :: x213 :: x214 :: x215 :: x216 :: x217 :: x218 :: x219 :: x220 :: x221 :: x222 :: x223 :: x224 :: x225 :: x226 :: x227 :: x228 :: x229 :: x230 :: x231 :: x232 :: x233 :: x234 :: x235 :: x236 :: x237 :: x238 :: y239 :: y240 :: y241 :: y242 :: y243 :: y244 :: y245 :: y246 :: y247 :: y248 :: y249 :: y250 :: y251 :: y252 :: y253 :: y254 :: y255 :: y256 :: y257 :: y258 :: y259 :: y260 :: y261 :: y262 :: y263 :: y264 :: y265 :: y266 :: y267 :: y268 :: y269 :: y270 :: y271 :: y272 :: y273 :: y274 :: y275 :: y276 :: y277 :: y278 :: y279 :: x280 :: x281 :: x282 :: x283 :: x284 :: x285 :: x286 :: x287 :: x288 :: x289 :: x290 :: x291 :: x292 :: x293 :: x294 :: x295 :: x296 :: x297 :: x298 :: x299 :: x300 :: x301 :: x302 :: x303 :: x304 :: x305 :: x306 :: x307 :: x308 :: x309 :: x310 :: x311 :: x312 :: x313 :: x314 :: x315 :: x316 :: x317 :: x318 :: x319 :: x320 :: x321 :: x322 :: x323 :: x324 :: x325 :: x326 :: x327 :: x328 :: x329 :: x330 :: x331 :: x332 :: x333 :: x334 :: x335 :: x336 :: x337 :: x338 :: x339 :: x340 :: x341 :: x342 :: x343 :: x344 :: x345 :: x346 :: x347 :: x348 :: x349 :: x350 :: x351 :: x352 :: x353 :: x354 :: x355 :: x356 :: x357 :: x358 :: x359 :: x360 :: x361 :: []).toArray, ds⟩ wx) :
    Code.wp Tryz.prog (Code.loop (lp95 6)) Q0 ⟨(x0 :: x1 :: x2 :: x3 :: x4 :: x5 :: x6 :: x7 :: x8 :: x9 :: x10 :: x11 :: x12 :: x13 :: x14 :: x15 :: x16 :: .map (some ns) :: x18 :: x19 :: x20 :: x21 :: .map (some ob) :: .pointer (some ⟨db2, 0, none⟩) :: .int .u64 (16 * (q : Int)) :: x25 :: x26 :: .int .i64 pn :: .int .i64 0 :: x29 :: x30 :: x31 :: x32 :: x33 :: x34 :: x35 :: x36 :: x37 :: x38 :: x39 :: x40 :: x41 :: x42 :: x43 :: x44 :: x45 :: x46 :: x47 :: x48 :: x49 :: x50 :: x51 :: x52 :: x53 :: x54 :: x55 :: x56 :: x57 :: x58 :: x59 :: x60 :: x61 :: x62 :: x63 :: x64 :: x65 :: x66 :: x67 :: x68 :: x69 :: x70 :: x71 :: x72 :: x73 :: x74 :: x75 :: x76 :: x77 :: x78 :: x79 :: x80 :: x81 :: x82 :: x83 :: x84 :: x85 :: x86 :: x87 :: x88 :: x89 :: x90 :: x91 :: x92 :: x93 :: x94 :: x95 :: x96 :: x97 :: x98 :: x99 :: x100 :: x101 :: x102 :: x103 :: x104 :: x105 :: x106 :: x107 :: x108 :: x109 :: x110 :: x111 :: x112 :: x113 :: x114 :: x115 :: x116 :: x117 :: x118 :: x119 :: x120 :: x121 :: x122 :: x123 :: x124 :: x125 :: x126 :: x127 :: x128 :: x129 :: x130 :: x131 :: x132 :: x133 :: x134 :: x135 :: x136 :: x137 :: x138 :: x139 :: x140 :: x141 :: x142 :: x143 :: x144 :: x145 :: x146 :: x147 :: x148 :: x149 :: x150 :: x151 :: x152 :: x153 :: x154 :: x155 :: x156 :: x157 :: x158 :: x159 :: x160 :: x161 :: x162 :: x163 :: x164 :: x165 :: x166 :: x167 :: x168 :: x169 :: x170 :: x171 :: x172 :: x173 :: x174 :: x175 :: x176 :: x177 :: x178 :: x179 :: x180 :: x181 :: x182 :: x183 :: x184 :: x185 :: x186 :: x187 :: x188 :: x189 :: x190 :: x191 :: x192 :: x193 :: x194 :: x195 :: x196 :: x197 :: x198 :: x199 :: x200 :: x201 :: x202 :: x203 :: x204 :: x205 :: x206 :: x207 :: x208 :: x209 :: x210 :: x211 :: x212 :: x213 :: x214 :: x215 :: x216 :: x217 :: x218 :: x219 :: x220 :: x221 :: x222 :: x223 :: x224 :: x225 :: x226 :: x227 :: x228 :: x229 :: x230 :: x231 :: x232 :: x233 :: x234 :: x235 :: x236 :: x237 :: x238 :: x239 :: x240 :: x241 :: x242 :: x243 :: x244 :: x245 :: x246 :: x247 :: x248 :: x249 :: x250 :: x251 :: x252 :: x253 :: x254 :: x255 :: x256 :: x257 :: x258 :: x259 :: x260 :: x261 :: x262 :: x263 :: x264 :: x265 :: x266 :: x267 :: x268 :: x269 :: x270 :: x271 :: x272 :: x273 :: x274 :: x275 :: x276 :: x277 :: x278 :: x279 :: x280 :: x281 :: x282 :: x283 :: x284 :: x285 :: x286 :: x287 :: x288 :: x289 :: x290 :: x291 :: x292 :: x293 :: x294 :: x295 :: x296 :: x297 :: x298 :: x299 :: x300 :: x301 :: x302 :: x303 :: x304 :: x305 :: x306 :: x307 :: x308 :: x309 :: x310 :: x311 :: x312 :: x313 :: x314 :: x315 :: x316 :: x317 :: x318 :: x319 :: x320 :: x321 :: x322 :: x323 :: x324 :: x325 :: x326 :: x327 :: x328 :: x329 :: x330 :: x331 :: x332 :: x333 :: x334 :: x335 :: x336 :: x337 :: x338 :: x339 :: x340 :: x341 :: x342 :: x343 :: x344 :: x345 :: x346 :: x347 :: x348 :: x349 :: x350 :: x351 :: x352 :: x353 :: x354 :: x355 :: x356 :: x357 :: x358 :: x359 :: x360 :: x361 :: []).toArray, ds⟩ w10 := by
  obtain ⟨i94, hi94, hz94, hs94, hb94⟩ := info_parts info94
  conv => arg 2; arg 1; whnf
  go_loopg [28] pn (fun m x ws => ∃ i : Nat, x = .int .i64 i ∧ i ≤ pn ∧ pn - i ≤ m ∧ Hid (∃ G' O' ko' k', k' ≤ seN (SL.take j) + i ∧ ko' ≤ seN (SL.take j) + i ∧ L6 w G V F sf cap g no2 b5 ns db2 ob NM2 BN PL l1 l2 lp go kn ko' k' F.ss.length O' (pairsB (s.ps.drop i) ++ (s.tl ++ (s.sm ++ rest))) ws G'))
  case atStart => exact ⟨0, rfl, Nat.zero_le _, Nat.le_refl _, Lib.hid ⟨G10, O7, ko, k, hk1, hk2, by rw [List.drop_zero]; exact HQ10.out⟩⟩
  case round =>
    clear HQ10
    obtain ⟨i, rfl, hi, him, HR⟩ := hrel
    by_cases hlt2 : i < pn
    case neg =>
      have hlt2' : ¬ (i : Int) < pn := by go_light; omega
      go_wp2_with fail
      obtain ⟨G', O', ko', k', a1, a2, hl⟩ := HR.out
      have e : s.ps.drop i = [] := List.drop_of_length_le (by rw [← HPN.out]; go_light; omega)
      rw [e] at hl
      have e2 : i = s.ps.length := by rw [← HPN.out]; go_light; omega
      exact Lib.hid ⟨G', O', ko', k', by rw [HSN.out, ← e2]; exact a1, by rw [HSN.out, ← e2]; exact a2, hl⟩
    case pos =>
      have hlt2' : (i : Int) < pn := by go_light; omega
      obtain ⟨G', O', ko', k', a1, a2, hq⟩ := HR.out
      have hip : i < s.ps.length := by rw [← HPN.out]; exact hlt2
      obtain ⟨a, b, hab⟩ : ∃ a b, s.ps[i] = (a, b) := ⟨_, _, rfl⟩
      have hpd := pairsB_drop hip
      rw [hab] at hpd
      have hpo := HOK.out.p _ (List.getElem_mem hip)
      rw [hab] at hpo
      have ha9 : a < 100000 := Nat.lt_trans hpo.1 H.out.ssl
      have hb9 : b < 100000 := Nat.lt_trans hpo.2 H.out.ssl
      have hbc : b < F.ss.length := hpo.2
      have hd0 : DB wr db2 F.b (Lib.uvarint a ++ (Lib.uvarint b ++ (pairsB (s.ps.drop (i + 1)) ++ (s.tl ++ (s.sm ++ rest))))) := by
        have := hq.d
        rw [hpd] at this
        simpa using this
      have hsn2 := H.out.sn
      have hsa := seN_at (show j < SL.length from hlt)
      have hil : seN (SL.take j) + i ≤ 200 := by
        have h1 := HSN.out
        have h2 := seN_take_le SL (j + 1)
        go_light; omega
      have HQ := Lib.hid hq
      have D0 := Lib.hid hd0
      clear hab hpd hpo hd0 hq HR hsa hsn2
      go_wp2_with fail
      refine (dbU_any db2 F.b a _ wr D0.out (by go_light; omega) (List.prefix_append _ _)).mono ?_
      rintro e w11 ⟨rfl, d11, k11⟩
      rw [List.drop_left] at d11
      obtain ⟨G11, hq11⟩ := HQ.out.dbs k11 d11
      have HQ11 := Lib.hid hq11
      have D11 := Lib.hid d11
      have za : IntKind.u32.wrap (a : Int) = a := by go_light; rw [IntKind.wrap_u32]; omega
      have zb : IntKind.u32.wrap (b : Int) = b := by go_light; rw [IntKind.wrap_u32]; omega
      clear d11 k11 hq11 HQ D0
      go_wp2_with fail
      refine (dbU_any db2 F.b b _ w11 D11.out (by go_light; omega) (List.prefix_append _ _)).mono ?_
      rintro e w12 ⟨rfl, d12, k12⟩
      rw [List.drop_left] at d12
      obtain ⟨G12, hq12⟩ := HQ11.out.dbs k12 d12
      obtain ⟨ok, vn, hnl⟩ := hq12.nsl (a := a) (by go_light; omega)
      have HQ12 := Lib.hid hq12
      clear d12 k12 hq12 HQ11 D11
      cases ok
      case false =>
        go_wp2_with fail
        go_roundg (pn - (i + 1))
        case measure => go_light; omega
        case rel => exact ⟨i + 1, by go_num, hlt2, Nat.le_refl _, Lib.hid ⟨G12, O', ko', k', by go_light; omega, by go_light; omega, HQ12.out⟩⟩
      case true =>
        obtain ⟨ok2, v2, hr1, hr2, hcase⟩ := HQ12.out.pm.look Tryz.underlying213 zero213 (a := a) (by go_light; omega)
        have HC := Lib.hid hcase
        clear hr2 hcase
        go_upto_if 262 with fail
        go_cut [] from 239 to 279 (fun wx => Hid (∃ G' O' ko1 mb, ko1 ≤ ko' + 1 ∧ L6 w G V F sf cap g no2 b5 ns db2 ob NM2 BN PL l1 l2 lp go kn ko1 k' F.ss.length O' (pairsB (s.ps.drop (i + 1)) ++ (s.tl ++ (s.sm ++ rest))) wx G' ∧ PMa wx O' (La w G' sf g b5 ns db2) F.ss.length ko1 k' ob a mb))
        case first =>
          rcases HC.out with ⟨rfl, mb, rfl, hpa⟩ | ⟨rfl, rfl⟩
          · have HPA := Lib.hid hpa
            clear hpa HC
            go_wp2_with fail
            go_meet
            exact Lib.hid ⟨G12, O', ko', mb, Nat.le_succ _, HQ12.out, HPA.out⟩
          · have hmm := @run_makeMap Tryz.prog
            obtain ⟨w13, O13, G13, hput, hl13, hpa13⟩ := HQ12.out.newmap (a := a) (by go_light; omega) (by go_light; omega)
            have HL13 := Lib.hid hl13
            have HPA := Lib.hid hpa13
            clear hl13 hpa13 HC
            go_wp2_with fail
            go_meet
            exact Lib.hid ⟨G13, O13, ko' + 1, _, Nat.le_refl _, HL13.out, HPA.out⟩
        case rest =>
          obtain ⟨G14, O14, ko1, mb, hko, hl14, hpa⟩ := hcut.out
          have ha32 : a < 4294967296 := by go_light; omega
          have hb32 : b < 4294967296 := by go_light; omega
          obtain ⟨hA0, _⟩ := hpa.out1 ha32
          have hA1 : ∀ o, (Instr.lookup 213 (.map (some ob)) (.int .u32 (a : Int)) false).run Tryz.prog (wc.alloc o).drew = .ok (.map (some mb)) (wc.alloc o).drew := fun o => hpa.outer Tryz.underlying213 zero213 ha32 (heap_alloc_old wc o hpa.m.lt)
          obtain ⟨v14, ⟨hI0, hI1'⟩, xs14, x1, x2, x3, x4⟩ := hpa.in1 hb32
          have hI1 : ∀ o, (Instr.lookup 215 (.map (some mb)) (.int .u32 (b : Int)) false).run Tryz.prog (wc.alloc o).drew = .ok v14 (wc.alloc o).drew := hI1'
          clear hI1'
          obtain ⟨ao14, c14, rfl⟩ := own_slice x1
          obtain ⟨n14, hn14⟩ : ∃ n14, n14 = xs14.length := ⟨_, rfl⟩
          rw [← hn14] at hI0 hI1
          have hk9 : k' ≤ 200 := by go_light; omega
          have hn9b : n14 ≤ 200 := by rw [hn14]; exact Nat.le_trans x2 hk9
          have hq9 := hq32
          have zq : IntKind.u32.wrap (q : Int) = q := by go_light; rw [IntKind.wrap_u32]; omega
          have zq64 : IntKind.u64.wrap (q : Int) = q := by go_light; rw [IntKind.wrap_u64]; omega
          have hrow : ∀ o : Obj, (wc.alloc o).drew.ownsRow 0 94 1 (.slice ao14 n14 c14) n14 (xs14.map u32V) := fun o => by
            have h := x1
            rw [← hn14] at h
            exact ownsRow_block (w := wc) (w' := (wc.alloc o).drew) h (fun k hk => heap_alloc_old wc _ (h.lt k hk).2)
          have HROW := Lib.hid hrow
          rw [← hn14] at x1 x4
          have happ : ∀ (o : Obj) (w2 : World) (v' : Value), App (wc.alloc o).drew w2 94 1 (.slice ao14 n14 c14) v' (n14 + 1) (xs14.map u32V ++ [.int .u32 (q : Int)]) → _ := fun o w2 v' ha => hl14.app3 (c := b) hpa (by go_light; omega) hbc ha32 hb32 (by rw [← hn14]; exact x1) x2 x3 x4 hn14 hq9 ha
          have HAPP := Lib.hid happ
          clear happ hrow x1 x2 x3 x4 hn14 hl14 hpa hcut
          go_upto_region 70 with fail
          go_region_held3 (fun w' => (Instr.lookup 213 (.map (some ob)) (.int .u32 (a : Int)) false).run Tryz.prog w' = .ok (.map (some mb)) w') (first | (with_reducible assumption) | (with_reducible exact hA1 _)) (first | (refine step_app _ rfl _ _ 149 rfl 94 i94 (.int .u32 0) 1 4 und149 hi94 hz94 hs94 hb94 rfl (by decide) (.slice ao14 n14 c14) n14 (xs14.map u32V) rfl (HROW.out _) (some ⟨wc.heap.size, 0, none⟩) 1 1 [.int .u32 q] rfl rfl (fun e => by cases e) (one_new wc (.int .u32 q) 94) (by simp [Value.oneCell']) (by go_light; unfold maxLen; omega) (by go_light; omega) (fun v' w' ha => ?_); obtain ⟨ao', c', rfl⟩ := own_slice ha.own; obtain ⟨hA2, w3, O3, G3, hput, hA3, hl3⟩ := HAPP.out _ _ _ ha; have HL3 := Lib.hid hl3; clear ha hl3))
          all_goals
            go_wp2_with fail
            go_roundg (pn - (i + 1))
            case measure => go_light; omega
            case rel => exact ⟨i + 1, by go_num, hlt2, Nat.le_refl _, Lib.hid ⟨G3, O3, ko1, k' + 1, by go_light; omega, by go_light; omega, HL3.out⟩⟩

end Go.Proofs.YtfipfoplmopkaaaGreatDoor
