/-
  Statement 17: the model's first walk: over the holders, or the skipped one handed over now.
-/
import Derived.Test.YbulkcahwDoorT18
namespace Go.Proofs.YbulkcahwDoor.Ho
open Go.RowKit
set_option linter.unusedVariables false
set_option linter.unusedSimpArgs false

set_option maxRecDepth 1000000 in
set_option maxHeartbeats 4000000 in
theorem T17t (w0 wP : World) (B n0 hb ho qb qo qi mode kh kq hc qc at' up upF : Nat) (ha qa : Option Addr) (tt g : Bool) (hx qx : Nat → Nat × Nat) (s sF : St) {x2 x3 x4 x5 x6 x8 x9 x10 x11 x12 x13 x14 x15 x16 x17 x18 x19 x20 x21 x22 x25 x26 x27 x28 x29 x30 x37 x40 x41 x42 x43 x44 x45 x46 x47 x48 x49 x50 x51 x52 x53 x54 x55 x56 x57 x58 x59 x60 x61 x62 x63 x64 x65 x66 x67 x68 x69 x70 x71 x72 x73 x74 x75 x76 x77 x78 x79 x80 x81 x82 x83 x84 x85 x86 x87 x88 x89 x90 x91 x92 x93 x94 x95 x96 x97 x98 x99 x100 x101 x102 x103 x104 x105 x106 x107 x108 x109 x110 x111 x112 x113 x114 x115 x116 x117 x118 x119 x120 x121 x122 x123 x124 x125 x126 x127 x128 x129 x130 x131 x132 x133 x134 x135 x136 x137 x138 x139 x140 x141 x142 x143 x144 x145 x146 x147 x148 x149 x150 x151 x152 x153 x154 x155 x156 x157 x158 x159 x160 x161 x162 x163 x164 x165 x166 x167 x168 x169 x170 x171 x172 x173 x174 x175 x176 x177 x178 x179 x180 x181 x182 x183 x184 x185 x186 x187 x188 x189 x190 x191 x192 x193 x194 x195 x196 x197 x198 x199 x200 x201 x202 x203 x204 x205 x206 x207 x208 x209 x210 x211 x212 x213 x214 x215 x216 x217 x218 x219 x220 x221 x222 x223 x224 x225 x226 x227 x228 x229 x230 x231 x232 x233 x234 x235 x236 x237 x238 x239 x240 x241 x242 x243 x244 x245 x246 x247 x248 x249 x250 x251 x252 x253 x254 x255 x256 x257 x258 x259 x260 x261 x262 x263 x264 x265 x266 x267 x268 x269 x270 x271 x272 x273 x274 x275 x276 x277 x278 x279 x280 x281 x282 x283 x284 x285 x286 x287 x288 x289 x290 x291 x292 x293 x294 x295 x296 x297 x298 x299 x300 x301 x302 x303 x304 x305 x306 x307 x308 x309 x310 x311 x312 x313 x314 x315 x316 x317 x318 x319 x320 x321 x322 x323 x324 x325 x326 x327 x328 x329 x330 x331 x332 x333 x334 x335 x336 x337 x338 x339 x340 x341 x342 x343 x344 x345 x346 x347 x348 x349 x350 x351 x352 x353 x354 x355 x356 x357 x358 x359 x360 x361 x362 x363 x364 x365 x366 x367 x368 x369 x370 x371 x372 x373 x374 x375 x376 x377 x378 x379 x380 x381 x382 x383 x384 x385 x386 x387 x388 x389 x390 x391 x392 x393 x394 x395 x396 x397 x398 x399 x400 x401 x402 x403 x404 x405 x406 x407 x408 x409 x410 x411 x412 x413 x414 x415 x416 x417 x418 x419 x420 x421 : Value} (hA : Aft w0 wP B n0 mode tt sF upF) (hM : Md0 wP (B + 1) tt qi s.seen s.skip s.skAt) (hs1 : s.stk = []) (hs2 : s.back = false) (hs3 : s.skip = none) (hs4 : s.skAt = 0)
    (hres : handF tt qi mode (ents kh (red hx)) (ents kq (red qx)) at' s = (g, upF, sF)) (hkh : kh ≤ 1024) (hkq : kq ≤ 1024) (hup : up ≤ kq) (hat : at' ≤ kq) (hH : In w0 ha kh hb ho hx) (hQ : In w0 qa kq qb qo qx) (hB : B = w0.heap.size) (hq4 : qi < 4) (hm6 : mode < 6) :
    Code.wp Ybad.prog (rest 17) (Goal w0 B) ⟨List.toArray (.slice ha kh hc :: .slice qa kq qc :: x2 :: x3 :: x4 :: x5 :: x6 :: .bool true :: x8 :: x9 :: x10 :: x11 :: x12 :: x13 :: x14 :: x15 :: x16 :: x17 :: x18 :: x19 :: x20 :: x21 :: x22 :: .pointer (some ⟨B, 0, none⟩) :: .pointer (some ⟨B + 1, 0, none⟩) :: x25 :: x26 :: x27 :: x28 :: x29 :: x30 :: .int .i64 (at' : Nat) :: .int .i64 (mode : Nat) :: .pointer (some ⟨n0, 0, none⟩) :: .pointer (some ⟨n0 + 2, 0, none⟩) :: .pointer (some ⟨n0 + 3, 0, none⟩) :: .int .i64 (up : Nat) :: x37 :: .bool g :: .bool false :: x40 :: x41 :: x42 :: x43 :: x44 :: x45 :: x46 :: x47 :: x48 :: x49 :: x50 :: x51 :: x52 :: x53 :: x54 :: x55 :: x56 :: x57 :: x58 :: x59 :: x60 :: x61 :: x62 :: x63 :: x64 :: x65 :: x66 :: x67 :: x68 :: x69 :: x70 :: x71 :: x72 :: x73 :: x74 :: x75 :: x76 :: x77 :: x78 :: x79 :: x80 :: x81 :: x82 :: x83 :: x84 :: x85 :: x86 :: x87 :: x88 :: x89 :: x90 :: x91 :: x92 :: x93 :: x94 :: x95 :: x96 :: x97 :: x98 :: x99 :: x100 :: x101 :: x102 :: x103 :: x104 :: x105 :: x106 :: x107 :: x108 :: x109 :: x110 :: x111 :: x112 :: x113 :: x114 :: x115 :: x116 :: x117 :: x118 :: x119 :: x120 :: x121 :: x122 :: x123 :: x124 :: x125 :: x126 :: x127 :: x128 :: x129 :: x130 :: x131 :: x132 :: x133 :: x134 :: x135 :: x136 :: x137 :: x138 :: x139 :: x140 :: x141 :: x142 :: x143 :: x144 :: x145 :: x146 :: x147 :: x148 :: x149 :: x150 :: x151 :: x152 :: x153 :: x154 :: x155 :: x156 :: x157 :: x158 :: x159 :: x160 :: x161 :: x162 :: x163 :: x164 :: x165 :: x166 :: x167 :: x168 :: x169 :: x170 :: x171 :: x172 :: x173 :: x174 :: x175 :: x176 :: x177 :: x178 :: x179 :: x180 :: x181 :: x182 :: x183 :: x184 :: x185 :: x186 :: x187 :: x188 :: x189 :: x190 :: x191 :: x192 :: x193 :: x194 :: x195 :: x196 :: x197 :: x198 :: x199 :: x200 :: x201 :: x202 :: x203 :: x204 :: x205 :: x206 :: x207 :: x208 :: x209 :: x210 :: x211 :: x212 :: x213 :: x214 :: x215 :: x216 :: x217 :: x218 :: x219 :: x220 :: x221 :: x222 :: x223 :: x224 :: x225 :: x226 :: x227 :: x228 :: x229 :: x230 :: x231 :: x232 :: x233 :: x234 :: x235 :: x236 :: x237 :: x238 :: x239 :: x240 :: x241 :: x242 :: x243 :: x244 :: x245 :: x246 :: x247 :: x248 :: x249 :: x250 :: x251 :: x252 :: x253 :: x254 :: x255 :: x256 :: x257 :: x258 :: x259 :: x260 :: x261 :: x262 :: x263 :: x264 :: x265 :: x266 :: x267 :: x268 :: x269 :: x270 :: x271 :: x272 :: x273 :: x274 :: x275 :: x276 :: x277 :: x278 :: x279 :: x280 :: x281 :: x282 :: x283 :: x284 :: x285 :: x286 :: x287 :: x288 :: x289 :: x290 :: x291 :: x292 :: x293 :: x294 :: x295 :: x296 :: x297 :: x298 :: x299 :: x300 :: x301 :: x302 :: x303 :: x304 :: x305 :: x306 :: x307 :: x308 :: x309 :: x310 :: x311 :: x312 :: x313 :: x314 :: x315 :: x316 :: x317 :: x318 :: x319 :: x320 :: x321 :: x322 :: x323 :: x324 :: x325 :: x326 :: x327 :: x328 :: x329 :: x330 :: x331 :: x332 :: x333 :: x334 :: x335 :: x336 :: x337 :: x338 :: x339 :: x340 :: x341 :: x342 :: x343 :: x344 :: x345 :: x346 :: x347 :: x348 :: x349 :: x350 :: x351 :: x352 :: x353 :: x354 :: x355 :: x356 :: x357 :: x358 :: x359 :: x360 :: x361 :: x362 :: x363 :: x364 :: x365 :: x366 :: x367 :: x368 :: x369 :: x370 :: x371 :: x372 :: x373 :: x374 :: x375 :: x376 :: x377 :: x378 :: x379 :: x380 :: x381 :: x382 :: x383 :: x384 :: x385 :: x386 :: x387 :: x388 :: x389 :: x390 :: x391 :: x392 :: x393 :: x394 :: x395 :: x396 :: x397 :: x398 :: x399 :: x400 :: x401 :: x402 :: x403 :: x404 :: x405 :: x406 :: x407 :: x408 :: x409 :: x410 :: x411 :: x412 :: x413 :: x414 :: x415 :: x416 :: x417 :: x418 :: x419 :: x420 :: x421 :: []), []⟩ wP := by
  obtain ⟨N, hN⟩ : ∃ N, N = wP.heap.size := ⟨_, rfl⟩
  have HN := hide hN
  have HA := hide hA
  have HM := hide hM
  have HR := hide hres
  have HH := hide hH
  have HQ := hide hQ
  have HB := hide hB
  have hlay := hA.gos.lay
  have hsz := hA.gos.size
  clear hA hM hres hH hQ hB
  refine wp_seq (x := st 17) (y := rest 18) ?_
  obtain ⟨K, HK⟩ : ∃ K, K = Code.wp Ybad.prog (rest 18) (Goal w0 B) := ⟨_, rfl⟩
  rw [← HK]
  have HKK := hide HK
  clear HK
  conv => arg 2; whnf
  have f1 := HM.out.free.frozen
  have m8 := HM.out.s8
  have m9 := HM.out.s9
  have HM0 : Hid (MdS ((wP.setCell ⟨B + 1, 8, none⟩ (.int .i64 (-1))).setCell ⟨B + 1, 9, none⟩ (.int .i64 0)) (B + 1) N tt qi s) := by
    have h1 := ((HM.out.setSkip none).setSkAt 0).toMdS N (by omega) (by simp [hN])
    obtain ⟨se, ba, sk, sp, sa⟩ := s
    simp only at hs1 hs2 hs3 hs4
    subst hs1 hs2 hs3 hs4
    exact h1
  have HF0 : Hid (FrM (B + 1) N wP ((wP.setCell ⟨B + 1, 8, none⟩ (.int .i64 (-1))).setCell ⟨B + 1, 9, none⟩ (.int .i64 0))) := ((FrM.refl _ _ _).set 8 _).set 9 _
  have HS0 : Hid (Small s) := ⟨by rw [hs1]; simp, by rw [hs3]; simp⟩
  have hl0 : s.stk.length = 0 := by rw [hs1]; rfl
  clear hN hs1 hs2 hs3 hs4 HM
  go_wp2_with fail
  clear m8 m9 f1
  generalize (wP.setCell ⟨B + 1, 8, none⟩ (.int .i64 (-1))).setCell ⟨B + 1, 9, none⟩ (.int .i64 0) = w2 at *
  go_loopg [224, 39] kh (fun m s224 s39 wr => ∃ (i : Nat) (t : St), i ≤ kh ∧ m = kh - i ∧ s224 = .int .i64 (i : Nat) ∧ s39 = .bool false ∧ MdS wr (B + 1) N tt qi t ∧ FrM (B + 1) N wP wr ∧ Small t ∧ t.stk.length ≤ i ∧ Hid (holds tt qi mode ((ents kh (red hx)).drop i) t = holds tt qi mode (ents kh (red hx)) s))
  case atStart => exact ⟨0, s, Nat.zero_le _, rfl, rfl, rfl, HM0.out, HF0.out, HS0.out, by omega, rfl⟩
  case round =>
    clear HM0 HF0 HS0 hl0
    obtain ⟨i, t, hi, rfl, rfl, rfl, hM, hF, hS, hl, HO⟩ := hrel
    by_cases hlt : i < kh
    · have hd : decide ((i : Int) < (kh : Int)) = true := decide_eq_true (by omega)
      have hBw := HA.out.below HN.out hF
      have hI := HH.out.below (by rw [← HB.out]; exact hBw)
      obtain rfl := hI.a (by omega)
      have c0 := hI.c0 i hlt
      have c1 := hI.c1 i hlt
      have hbd := hI.bd i hlt
      have hqb : hb < wr.heap.size := World.block_lt_of_cell? _ _ c0
      obtain ⟨u, m, hu4, hm6', hum, hu, hm⟩ : ∃ u m : Nat, u < 4 ∧ m < 6 ∧ red hx i = (u, m) ∧ (((hx i).1 : Nat) : Int) % 4 = (u : Int) ∧ (((hx i).2 : Nat) : Int) % 6 = (m : Int) := ⟨(hx i).1 % 4, (hx i).2 % 6, by omega, by omega, rfl, by omega, by omega⟩
      have HE := hide (ents_drop kh (red hx) i hlt)
      have HUM := hide hum
      generalize (hx i).1 = ea at *
      generalize (hx i).2 = eb at *
      have hMW := hide (hM.alloc (.cells #[.int .u8 (ea : Nat), .int .u8 (eb : Nat)] 76))
      have hFW := hide (hF.alloc hM.size (.cells #[.int .u8 (ea : Nat), .int .u8 (eb : Nat)] 76))
      have HSt := hide hS
      clear hM hF hS hI hBw hum
      cases hc : cmp m mode with
      | true =>
        have HQ2 : Hid (holds tt qi mode ((ents kh (red hx)).drop (i + 1)) t = holds tt qi mode (ents kh (red hx)) s) := by
          have h1 := HO.out
          rw [HE.out, HUM.out, holds_yes hc] at h1
          exact h1
        go_wp2_with fail
        refine Calls.mono (compat_any _ m mode hm6' hm6) ?_
        rintro e w' ⟨rfl, rfl⟩
        simp only [hc]
        go_wp2
        go_roundg (kh - (i + 1))
        case measure => go_light; omega
        case rel => go_light; exact ⟨i + 1, t, by omega, rfl, by go_num, rfl, hMW.out, hFW.out, HSt.out, by omega, HQ2⟩
      | false =>
        go_wp2_with fail
        refine Calls.mono (compat_any _ m mode hm6' hm6) ?_
        rintro e w' ⟨rfl, rfl⟩
        simp only [hc]
        go_wp2_with fail
        refine Calls.mono (mconfl_any _ (B + 1) N qi tt t u (-1) hu4 hq4 hMW.out (by omega) HSt.out) ?_
        rintro e w' ⟨rfl, hM2, hF2⟩
        have HM2 := hide hM2
        have HF2 := hide (hFW.out.trans hF2)
        have HS2 := hide (confl_small (tt := tt) (qi := qi) (u := u) (a := -1) HSt.out hu4 hq4)
        have hl2 := confl_len tt qi u (-1) t
        clear hM2 hF2 hMW hFW
        cases hcc : (confl tt qi u (-1) t).1 with
        | true =>
          have HRes : Hid (Res tt qi mode at' (red qx) true 0 (confl tt qi u (-1) t).2 g upF sF) := by
            have h1 := HO.out
            rw [HE.out, HUM.out, holds_hit hc hcc] at h1
            have h2 := HR.out
            rw [handF_hit h1.symm] at h2
            exact h2
          simp only []
          go_wp2
          rw [HKK.out]
          exact T18 w0 wP _ B n0 N qb qo qi mode kq qc at' upF 0 qa tt g true qx sF _ HA.out HN.out HF2.out HM2.out HS2.out (by omega) HRes.out hkq (by omega) hat HQ.out HB.out hq4 hm6
        | false =>
          have HQ2 : Hid (holds tt qi mode ((ents kh (red hx)).drop (i + 1)) (confl tt qi u (-1) t).2 = holds tt qi mode (ents kh (red hx)) s) := by
            have h1 := HO.out
            rw [HE.out, HUM.out, holds_on hc hcc] at h1
            exact h1
          simp only []
          go_wp2
          go_roundg (kh - (i + 1))
          case measure => go_light; omega
          case rel => go_light; exact ⟨i + 1, _, by omega, rfl, by go_num, rfl, HM2.out, HF2.out, HS2.out, by omega, HQ2⟩
    · have hd : decide ((i : Int) < (kh : Int)) = false := decide_eq_false (by omega)
      have HRes : Hid (Res tt qi mode at' (red qx) false 0 t g upF sF) := by
        have h1 := HO.out
        rw [ents_end kh (red hx) i (by omega)] at h1
        have h2 := HR.out
        rw [handF_on h1.symm, ents_take kq (red qx) at' hat] at h2
        exact h2
      have HM2 := hide hM
      have HF2 := hide hF
      have HS2 := hide hS
      clear hM hF hS HO HR
      go_wp2
      rw [HKK.out]
      exact T18 w0 wP _ B n0 N qb qo qi mode kq qc at' upF 0 qa tt g false qx sF t HA.out HN.out HF2.out HM2.out HS2.out (by omega) HRes.out hkq (by omega) hat HQ.out HB.out hq4 hm6

set_option maxRecDepth 1000000 in
set_option maxHeartbeats 4000000 in
theorem T17f (w0 wP : World) (B n0 hb ho qb qo qi mode kh kq hc qc at' up upF : Nat) (ha qa : Option Addr) (tt g : Bool) (hx qx : Nat → Nat × Nat) (s sF : St) {x2 x3 x4 x5 x6 x8 x9 x10 x11 x12 x13 x14 x15 x16 x17 x18 x19 x20 x21 x22 x25 x26 x27 x28 x29 x30 x37 x40 x41 x42 x43 x44 x45 x46 x47 x48 x49 x50 x51 x52 x53 x54 x55 x56 x57 x58 x59 x60 x61 x62 x63 x64 x65 x66 x67 x68 x69 x70 x71 x72 x73 x74 x75 x76 x77 x78 x79 x80 x81 x82 x83 x84 x85 x86 x87 x88 x89 x90 x91 x92 x93 x94 x95 x96 x97 x98 x99 x100 x101 x102 x103 x104 x105 x106 x107 x108 x109 x110 x111 x112 x113 x114 x115 x116 x117 x118 x119 x120 x121 x122 x123 x124 x125 x126 x127 x128 x129 x130 x131 x132 x133 x134 x135 x136 x137 x138 x139 x140 x141 x142 x143 x144 x145 x146 x147 x148 x149 x150 x151 x152 x153 x154 x155 x156 x157 x158 x159 x160 x161 x162 x163 x164 x165 x166 x167 x168 x169 x170 x171 x172 x173 x174 x175 x176 x177 x178 x179 x180 x181 x182 x183 x184 x185 x186 x187 x188 x189 x190 x191 x192 x193 x194 x195 x196 x197 x198 x199 x200 x201 x202 x203 x204 x205 x206 x207 x208 x209 x210 x211 x212 x213 x214 x215 x216 x217 x218 x219 x220 x221 x222 x223 x224 x225 x226 x227 x228 x229 x230 x231 x232 x233 x234 x235 x236 x237 x238 x239 x240 x241 x242 x243 x244 x245 x246 x247 x248 x249 x250 x251 x252 x253 x254 x255 x256 x257 x258 x259 x260 x261 x262 x263 x264 x265 x266 x267 x268 x269 x270 x271 x272 x273 x274 x275 x276 x277 x278 x279 x280 x281 x282 x283 x284 x285 x286 x287 x288 x289 x290 x291 x292 x293 x294 x295 x296 x297 x298 x299 x300 x301 x302 x303 x304 x305 x306 x307 x308 x309 x310 x311 x312 x313 x314 x315 x316 x317 x318 x319 x320 x321 x322 x323 x324 x325 x326 x327 x328 x329 x330 x331 x332 x333 x334 x335 x336 x337 x338 x339 x340 x341 x342 x343 x344 x345 x346 x347 x348 x349 x350 x351 x352 x353 x354 x355 x356 x357 x358 x359 x360 x361 x362 x363 x364 x365 x366 x367 x368 x369 x370 x371 x372 x373 x374 x375 x376 x377 x378 x379 x380 x381 x382 x383 x384 x385 x386 x387 x388 x389 x390 x391 x392 x393 x394 x395 x396 x397 x398 x399 x400 x401 x402 x403 x404 x405 x406 x407 x408 x409 x410 x411 x412 x413 x414 x415 x416 x417 x418 x419 x420 x421 : Value} (hA : Aft w0 wP B n0 mode tt sF upF) (hM : Md0 wP (B + 1) tt qi s.seen s.skip s.skAt) (hs1 : s.stk = []) (hs2 : s.back = false) (hs3 : ∀ u, s.skip = some u → u < 4)
    (hres : handN tt qi mode (ents kq (red qx)) at' up s = (g, upF, sF)) (hkh : kh ≤ 1024) (hkq : kq ≤ 1024) (hup : up ≤ kq) (hat : at' ≤ kq) (hH : In w0 ha kh hb ho hx) (hQ : In w0 qa kq qb qo qx) (hB : B = w0.heap.size) (hq4 : qi < 4) (hm6 : mode < 6) :
    Code.wp Ybad.prog (rest 17) (Goal w0 B) ⟨List.toArray (.slice ha kh hc :: .slice qa kq qc :: x2 :: x3 :: x4 :: x5 :: x6 :: .bool false :: x8 :: x9 :: x10 :: x11 :: x12 :: x13 :: x14 :: x15 :: x16 :: x17 :: x18 :: x19 :: x20 :: x21 :: x22 :: .pointer (some ⟨B, 0, none⟩) :: .pointer (some ⟨B + 1, 0, none⟩) :: x25 :: x26 :: x27 :: x28 :: x29 :: x30 :: .int .i64 (at' : Nat) :: .int .i64 (mode : Nat) :: .pointer (some ⟨n0, 0, none⟩) :: .pointer (some ⟨n0 + 2, 0, none⟩) :: .pointer (some ⟨n0 + 3, 0, none⟩) :: .int .i64 (up : Nat) :: x37 :: .bool g :: .bool false :: x40 :: x41 :: x42 :: x43 :: x44 :: x45 :: x46 :: x47 :: x48 :: x49 :: x50 :: x51 :: x52 :: x53 :: x54 :: x55 :: x56 :: x57 :: x58 :: x59 :: x60 :: x61 :: x62 :: x63 :: x64 :: x65 :: x66 :: x67 :: x68 :: x69 :: x70 :: x71 :: x72 :: x73 :: x74 :: x75 :: x76 :: x77 :: x78 :: x79 :: x80 :: x81 :: x82 :: x83 :: x84 :: x85 :: x86 :: x87 :: x88 :: x89 :: x90 :: x91 :: x92 :: x93 :: x94 :: x95 :: x96 :: x97 :: x98 :: x99 :: x100 :: x101 :: x102 :: x103 :: x104 :: x105 :: x106 :: x107 :: x108 :: x109 :: x110 :: x111 :: x112 :: x113 :: x114 :: x115 :: x116 :: x117 :: x118 :: x119 :: x120 :: x121 :: x122 :: x123 :: x124 :: x125 :: x126 :: x127 :: x128 :: x129 :: x130 :: x131 :: x132 :: x133 :: x134 :: x135 :: x136 :: x137 :: x138 :: x139 :: x140 :: x141 :: x142 :: x143 :: x144 :: x145 :: x146 :: x147 :: x148 :: x149 :: x150 :: x151 :: x152 :: x153 :: x154 :: x155 :: x156 :: x157 :: x158 :: x159 :: x160 :: x161 :: x162 :: x163 :: x164 :: x165 :: x166 :: x167 :: x168 :: x169 :: x170 :: x171 :: x172 :: x173 :: x174 :: x175 :: x176 :: x177 :: x178 :: x179 :: x180 :: x181 :: x182 :: x183 :: x184 :: x185 :: x186 :: x187 :: x188 :: x189 :: x190 :: x191 :: x192 :: x193 :: x194 :: x195 :: x196 :: x197 :: x198 :: x199 :: x200 :: x201 :: x202 :: x203 :: x204 :: x205 :: x206 :: x207 :: x208 :: x209 :: x210 :: x211 :: x212 :: x213 :: x214 :: x215 :: x216 :: x217 :: x218 :: x219 :: x220 :: x221 :: x222 :: x223 :: x224 :: x225 :: x226 :: x227 :: x228 :: x229 :: x230 :: x231 :: x232 :: x233 :: x234 :: x235 :: x236 :: x237 :: x238 :: x239 :: x240 :: x241 :: x242 :: x243 :: x244 :: x245 :: x246 :: x247 :: x248 :: x249 :: x250 :: x251 :: x252 :: x253 :: x254 :: x255 :: x256 :: x257 :: x258 :: x259 :: x260 :: x261 :: x262 :: x263 :: x264 :: x265 :: x266 :: x267 :: x268 :: x269 :: x270 :: x271 :: x272 :: x273 :: x274 :: x275 :: x276 :: x277 :: x278 :: x279 :: x280 :: x281 :: x282 :: x283 :: x284 :: x285 :: x286 :: x287 :: x288 :: x289 :: x290 :: x291 :: x292 :: x293 :: x294 :: x295 :: x296 :: x297 :: x298 :: x299 :: x300 :: x301 :: x302 :: x303 :: x304 :: x305 :: x306 :: x307 :: x308 :: x309 :: x310 :: x311 :: x312 :: x313 :: x314 :: x315 :: x316 :: x317 :: x318 :: x319 :: x320 :: x321 :: x322 :: x323 :: x324 :: x325 :: x326 :: x327 :: x328 :: x329 :: x330 :: x331 :: x332 :: x333 :: x334 :: x335 :: x336 :: x337 :: x338 :: x339 :: x340 :: x341 :: x342 :: x343 :: x344 :: x345 :: x346 :: x347 :: x348 :: x349 :: x350 :: x351 :: x352 :: x353 :: x354 :: x355 :: x356 :: x357 :: x358 :: x359 :: x360 :: x361 :: x362 :: x363 :: x364 :: x365 :: x366 :: x367 :: x368 :: x369 :: x370 :: x371 :: x372 :: x373 :: x374 :: x375 :: x376 :: x377 :: x378 :: x379 :: x380 :: x381 :: x382 :: x383 :: x384 :: x385 :: x386 :: x387 :: x388 :: x389 :: x390 :: x391 :: x392 :: x393 :: x394 :: x395 :: x396 :: x397 :: x398 :: x399 :: x400 :: x401 :: x402 :: x403 :: x404 :: x405 :: x406 :: x407 :: x408 :: x409 :: x410 :: x411 :: x412 :: x413 :: x414 :: x415 :: x416 :: x417 :: x418 :: x419 :: x420 :: x421 :: []), []⟩ wP := by
  obtain ⟨N, hN⟩ : ∃ N, N = wP.heap.size := ⟨_, rfl⟩
  have HN := hide hN
  have HA := hide hA
  have HM := hide hM
  have HR := hide hres
  have HH := hide hH
  have HQ := hide hQ
  have HB := hide hB
  have hlay := hA.gos.lay
  have hsz := hA.gos.size
  clear hA hM hres hH hQ hB
  refine wp_seq (x := st 17) (y := rest 18) ?_
  obtain ⟨K, HK⟩ : ∃ K, K = Code.wp Ybad.prog (rest 18) (Goal w0 B) := ⟨_, rfl⟩
  rw [← HK]
  have HKK := hide HK
  clear HK
  conv => arg 2; whnf
  have HM0 : Hid (MdS wP (B + 1) N tt qi s) := by
    have h1 := HM.out.toMdS N (by omega) (by omega)
    obtain ⟨se, ba, sk, sp, sa⟩ := s
    simp only at hs1 hs2
    subst hs1 hs2
    exact h1
  have HS0 : Hid (Small s) := ⟨by rw [hs1]; simp, hs3⟩
  have hl0 : s.stk.length = 0 := by rw [hs1]; rfl
  have m7 := HM.out.s7
  have m8 := HM.out.s8
  have m9 := HM.out.s9
  have f1 := HM.out.free.frozen
  have HStay : (∀ u, s.skip = some u → u ≠ qi → (at' : Int) ≤ s.skAt) → Res tt qi mode at' (red qx) false up s g upF sF := fun h => by
    have h2 := HR.out
    rw [handN_stay h, ents_take kq (red qx) at' hat] at h2
    exact h2
  have HStay := hide HStay
  clear hN hs1 hs2
  cases hk : s.skip with
  | none =>
    have HRes := hide (HStay.out (fun u hu => by rw [hk] at hu; simp at hu))
    simp only [hk, skipI] at m8
    clear hk f1
    go_wp2_with fail
    go_quiet (fail)
    go_wp2
    rw [HKK.out]
    exact T18 w0 wP _ B n0 N qb qo qi mode kq qc at' upF up qa tt g false qx sF s HA.out HN.out ((FrM.refl _ _ _).drewN _) (HM0.out.drewN _) HS0.out (by omega) HRes.out hkq hup hat HQ.out HB.out hq4 hm6
  | some u =>
    have hu4 := hs3 u hk
    have hge : decide ((0 : Int) ≤ (u : Int)) = true := decide_eq_true (by omega)
    simp only [hk, skipI] at m8
    by_cases hq : u = qi
    · have hne : ((u : Int) != (qi : Int)) = false := by simp [hq]
      have HRes := hide (HStay.out (fun u' hu hc => by rw [hk] at hu; simp at hu; omega))
      clear hk f1 hs3 hq
      go_wp2_with fail
      go_quiet (fail)
      go_wp2
      rw [HKK.out]
      exact T18 w0 wP _ B n0 N qb qo qi mode kq qc at' upF up qa tt g false qx sF s HA.out HN.out ((FrM.refl _ _ _).drewN _) (HM0.out.drewN _) HS0.out (by omega) HRes.out hkq hup hat HQ.out HB.out hq4 hm6
    · have hne : ((u : Int) != (qi : Int)) = true := by simp; omega
      by_cases ha' : s.skAt < (at' : Int)
      · have hda : decide (s.skAt < (at' : Int)) = true := decide_eq_true ha'
        have HRedo := hide (handN_redo (tt := tt) (mode := mode) (ql := ents kq (red qx)) (up := up) hk hq ha')
        have HS1 : Hid (Small { s with skip := none }) := ⟨HS0.out.1, fun _ h => by simp at h⟩
        have hl1 := reach_len tt u { s with skip := none }
        clear hk hs3
        go_wp2_with fail
        go_quiet (fail)
        have HM1 := hide ((HM0.out.drewN nq).setSkip none)
        have HF1 := hide (((FrM.refl (B + 1) N wP).drewN nq).set 8 (.int .i64 (-1)))
        simp only [skipI] at HM1
        go_wp2_with fail
        refine Calls.mono (mreach_any _ (B + 1) N qi tt { s with skip := none } u hu4 HM1.out (by show s.stk.length ≤ 100000; omega)) ?_
        rintro e w' ⟨rfl, hM2, hF2⟩
        have HM2 := hide hM2
        have HF2 := hide (HF1.out.trans hF2)
        have HS2 := hide (reach_small (tt := tt) HS1.out hu4)
        have hl2 : (reach tt u { s with skip := none }).2.stk.length ≤ 4000 := by
          have : ({ s with skip := none } : St).stk.length = s.stk.length := rfl
          omega
        clear hM2 hF2 HM1 HF1 hl1
        cases hcc : (reach tt u { s with skip := none }).1 with
        | true =>
          have HRes : Hid (Res tt qi mode at' (red qx) true up (reach tt u { s with skip := none }).2 g upF sF) := by
            have h2 := HR.out
            rw [HRedo.out, if_pos hcc] at h2
            exact h2
          simp only []
          go_wp2
          rw [HKK.out]
          exact T18 w0 wP _ B n0 N qb qo qi mode kq qc at' upF up qa tt g true qx sF _ HA.out HN.out HF2.out HM2.out HS2.out hl2 HRes.out hkq hup hat HQ.out HB.out hq4 hm6
        | false =>
          have HRes : Hid (Res tt qi mode at' (red qx) false up (reach tt u { s with skip := none }).2 g upF sF) := by
            have h2 := HR.out
            rw [HRedo.out, if_neg (by rw [hcc]; simp), ents_take kq (red qx) at' hat] at h2
            exact h2
          simp only []
          go_wp2
          rw [HKK.out]
          exact T18 w0 wP _ B n0 N qb qo qi mode kq qc at' upF up qa tt g false qx sF _ HA.out HN.out HF2.out HM2.out HS2.out hl2 HRes.out hkq hup hat HQ.out HB.out hq4 hm6
      · have hda : decide (s.skAt < (at' : Int)) = false := decide_eq_false ha'
        have HRes := hide (HStay.out (fun u' hu hc => by omega))
        clear hk f1 hs3 ha'
        go_wp2_with fail
        go_quiet (fail)
        go_wp2
        rw [HKK.out]
        exact T18 w0 wP _ B n0 N qb qo qi mode kq qc at' upF up qa tt g false qx sF s HA.out HN.out ((FrM.refl _ _ _).drewN _) (HM0.out.drewN _) HS0.out (by omega) HRes.out hkq hup hat HQ.out HB.out hq4 hm6

end Go.Proofs.YbulkcahwDoor.Ho
