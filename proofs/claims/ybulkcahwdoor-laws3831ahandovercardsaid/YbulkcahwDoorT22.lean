/-
  Statement 22: the marks.
-/
import Derived.Test.YbulkcahwDoorT23
namespace Go.Proofs.YbulkcahwDoor.Ho
open Go.RowKit
set_option linter.unusedVariables false
set_option linter.unusedSimpArgs false

set_option maxRecDepth 1000000 in
set_option maxHeartbeats 4000000 in
theorem T22 (w0 wx : World) (B n0 N qi mode up : Nat) (tt : Bool) (s : St) {x0 x1 x2 x3 x4 x5 x6 x7 x8 x9 x10 x11 x12 x13 x14 x15 x16 x17 x18 x19 x20 x21 x22 x25 x26 x27 x28 x29 x30 x31 x33 x34 x37 x38 x39 x40 x41 x42 x43 x44 x45 x46 x47 x48 x49 x50 x51 x52 x53 x54 x55 x56 x57 x58 x59 x60 x61 x62 x63 x64 x65 x66 x67 x68 x69 x70 x71 x72 x73 x74 x75 x76 x77 x78 x79 x80 x81 x82 x83 x84 x85 x86 x87 x88 x89 x90 x91 x92 x93 x94 x95 x96 x97 x98 x99 x100 x101 x102 x103 x104 x105 x106 x107 x108 x109 x110 x111 x112 x113 x114 x115 x116 x117 x118 x119 x120 x121 x122 x123 x124 x125 x126 x127 x128 x129 x130 x131 x132 x133 x134 x135 x136 x137 x138 x139 x140 x141 x142 x143 x144 x145 x146 x147 x148 x149 x150 x151 x152 x153 x154 x155 x156 x157 x158 x159 x160 x161 x162 x163 x164 x165 x166 x167 x168 x169 x170 x171 x172 x173 x174 x175 x176 x177 x178 x179 x180 x181 x182 x183 x184 x185 x186 x187 x188 x189 x190 x191 x192 x193 x194 x195 x196 x197 x198 x199 x200 x201 x202 x203 x204 x205 x206 x207 x208 x209 x210 x211 x212 x213 x214 x215 x216 x217 x218 x219 x220 x221 x222 x223 x224 x225 x226 x227 x228 x229 x230 x231 x232 x233 x234 x235 x236 x237 x238 x239 x240 x241 x242 x243 x244 x245 x246 x247 x248 x249 x250 x251 x252 x253 x254 x255 x256 x257 x258 x259 x260 x261 x262 x263 x264 x265 x266 x267 x268 x269 x270 x271 x272 x273 x274 x275 x276 x277 x278 x279 x280 x281 x282 x283 x284 x285 x286 x287 x288 x289 x290 x291 x292 x293 x294 x295 x296 x297 x298 x299 x300 x301 x302 x303 x304 x305 x306 x307 x308 x309 x310 x311 x312 x313 x314 x315 x316 x317 x318 x319 x320 x321 x322 x323 x324 x325 x326 x327 x328 x329 x330 x331 x332 x333 x334 x335 x336 x337 x338 x339 x340 x341 x342 x343 x344 x345 x346 x347 x348 x349 x350 x351 x352 x353 x354 x355 x356 x357 x358 x359 x360 x361 x362 x363 x364 x365 x366 x367 x368 x369 x370 x371 x372 x373 x374 x375 x376 x377 x378 x379 x380 x381 x382 x383 x384 x385 x386 x387 x388 x389 x390 x391 x392 x393 x394 x395 x396 x397 x398 x399 x400 x401 x402 x403 x404 x405 x406 x407 x408 x409 x410 x411 x412 x413 x414 x415 x416 x417 x418 x419 x420 x421 : Value} (hF : Fin4 w0 wx B n0 N qi mode tt s up) (hm6 : mode < 6) :
    Code.wp Ybad.prog (rest 22) (Goal w0 B) ⟨List.toArray (x0 :: x1 :: x2 :: x3 :: x4 :: x5 :: x6 :: x7 :: x8 :: x9 :: x10 :: x11 :: x12 :: x13 :: x14 :: x15 :: x16 :: x17 :: x18 :: x19 :: x20 :: x21 :: x22 :: .pointer (some ⟨B, 0, none⟩) :: .pointer (some ⟨B + 1, 0, none⟩) :: x25 :: x26 :: x27 :: x28 :: x29 :: x30 :: x31 :: .int .i64 (mode : Nat) :: x33 :: x34 :: .pointer (some ⟨n0 + 3, 0, none⟩) :: .int .i64 (up : Nat) :: x37 :: x38 :: x39 :: x40 :: x41 :: x42 :: x43 :: x44 :: x45 :: x46 :: x47 :: x48 :: x49 :: x50 :: x51 :: x52 :: x53 :: x54 :: x55 :: x56 :: x57 :: x58 :: x59 :: x60 :: x61 :: x62 :: x63 :: x64 :: x65 :: x66 :: x67 :: x68 :: x69 :: x70 :: x71 :: x72 :: x73 :: x74 :: x75 :: x76 :: x77 :: x78 :: x79 :: x80 :: x81 :: x82 :: x83 :: x84 :: x85 :: x86 :: x87 :: x88 :: x89 :: x90 :: x91 :: x92 :: x93 :: x94 :: x95 :: x96 :: x97 :: x98 :: x99 :: x100 :: x101 :: x102 :: x103 :: x104 :: x105 :: x106 :: x107 :: x108 :: x109 :: x110 :: x111 :: x112 :: x113 :: x114 :: x115 :: x116 :: x117 :: x118 :: x119 :: x120 :: x121 :: x122 :: x123 :: x124 :: x125 :: x126 :: x127 :: x128 :: x129 :: x130 :: x131 :: x132 :: x133 :: x134 :: x135 :: x136 :: x137 :: x138 :: x139 :: x140 :: x141 :: x142 :: x143 :: x144 :: x145 :: x146 :: x147 :: x148 :: x149 :: x150 :: x151 :: x152 :: x153 :: x154 :: x155 :: x156 :: x157 :: x158 :: x159 :: x160 :: x161 :: x162 :: x163 :: x164 :: x165 :: x166 :: x167 :: x168 :: x169 :: x170 :: x171 :: x172 :: x173 :: x174 :: x175 :: x176 :: x177 :: x178 :: x179 :: x180 :: x181 :: x182 :: x183 :: x184 :: x185 :: x186 :: x187 :: x188 :: x189 :: x190 :: x191 :: x192 :: x193 :: x194 :: x195 :: x196 :: x197 :: x198 :: x199 :: x200 :: x201 :: x202 :: x203 :: x204 :: x205 :: x206 :: x207 :: x208 :: x209 :: x210 :: x211 :: x212 :: x213 :: x214 :: x215 :: x216 :: x217 :: x218 :: x219 :: x220 :: x221 :: x222 :: x223 :: x224 :: x225 :: x226 :: x227 :: x228 :: x229 :: x230 :: x231 :: x232 :: x233 :: x234 :: x235 :: x236 :: x237 :: x238 :: x239 :: x240 :: x241 :: x242 :: x243 :: x244 :: x245 :: x246 :: x247 :: x248 :: x249 :: x250 :: x251 :: x252 :: x253 :: x254 :: x255 :: x256 :: x257 :: x258 :: x259 :: x260 :: x261 :: x262 :: x263 :: x264 :: x265 :: x266 :: x267 :: x268 :: x269 :: x270 :: x271 :: x272 :: x273 :: x274 :: x275 :: x276 :: x277 :: x278 :: x279 :: x280 :: x281 :: x282 :: x283 :: x284 :: x285 :: x286 :: x287 :: x288 :: x289 :: x290 :: x291 :: x292 :: x293 :: x294 :: x295 :: x296 :: x297 :: x298 :: x299 :: x300 :: x301 :: x302 :: x303 :: x304 :: x305 :: x306 :: x307 :: x308 :: x309 :: x310 :: x311 :: x312 :: x313 :: x314 :: x315 :: x316 :: x317 :: x318 :: x319 :: x320 :: x321 :: x322 :: x323 :: x324 :: x325 :: x326 :: x327 :: x328 :: x329 :: x330 :: x331 :: x332 :: x333 :: x334 :: x335 :: x336 :: x337 :: x338 :: x339 :: x340 :: x341 :: x342 :: x343 :: x344 :: x345 :: x346 :: x347 :: x348 :: x349 :: x350 :: x351 :: x352 :: x353 :: x354 :: x355 :: x356 :: x357 :: x358 :: x359 :: x360 :: x361 :: x362 :: x363 :: x364 :: x365 :: x366 :: x367 :: x368 :: x369 :: x370 :: x371 :: x372 :: x373 :: x374 :: x375 :: x376 :: x377 :: x378 :: x379 :: x380 :: x381 :: x382 :: x383 :: x384 :: x385 :: x386 :: x387 :: x388 :: x389 :: x390 :: x391 :: x392 :: x393 :: x394 :: x395 :: x396 :: x397 :: x398 :: x399 :: x400 :: x401 :: x402 :: x403 :: x404 :: x405 :: x406 :: x407 :: x408 :: x409 :: x410 :: x411 :: x412 :: x413 :: x414 :: x415 :: x416 :: x417 :: x418 :: x419 :: x420 :: x421 :: []), []⟩ wx := by
  have HF := hide hF
  clear hF
  refine wp_seq (x := st 22) (y := rest 23) ?_
  obtain ⟨K, HK⟩ : ∃ K, K = Code.wp Ybad.prog (rest 23) (Goal w0 B) := ⟨_, rfl⟩
  rw [← HK]
  have HKK := hide HK
  clear HK
  conv => arg 2; whnf
  go_wp2_with fail
  go_loopg [45] 4 (fun g s45 wr => ∃ k, k ≤ 4 ∧ g = 4 - k ∧ s45 = .int .i64 (k : Nat) ∧ Fin4 w0 wr B n0 N qi mode tt s up)
  case atStart => exact ⟨0, by omega, rfl, rfl, HF.out⟩
  case round =>
    clear HF
    obtain ⟨k, hk, rfl, rfl, hF⟩ := hrel
    by_cases hlt : k < 4
    · have hd : decide ((k : Int) < 4) = true := decide_eq_true (by omega)
      have hk4 : (k : Int) < 4 := by omega
      have t0 := hF.txs k hlt
      have t1 := hF.gos.tx k hlt
      have t2 := hF.md.seen k hlt
      have HF := hide hF
      clear hF
      cases hs : s.seen k with
      | true =>
        simp only [hs, tval, if_true] at t1 t2
        clear hs
        go_wp2_with fail
        go_quiet (fail)
        go_wp2
        go_roundg (4 - (k + 1))
        case measure => go_light; omega
        case rel => go_light; exact ⟨k + 1, by omega, rfl, by go_num, HF.out.drewN _⟩
      | false =>
        simp only [hs, tval, Bool.false_eq_true, if_false] at t1 t2
        clear hs
        go_wp2_with fail
        go_quiet (fail)
        go_wp2
        go_roundg (4 - (k + 1))
        case measure => go_light; omega
        case rel => go_light; exact ⟨k + 1, by omega, rfl, by go_num, HF.out.drewN _⟩
    · have hd : decide ((k : Int) < 4) = false := decide_eq_false (by omega)
      obtain rfl : k = 4 := by omega
      have HF := hide hF
      clear hF hd hk hlt
      go_wp2
      rw [HKK.out]
      exact T23 w0 _ B n0 N qi mode up tt s HF.out hm6

end Go.Proofs.YbulkcahwDoor.Ho
