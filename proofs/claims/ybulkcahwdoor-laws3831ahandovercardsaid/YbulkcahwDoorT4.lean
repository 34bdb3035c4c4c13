/-
  Statements 4 and 5: the four transactions and the lock's state are laid.
-/
import Derived.Test.YbulkcahwDoorT6
namespace Go.Proofs.YbulkcahwDoor.Ho
open Go.RowKit
set_option linter.unusedVariables false
set_option linter.unusedSimpArgs false

theorem txs_new0 {w wr : World} {k qi : Nat} {tt : Bool} {seen : Nat → Bool} (h : Txs w wr k tt qi seen) (hk : k < 4) (hs : seen k = false) :
    Txs w ((wr.setCell ⟨w.heap.size, k, none⟩ (.pointer (some ⟨wr.heap.size, 0, none⟩))).alloc (.cells txn0 47)) (k + 1) tt qi seen := by
  have h1 := txs_step0 h hk hs
  rwa [World.setCell_alloc_past _ _ _ _ (by have := h.size; omega)] at h1

theorem txs_new1 {w wr : World} {k qi : Nat} {tt : Bool} {seen : Nat → Bool} (h : Txs w wr k tt qi seen) (hk : k < 4) (hs : seen k = true) :
    Txs w (((wr.setCell ⟨w.heap.size, k, none⟩ (.pointer (some ⟨wr.heap.size, 0, none⟩))).setCell ⟨w.heap.size + 1, k, none⟩ (.bool true)).alloc (.cells (txn0.setIfInBounds 11 (.int .u64 7)) 47)) (k + 1) tt qi seen := by
  have h1 := txs_step1 h hk hs
  have hsz := h.size
  rwa [World.setCell_alloc_past _ _ _ _ (by omega), World.setCell_alloc_at _ _ _ _ _ (by simp), World.setCell_alloc_past _ _ _ _ (by simp; omega)] at h1

set_option maxRecDepth 1000000 in
set_option maxHeartbeats 4000000 in
theorem T5 (w w1 : World) (hb ho qb qo qi kh kq hc qc qMode atRaw upto skp : Nat) (skA : Int) (ha qa : Option Addr) (tt fresh : Bool) (hx qx : Nat → Nat × Nat) (seen : Nat → Bool) {x2 x5 x11 x12 x13 x14 x15 x16 x17 x18 x19 x20 x21 x22 x25 x26 x27 x28 x29 x30 x31 x32 x33 x34 x35 x36 x37 x38 x39 x40 x41 x42 x43 x44 x45 x46 x47 x48 x49 x50 x51 x52 x53 x54 x55 x56 x57 x58 x59 x60 x61 x62 x63 x64 x65 x66 x67 x68 x69 x70 x71 x72 x73 x74 x75 x76 x77 x78 x79 x80 x81 x82 x83 x84 x85 x86 x87 x88 x89 x90 x91 x92 x93 x94 x95 x96 x97 x98 x99 x100 x101 x102 x103 x104 x105 x106 x107 x108 x109 x110 x111 x112 x113 x114 x115 x116 x117 x118 x119 x120 x121 x122 x123 x124 x125 x126 x127 x128 x129 x130 x131 x132 x133 x134 x135 x136 x137 x138 x139 x140 x141 x142 x143 x144 x145 x146 x147 x148 x149 x150 x151 x152 x153 x154 x155 x156 x157 x158 x159 x160 x161 x162 x163 x164 x165 x166 x167 x168 x169 x170 x171 x172 x173 x174 x175 x176 x177 x178 x179 x180 x181 x182 x183 x184 x185 x186 x187 x188 x189 x190 x191 x192 x193 x194 x195 x196 x197 x198 x199 x200 x201 x202 x203 x204 x205 x206 x207 x208 x209 x210 x211 x212 x213 x214 x215 x216 x217 x218 x219 x220 x221 x222 x223 x224 x225 x226 x227 x228 x229 x230 x231 x232 x233 x234 x235 x236 x237 x238 x239 x240 x241 x242 x243 x244 x245 x246 x247 x248 x249 x250 x251 x252 x253 x254 x255 x256 x257 x258 x259 x260 x261 x262 x263 x264 x265 x266 x267 x268 x269 x270 x271 x272 x273 x274 x275 x276 x277 x278 x279 x280 x281 x282 x283 x284 x285 x286 x287 x288 x289 x290 x291 x292 x293 x294 x295 x296 x297 x298 x299 x300 x301 x302 x303 x304 x305 x306 x307 x308 x309 x310 x311 x312 x313 x314 x315 x316 x317 x318 x319 x320 x321 x322 x323 x324 x325 x326 x327 x328 x329 x330 x331 x332 x333 x334 x335 x336 x337 x338 x339 x340 x341 x342 x343 x344 x345 x346 x347 x348 x349 x350 x351 x352 x353 x354 x355 x356 x357 x358 x359 x360 x361 x362 x363 x364 x365 x366 x367 x368 x369 x370 x371 x372 x373 x374 x375 x376 x377 x378 x379 x380 x381 x382 x383 x384 x385 x386 x387 x388 x389 x390 x391 x392 x393 x394 x395 x396 x397 x398 x399 x400 x401 x402 x403 x404 x405 x406 x407 x408 x409 x410 x411 x412 x413 x414 x415 x416 x417 x418 x419 x420 x421 : Value}
    (hX : Txs w w1 4 tt qi seen) (hkh : kh ≤ 1024) (hkq : kq ≤ 1024) (hq4 : qi < 4) (hH : In w ha kh hb ho hx) (hQ : In w qa kq qb qo qx) (tab : ∀ i j, i < 6 → j < 6 → w.cell? ⟨0, i * 6 + j, none⟩ = some (.bool (cmp i j))) (b2 : qMode < 256) (b3 : atRaw < 256) (b4 : upto < 256) (b5 : skp < 256) (b6 : -128 ≤ skA ∧ skA ≤ 127) :
    Code.wp Ybad.prog (rest 5) (Goal w w.heap.size) ⟨List.toArray (.slice ha kh hc :: .slice qa kq qc :: x2 :: .int .u8 (qMode : Nat) :: .int .u8 (atRaw : Nat) :: x5 :: .bool tt :: .bool fresh :: .int .u8 (upto : Nat) :: .int .u8 (skp : Nat) :: .int .i8 skA :: x11 :: x12 :: x13 :: x14 :: x15 :: x16 :: x17 :: x18 :: x19 :: x20 :: x21 :: x22 :: .pointer (some ⟨w.heap.size, 0, none⟩) :: .pointer (some ⟨w.heap.size + 1, 0, none⟩) :: x25 :: x26 :: x27 :: x28 :: x29 :: x30 :: x31 :: x32 :: x33 :: x34 :: x35 :: x36 :: x37 :: x38 :: x39 :: x40 :: x41 :: x42 :: x43 :: x44 :: x45 :: x46 :: x47 :: x48 :: x49 :: x50 :: x51 :: x52 :: x53 :: x54 :: x55 :: x56 :: x57 :: x58 :: x59 :: x60 :: x61 :: x62 :: x63 :: x64 :: x65 :: x66 :: x67 :: x68 :: x69 :: x70 :: x71 :: x72 :: x73 :: x74 :: x75 :: x76 :: x77 :: x78 :: x79 :: x80 :: x81 :: x82 :: x83 :: x84 :: x85 :: x86 :: x87 :: x88 :: x89 :: x90 :: x91 :: x92 :: x93 :: x94 :: x95 :: x96 :: x97 :: x98 :: x99 :: x100 :: x101 :: x102 :: x103 :: x104 :: x105 :: x106 :: x107 :: x108 :: x109 :: x110 :: x111 :: x112 :: x113 :: x114 :: x115 :: x116 :: x117 :: x118 :: x119 :: x120 :: x121 :: x122 :: x123 :: x124 :: x125 :: x126 :: x127 :: x128 :: x129 :: x130 :: x131 :: x132 :: x133 :: x134 :: x135 :: x136 :: x137 :: x138 :: x139 :: x140 :: x141 :: x142 :: x143 :: x144 :: x145 :: x146 :: x147 :: x148 :: x149 :: x150 :: x151 :: x152 :: x153 :: x154 :: x155 :: x156 :: x157 :: x158 :: x159 :: x160 :: x161 :: x162 :: x163 :: x164 :: x165 :: x166 :: x167 :: x168 :: x169 :: x170 :: x171 :: x172 :: x173 :: x174 :: x175 :: x176 :: x177 :: x178 :: x179 :: x180 :: x181 :: x182 :: x183 :: x184 :: x185 :: x186 :: x187 :: x188 :: x189 :: x190 :: x191 :: x192 :: x193 :: x194 :: x195 :: x196 :: x197 :: x198 :: x199 :: x200 :: x201 :: x202 :: x203 :: x204 :: x205 :: x206 :: x207 :: x208 :: x209 :: x210 :: x211 :: x212 :: x213 :: x214 :: x215 :: x216 :: x217 :: x218 :: x219 :: x220 :: x221 :: x222 :: x223 :: x224 :: x225 :: x226 :: x227 :: x228 :: x229 :: x230 :: x231 :: x232 :: x233 :: x234 :: x235 :: x236 :: x237 :: x238 :: x239 :: x240 :: x241 :: x242 :: x243 :: x244 :: x245 :: x246 :: x247 :: x248 :: x249 :: x250 :: x251 :: x252 :: x253 :: x254 :: x255 :: x256 :: x257 :: x258 :: x259 :: x260 :: x261 :: x262 :: x263 :: x264 :: x265 :: x266 :: x267 :: x268 :: x269 :: x270 :: x271 :: x272 :: x273 :: x274 :: x275 :: x276 :: x277 :: x278 :: x279 :: x280 :: x281 :: x282 :: x283 :: x284 :: x285 :: x286 :: x287 :: x288 :: x289 :: x290 :: x291 :: x292 :: x293 :: x294 :: x295 :: x296 :: x297 :: x298 :: x299 :: x300 :: x301 :: x302 :: x303 :: x304 :: x305 :: x306 :: x307 :: x308 :: x309 :: x310 :: x311 :: x312 :: x313 :: x314 :: x315 :: x316 :: x317 :: x318 :: x319 :: x320 :: x321 :: x322 :: x323 :: x324 :: x325 :: x326 :: x327 :: x328 :: x329 :: x330 :: x331 :: x332 :: x333 :: x334 :: x335 :: x336 :: x337 :: x338 :: x339 :: x340 :: x341 :: x342 :: x343 :: x344 :: x345 :: x346 :: x347 :: x348 :: x349 :: x350 :: x351 :: x352 :: x353 :: x354 :: x355 :: x356 :: x357 :: x358 :: x359 :: x360 :: x361 :: x362 :: x363 :: x364 :: x365 :: x366 :: x367 :: x368 :: x369 :: x370 :: x371 :: x372 :: x373 :: x374 :: x375 :: x376 :: x377 :: x378 :: x379 :: x380 :: x381 :: x382 :: x383 :: x384 :: x385 :: x386 :: x387 :: x388 :: x389 :: x390 :: x391 :: x392 :: x393 :: x394 :: x395 :: x396 :: x397 :: x398 :: x399 :: x400 :: x401 :: x402 :: x403 :: x404 :: x405 :: x406 :: x407 :: x408 :: x409 :: x410 :: x411 :: x412 :: x413 :: x414 :: x415 :: x416 :: x417 :: x418 :: x419 :: x420 :: x421 :: []), []⟩ w1 := by
  have HX := hide hX
  have HTab := hide tab
  have HQ := hide hQ
  have HH := hide hH
  have hB6 : w1.heap.size = w.heap.size + 6 := by have := hX.size; omega
  have HH0 := hide (hold_start w1 w.heap.size (red hx) hB6)
  simp only [ls0] at HH0
  have HB6 := hide hB6
  clear hX tab hQ hH hB6
  refine wp_seq (x := st 5) (y := rest 6) ?_
  conv => arg 2; whnf
  go_wp2_with fail
  rw [HB6.out]
  exact T6 w w1 _ hb ho qb qo qi kh kq hc qc qMode atRaw upto skp skA ha qa tt fresh hx qx seen HX.out HH0.out hkh hkq hq4 HH.out HQ.out HTab.out b2 b3 b4 b5 b6

set_option maxRecDepth 1000000 in
set_option maxHeartbeats 4000000 in
theorem T4 (w w1 : World) (hb ho qb qo pb po np pc qi kh kq hc qc qMode atRaw upto skp : Nat) (skA : Int) (ha qa pa : Option Addr) (tt fresh : Bool) (hx qx : Nat → Nat × Nat) (pv : Nat → Bool) (seen : Nat → Bool) {x2 x11 x12 x13 x14 x15 x16 x17 x18 x19 x20 x21 x22 x25 x26 x27 x28 x29 x30 x31 x32 x33 x34 x35 x36 x37 x38 x39 x40 x41 x42 x43 x44 x45 x46 x47 x48 x49 x50 x51 x52 x53 x54 x55 x56 x57 x58 x59 x60 x61 x62 x63 x64 x65 x66 x67 x68 x69 x70 x71 x72 x73 x74 x75 x76 x77 x78 x79 x80 x81 x82 x83 x84 x85 x86 x87 x88 x89 x90 x91 x92 x93 x94 x95 x96 x97 x98 x99 x100 x101 x102 x103 x104 x105 x106 x107 x108 x109 x110 x111 x112 x113 x114 x115 x116 x117 x118 x119 x120 x121 x122 x123 x124 x125 x126 x127 x128 x129 x130 x131 x132 x133 x134 x135 x136 x137 x138 x139 x140 x141 x142 x143 x144 x145 x146 x147 x148 x149 x150 x151 x152 x153 x154 x155 x156 x157 x158 x159 x160 x161 x162 x163 x164 x165 x166 x167 x168 x169 x170 x171 x172 x173 x174 x175 x176 x177 x178 x179 x180 x181 x182 x183 x184 x185 x186 x187 x188 x189 x190 x191 x192 x193 x194 x195 x196 x197 x198 x199 x200 x201 x202 x203 x204 x205 x206 x207 x208 x209 x210 x211 x212 x213 x214 x215 x216 x217 x218 x219 x220 x221 x222 x223 x224 x225 x226 x227 x228 x229 x230 x231 x232 x233 x234 x235 x236 x237 x238 x239 x240 x241 x242 x243 x244 x245 x246 x247 x248 x249 x250 x251 x252 x253 x254 x255 x256 x257 x258 x259 x260 x261 x262 x263 x264 x265 x266 x267 x268 x269 x270 x271 x272 x273 x274 x275 x276 x277 x278 x279 x280 x281 x282 x283 x284 x285 x286 x287 x288 x289 x290 x291 x292 x293 x294 x295 x296 x297 x298 x299 x300 x301 x302 x303 x304 x305 x306 x307 x308 x309 x310 x311 x312 x313 x314 x315 x316 x317 x318 x319 x320 x321 x322 x323 x324 x325 x326 x327 x328 x329 x330 x331 x332 x333 x334 x335 x336 x337 x338 x339 x340 x341 x342 x343 x344 x345 x346 x347 x348 x349 x350 x351 x352 x353 x354 x355 x356 x357 x358 x359 x360 x361 x362 x363 x364 x365 x366 x367 x368 x369 x370 x371 x372 x373 x374 x375 x376 x377 x378 x379 x380 x381 x382 x383 x384 x385 x386 x387 x388 x389 x390 x391 x392 x393 x394 x395 x396 x397 x398 x399 x400 x401 x402 x403 x404 x405 x406 x407 x408 x409 x410 x411 x412 x413 x414 x415 x416 x417 x418 x419 x420 x421 : Value}
    (HSeen : Hid (∀ i, seen i = (decide (i < np) && pv i))) (hX : Txs w w1 0 tt qi seen) (hkh : kh ≤ 1024) (hkq : kq ≤ 1024) (hq4 : qi < 4) (hH : In w ha kh hb ho hx) (hQ : In w qa kq qb qo qx) (tab : ∀ i j, i < 6 → j < 6 → w.cell? ⟨0, i * 6 + j, none⟩ = some (.bool (cmp i j))) (b2 : qMode < 256) (b3 : atRaw < 256) (b4 : upto < 256) (b5 : skp < 256) (b6 : -128 ≤ skA ∧ skA ≤ 127) (hpa : 0 < np → pa = some ⟨pb, po, none⟩) (hpc : ∀ i, i < np → w.cell? ⟨pb, po + i, none⟩ = some (.bool (pv i))) :
    Code.wp Ybad.prog (rest 4) (Goal w w.heap.size) ⟨List.toArray (.slice ha kh hc :: .slice qa kq qc :: x2 :: .int .u8 (qMode : Nat) :: .int .u8 (atRaw : Nat) :: .slice pa np pc :: .bool tt :: .bool fresh :: .int .u8 (upto : Nat) :: .int .u8 (skp : Nat) :: .int .i8 skA :: x11 :: x12 :: x13 :: x14 :: x15 :: x16 :: x17 :: x18 :: x19 :: x20 :: x21 :: x22 :: .pointer (some ⟨w.heap.size, 0, none⟩) :: .pointer (some ⟨w.heap.size + 1, 0, none⟩) :: x25 :: x26 :: x27 :: x28 :: x29 :: x30 :: x31 :: x32 :: x33 :: x34 :: x35 :: x36 :: x37 :: x38 :: x39 :: x40 :: x41 :: x42 :: x43 :: x44 :: x45 :: x46 :: x47 :: x48 :: x49 :: x50 :: x51 :: x52 :: x53 :: x54 :: x55 :: x56 :: x57 :: x58 :: x59 :: x60 :: x61 :: x62 :: x63 :: x64 :: x65 :: x66 :: x67 :: x68 :: x69 :: x70 :: x71 :: x72 :: x73 :: x74 :: x75 :: x76 :: x77 :: x78 :: x79 :: x80 :: x81 :: x82 :: x83 :: x84 :: x85 :: x86 :: x87 :: x88 :: x89 :: x90 :: x91 :: x92 :: x93 :: x94 :: x95 :: x96 :: x97 :: x98 :: x99 :: x100 :: x101 :: x102 :: x103 :: x104 :: x105 :: x106 :: x107 :: x108 :: x109 :: x110 :: x111 :: x112 :: x113 :: x114 :: x115 :: x116 :: x117 :: x118 :: x119 :: x120 :: x121 :: x122 :: x123 :: x124 :: x125 :: x126 :: x127 :: x128 :: x129 :: x130 :: x131 :: x132 :: x133 :: x134 :: x135 :: x136 :: x137 :: x138 :: x139 :: x140 :: x141 :: x142 :: x143 :: x144 :: x145 :: x146 :: x147 :: x148 :: x149 :: x150 :: x151 :: x152 :: x153 :: x154 :: x155 :: x156 :: x157 :: x158 :: x159 :: x160 :: x161 :: x162 :: x163 :: x164 :: x165 :: x166 :: x167 :: x168 :: x169 :: x170 :: x171 :: x172 :: x173 :: x174 :: x175 :: x176 :: x177 :: x178 :: x179 :: x180 :: x181 :: x182 :: x183 :: x184 :: x185 :: x186 :: x187 :: x188 :: x189 :: x190 :: x191 :: x192 :: x193 :: x194 :: x195 :: x196 :: x197 :: x198 :: x199 :: x200 :: x201 :: x202 :: x203 :: x204 :: x205 :: x206 :: x207 :: x208 :: x209 :: x210 :: x211 :: x212 :: x213 :: x214 :: x215 :: x216 :: x217 :: x218 :: x219 :: x220 :: x221 :: x222 :: x223 :: x224 :: x225 :: x226 :: x227 :: x228 :: x229 :: x230 :: x231 :: x232 :: x233 :: x234 :: x235 :: x236 :: x237 :: x238 :: x239 :: x240 :: x241 :: x242 :: x243 :: x244 :: x245 :: x246 :: x247 :: x248 :: x249 :: x250 :: x251 :: x252 :: x253 :: x254 :: x255 :: x256 :: x257 :: x258 :: x259 :: x260 :: x261 :: x262 :: x263 :: x264 :: x265 :: x266 :: x267 :: x268 :: x269 :: x270 :: x271 :: x272 :: x273 :: x274 :: x275 :: x276 :: x277 :: x278 :: x279 :: x280 :: x281 :: x282 :: x283 :: x284 :: x285 :: x286 :: x287 :: x288 :: x289 :: x290 :: x291 :: x292 :: x293 :: x294 :: x295 :: x296 :: x297 :: x298 :: x299 :: x300 :: x301 :: x302 :: x303 :: x304 :: x305 :: x306 :: x307 :: x308 :: x309 :: x310 :: x311 :: x312 :: x313 :: x314 :: x315 :: x316 :: x317 :: x318 :: x319 :: x320 :: x321 :: x322 :: x323 :: x324 :: x325 :: x326 :: x327 :: x328 :: x329 :: x330 :: x331 :: x332 :: x333 :: x334 :: x335 :: x336 :: x337 :: x338 :: x339 :: x340 :: x341 :: x342 :: x343 :: x344 :: x345 :: x346 :: x347 :: x348 :: x349 :: x350 :: x351 :: x352 :: x353 :: x354 :: x355 :: x356 :: x357 :: x358 :: x359 :: x360 :: x361 :: x362 :: x363 :: x364 :: x365 :: x366 :: x367 :: x368 :: x369 :: x370 :: x371 :: x372 :: x373 :: x374 :: x375 :: x376 :: x377 :: x378 :: x379 :: x380 :: x381 :: x382 :: x383 :: x384 :: x385 :: x386 :: x387 :: x388 :: x389 :: x390 :: x391 :: x392 :: x393 :: x394 :: x395 :: x396 :: x397 :: x398 :: x399 :: x400 :: x401 :: x402 :: x403 :: x404 :: x405 :: x406 :: x407 :: x408 :: x409 :: x410 :: x411 :: x412 :: x413 :: x414 :: x415 :: x416 :: x417 :: x418 :: x419 :: x420 :: x421 :: []), []⟩ w1 := by
  have HT0 := hide hX
  have HTab := hide tab
  have HQ := hide hQ
  have HH := hide hH
  clear hX tab hQ hH
  refine wp_seq (x := st 4) (y := rest 5) ?_
  conv => arg 2; whnf
  go_wp2_with fail
  go_loopg [25] 4 (fun g s25 wr => ∃ k, k ≤ 4 ∧ g = 4 - k ∧ s25 = .int .i64 (k : Nat) ∧ Txs w wr k tt qi seen)
  case atStart => exact ⟨0, by omega, rfl, rfl, HT0.out⟩
  case round =>
    clear HT0
    obtain ⟨k, hk, rfl, rfl, hR⟩ := hrel
    by_cases hlt : k < 4
    · skip
      have hd : decide ((k : Int) < 4) = true := decide_eq_true (by omega)
      have hk4 : (k : Int) < 4 := by omega
      have t0 := hR.tx k hlt
      rw [if_neg (by omega)] at t0
      have f0 := hR.free.frozen
      have f1 := hR.md.free.frozen
      have m0 := hR.md.seen k hlt
      have hsz := hR.size
      have n0 : w.heap.size < wr.heap.size := by omega
      have n1 : w.heap.size + 1 < wr.heap.size := by omega
      have n2 : ¬ w.heap.size = wr.heap.size := by omega
      have n3 : ¬ w.heap.size + 1 = wr.heap.size := by omega
      have n4 : ¬ wr.heap.size = w.heap.size := by omega
      have n5 : ¬ wr.heap.size = w.heap.size + 1 := by omega
      have HR := hide hR
      have HSZ := hide hsz
      by_cases hnp : k < np
      · have hdn : decide ((k : Int) < (np : Int)) = true := decide_eq_true (by omega)
        obtain rfl := hpa (by omega)
        have p0 := (hR.bel.cell (p := ⟨pb, po + k, none⟩) (World.block_lt_of_cell? _ _ (hpc k hnp))).trans (hpc k hnp)
        have hpb : pb < w.heap.size := World.block_lt_of_cell? _ _ (hpc k hnp)
        have hp1 : pb < wr.heap.size := by omega
        have hp2 : ¬ pb = w.heap.size := by omega
        have hp3 : ¬ w.heap.size = pb := by omega
        cases hv : pv k with
        | true =>
          rw [hv] at p0
          have HN := hide (txs_new1 HR.out hlt (by rw [HSeen.out, hv]; simp [hnp]))
          clear hR hsz hpc
          go_wp2
          go_roundg (4 - (k + 1))
          case measure => go_light; omega
          case rel => go_light; exact ⟨k + 1, by omega, rfl, by go_num, HN.out⟩
        | false =>
          rw [hv] at p0
          have HN := hide (txs_new0 HR.out hlt (by rw [HSeen.out, hv]; simp))
          clear hR hsz hpc
          go_wp2
          go_roundg (4 - (k + 1))
          case measure => go_light; omega
          case rel => go_light; exact ⟨k + 1, by omega, rfl, by go_num, HN.out⟩
      · have hdn : decide ((k : Int) < (np : Int)) = false := decide_eq_false (by omega)
        have HN := hide (txs_new0 HR.out hlt (by rw [HSeen.out]; simp [hnp]))
        clear hR hsz hpc
        go_wp2
        go_roundg (4 - (k + 1))
        case measure => go_light; omega
        case rel => go_light; exact ⟨k + 1, by omega, rfl, by go_num, HN.out⟩
    · have hd : decide ((k : Int) < 4) = false := decide_eq_false (by omega)
      obtain rfl : k = 4 := by omega
      have HR := hide hR
      clear hd hk hlt hpa hpc hR
      go_wp2_with fail
      exact T5 w _ hb ho qb qo qi kh kq hc qc qMode atRaw upto skp skA ha qa tt fresh hx qx seen HR.out hkh hkq hq4 HH.out HQ.out HTab.out b2 b3 b4 b5 b6

end Go.Proofs.YbulkcahwDoor.Ho
