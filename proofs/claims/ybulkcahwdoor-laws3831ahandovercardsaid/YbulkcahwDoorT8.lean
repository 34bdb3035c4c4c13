/-
  Statements 8 to 13: q, the search and the queue's walk are laid.
-/
import Derived.Test.YbulkcahwDoorT14
namespace Go.Proofs.YbulkcahwDoor.Ho
open Go.RowKit
set_option linter.unusedVariables false
set_option linter.unusedSimpArgs false

set_option maxRecDepth 1000000 in
set_option maxHeartbeats 4000000 in
theorem T8 (w w1 w3 wr : World) (N hb ho qb qo qi kh kq hc qc qMode atRaw upto skp : Nat) (skA : Int) (ha qa : Option Addr) (tt fresh : Bool) (hx qx : Nat → Nat × Nat) (rq : Nat → Nat) (seen : Nat → Bool) {x2 x5 x11 x12 x13 x14 x15 x16 x17 x18 x19 x20 x21 x22 x25 x27 x28 x29 x30 x31 x32 x33 x34 x35 x36 x37 x38 x39 x40 x41 x42 x43 x44 x45 x46 x47 x48 x49 x50 x51 x52 x53 x54 x55 x56 x57 x58 x59 x60 x61 x62 x63 x64 x65 x66 x67 x68 x69 x70 x71 x72 x73 x74 x75 x76 x77 x78 x79 x80 x81 x82 x83 x84 x85 x86 x87 x88 x89 x90 x91 x92 x93 x94 x95 x96 x97 x98 x99 x100 x101 x102 x103 x104 x105 x106 x107 x108 x109 x110 x111 x112 x113 x114 x115 x116 x117 x118 x119 x120 x121 x122 x123 x124 x125 x126 x127 x128 x129 x130 x131 x132 x133 x134 x135 x136 x137 x138 x139 x140 x141 x142 x143 x144 x145 x146 x147 x148 x149 x150 x151 x152 x153 x154 x155 x156 x157 x158 x159 x160 x161 x162 x163 x164 x165 x166 x167 x168 x169 x170 x171 x172 x173 x174 x175 x176 x177 x178 x179 x180 x181 x182 x183 x184 x185 x186 x187 x188 x189 x190 x191 x192 x193 x194 x195 x196 x197 x198 x199 x200 x201 x202 x203 x204 x205 x206 x207 x208 x209 x210 x211 x212 x213 x214 x215 x216 x217 x218 x219 x220 x221 x222 x223 x224 x225 x226 x227 x228 x229 x230 x231 x232 x233 x234 x235 x236 x237 x238 x239 x240 x241 x242 x243 x244 x245 x246 x247 x248 x249 x250 x251 x252 x253 x254 x255 x256 x257 x258 x259 x260 x261 x262 x263 x264 x265 x266 x267 x268 x269 x270 x271 x272 x273 x274 x275 x276 x277 x278 x279 x280 x281 x282 x283 x284 x285 x286 x287 x288 x289 x290 x291 x292 x293 x294 x295 x296 x297 x298 x299 x300 x301 x302 x303 x304 x305 x306 x307 x308 x309 x310 x311 x312 x313 x314 x315 x316 x317 x318 x319 x320 x321 x322 x323 x324 x325 x326 x327 x328 x329 x330 x331 x332 x333 x334 x335 x336 x337 x338 x339 x340 x341 x342 x343 x344 x345 x346 x347 x348 x349 x350 x351 x352 x353 x354 x355 x356 x357 x358 x359 x360 x361 x362 x363 x364 x365 x366 x367 x368 x369 x370 x371 x372 x373 x374 x375 x376 x377 x378 x379 x380 x381 x382 x383 x384 x385 x386 x387 x388 x389 x390 x391 x392 x393 x394 x395 x396 x397 x398 x399 x400 x401 x402 x403 x404 x405 x406 x407 x408 x409 x410 x411 x412 x413 x414 x415 x416 x417 x418 x419 x420 x421 : Value}
    (hX : Txs w w1 4 tt qi seen) (hHo : Hold w1 w3 w.heap.size kh (red hx)) (hR : Que w3 wr w.heap.size N kq (red qx) rq) (hN : N = w3.heap.size) (hN7 : w.heap.size + 7 ≤ N) (hkh : kh ≤ 1024) (hkq : kq ≤ 1024) (hq4 : qi < 4) (hH : In w ha kh hb ho hx) (hQ : In w qa kq qb qo qx) (tab : ∀ i j, i < 6 → j < 6 → w.cell? ⟨0, i * 6 + j, none⟩ = some (.bool (cmp i j))) (b2 : qMode < 256) (b3 : atRaw < 256) (b4 : upto < 256) (b5 : skp < 256) (b6 : -128 ≤ skA ∧ skA ≤ 127) :
    Code.wp Ybad.prog (rest 8) (Goal w w.heap.size) ⟨List.toArray (.slice ha kh hc :: .slice qa kq qc :: x2 :: .int .u8 (qMode : Nat) :: .int .u8 (atRaw : Nat) :: x5 :: .bool tt :: .bool fresh :: .int .u8 (upto : Nat) :: .int .u8 (skp : Nat) :: .int .i8 skA :: x11 :: x12 :: x13 :: x14 :: x15 :: x16 :: x17 :: x18 :: x19 :: x20 :: x21 :: x22 :: .pointer (some ⟨w.heap.size, 0, none⟩) :: .pointer (some ⟨w.heap.size + 1, 0, none⟩) :: x25 :: .pointer (some ⟨w.heap.size + 6, 0, none⟩) :: x27 :: x28 :: x29 :: x30 :: x31 :: x32 :: x33 :: x34 :: x35 :: x36 :: x37 :: x38 :: x39 :: x40 :: x41 :: x42 :: x43 :: x44 :: x45 :: x46 :: x47 :: x48 :: x49 :: x50 :: x51 :: x52 :: x53 :: x54 :: x55 :: x56 :: x57 :: x58 :: x59 :: x60 :: x61 :: x62 :: x63 :: x64 :: x65 :: x66 :: x67 :: x68 :: x69 :: x70 :: x71 :: x72 :: x73 :: x74 :: x75 :: x76 :: x77 :: x78 :: x79 :: x80 :: x81 :: x82 :: x83 :: x84 :: x85 :: x86 :: x87 :: x88 :: x89 :: x90 :: x91 :: x92 :: x93 :: x94 :: x95 :: x96 :: x97 :: x98 :: x99 :: x100 :: x101 :: x102 :: x103 :: x104 :: x105 :: x106 :: x107 :: x108 :: x109 :: x110 :: x111 :: x112 :: x113 :: x114 :: x115 :: x116 :: x117 :: x118 :: x119 :: x120 :: x121 :: x122 :: x123 :: x124 :: x125 :: x126 :: x127 :: x128 :: x129 :: x130 :: x131 :: x132 :: x133 :: x134 :: x135 :: x136 :: x137 :: x138 :: x139 :: x140 :: x141 :: x142 :: x143 :: x144 :: x145 :: x146 :: x147 :: x148 :: x149 :: x150 :: x151 :: x152 :: x153 :: x154 :: x155 :: x156 :: x157 :: x158 :: x159 :: x160 :: x161 :: x162 :: x163 :: x164 :: x165 :: x166 :: x167 :: x168 :: x169 :: x170 :: x171 :: x172 :: x173 :: x174 :: x175 :: x176 :: x177 :: x178 :: x179 :: x180 :: x181 :: x182 :: x183 :: x184 :: x185 :: x186 :: x187 :: x188 :: x189 :: x190 :: x191 :: x192 :: x193 :: x194 :: x195 :: x196 :: x197 :: x198 :: x199 :: x200 :: x201 :: x202 :: x203 :: x204 :: x205 :: x206 :: x207 :: x208 :: x209 :: x210 :: x211 :: x212 :: x213 :: x214 :: x215 :: x216 :: x217 :: x218 :: x219 :: x220 :: x221 :: x222 :: x223 :: x224 :: x225 :: x226 :: x227 :: x228 :: x229 :: x230 :: x231 :: x232 :: x233 :: x234 :: x235 :: x236 :: x237 :: x238 :: x239 :: x240 :: x241 :: x242 :: x243 :: x244 :: x245 :: x246 :: x247 :: x248 :: x249 :: x250 :: x251 :: x252 :: x253 :: x254 :: x255 :: x256 :: x257 :: x258 :: x259 :: x260 :: x261 :: x262 :: x263 :: x264 :: x265 :: x266 :: x267 :: x268 :: x269 :: x270 :: x271 :: x272 :: x273 :: x274 :: x275 :: x276 :: x277 :: x278 :: x279 :: x280 :: x281 :: x282 :: x283 :: x284 :: x285 :: x286 :: x287 :: x288 :: x289 :: x290 :: x291 :: x292 :: x293 :: x294 :: x295 :: x296 :: x297 :: x298 :: x299 :: x300 :: x301 :: x302 :: x303 :: x304 :: x305 :: x306 :: x307 :: x308 :: x309 :: x310 :: x311 :: x312 :: x313 :: x314 :: x315 :: x316 :: x317 :: x318 :: x319 :: x320 :: x321 :: x322 :: x323 :: x324 :: x325 :: x326 :: x327 :: x328 :: x329 :: x330 :: x331 :: x332 :: x333 :: x334 :: x335 :: x336 :: x337 :: x338 :: x339 :: x340 :: x341 :: x342 :: x343 :: x344 :: x345 :: x346 :: x347 :: x348 :: x349 :: x350 :: x351 :: x352 :: x353 :: x354 :: x355 :: x356 :: x357 :: x358 :: x359 :: x360 :: x361 :: x362 :: x363 :: x364 :: x365 :: x366 :: x367 :: x368 :: x369 :: x370 :: x371 :: x372 :: x373 :: x374 :: x375 :: x376 :: x377 :: x378 :: x379 :: x380 :: x381 :: x382 :: x383 :: x384 :: x385 :: x386 :: x387 :: x388 :: x389 :: x390 :: x391 :: x392 :: x393 :: x394 :: x395 :: x396 :: x397 :: x398 :: x399 :: x400 :: x401 :: x402 :: x403 :: x404 :: x405 :: x406 :: x407 :: x408 :: x409 :: x410 :: x411 :: x412 :: x413 :: x414 :: x415 :: x416 :: x417 :: x418 :: x419 :: x420 :: x421 :: []), []⟩ wr := by
  have HH := hide hH
  have HQ := hide hQ
  have hB3 : Below (w.heap.size + 6) w1 wr := hHo.bel.trans (hR.below hN7 hN.symm)
  have t0 : ∀ j, j < 4 → wr.cell? ⟨w.heap.size, j, none⟩ = some (.pointer (some ⟨w.heap.size + 2 + j, 0, none⟩)) := fun j hj => by
    have := hX.tx j hj
    rw [if_pos hj] at this
    exact (hB3.cell (p := ⟨w.heap.size, j, none⟩) (by show w.heap.size < w.heap.size + 6; omega)).trans this
  have m7 := (hX.md.keep (hB3.block (w.heap.size + 1) (by omega))).s7
  have tq := t0 qi hq4
  have tz := t0 0 (by omega)
  simp only [Nat.add_zero] at tz
  have l0 : w.heap.size < wr.heap.size := World.block_lt_of_cell? _ _ tz
  have l1 : w.heap.size + 1 < wr.heap.size := World.block_lt_of_cell? _ _ m7
  obtain ⟨at', hat, hat1⟩ : ∃ a : Nat, (atRaw : Int) % ((kq : Int) + 1) = (a : Int) ∧ a ≤ kq := ⟨atRaw % (kq + 1), by simp, by have := Nat.mod_lt atRaw (show 0 < kq + 1 by omega); omega⟩
  obtain ⟨mode, hmode, hm6⟩ : ∃ a : Nat, (qMode : Int) % 6 = (a : Int) ∧ a < 6 := ⟨qMode % 6, by omega, by omega⟩
  have hmi : (mode : Int) < 6 := by omega
  have hq4i : (qi : Int) < 4 := by omega
  have HRd := hide (laid_ready hX hHo hR hN hN7 hq4 hm6 tab)
  simp only [qcells, rcells, scells, wcells] at HRd
  clear hX hHo hR hN t0 hB3 hH hQ tab
  refine wp_seq (x := st 8) (y := rest 9) ?_
  conv => arg 2; whnf
  go_wp2_with fail
  refine wp_seq (x := st 9) (y := rest 10) ?_
  conv => arg 2; whnf
  go_wp2_with fail
  refine wp_seq (x := st 10) (y := rest 11) ?_
  conv => arg 2; whnf
  go_wp2_with fail
  refine wp_seq (x := st 11) (y := rest 12) ?_
  conv => arg 2; whnf
  go_wp2_with fail
  refine wp_seq (x := st 12) (y := rest 13) ?_
  conv => arg 2; whnf
  go_wp2_with fail
  refine wp_seq (x := st 13) (y := rest 14) ?_
  conv => arg 2; whnf
  go_wp2_with fail
  try simp only [hat]
  exact T14 w _ w.heap.size wr.heap.size hb ho qb qo qi mode kh kq hc qc at' upto skp skA ha qa tt fresh hx qx seen _ HRd.out hkh hkq hat1 hq4 hm6 HH.out HQ.out rfl b4 b5 b6

end Go.Proofs.YbulkcahwDoor.Ho
