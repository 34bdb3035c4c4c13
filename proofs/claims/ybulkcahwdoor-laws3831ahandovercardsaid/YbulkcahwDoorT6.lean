/-
  Statement 6: the holders are laid.
-/
import Derived.Test.YbulkcahwDoorT7
namespace Go.Proofs.YbulkcahwDoor.Ho
open Go.RowKit
set_option linter.unusedVariables false
set_option linter.unusedSimpArgs false

theorem info64 : (Ybad.prog.info? 64).map (fun i => (i.zero, i.size, i.bytes)) = some (some (.agg #[.pointer none, .int .u8 0, .int .u64 0, .int .i64 0]), 4, 32) := by kernel_rfl

set_option maxRecDepth 1000000 in
set_option maxHeartbeats 4000000 in
theorem T6 (w w1 w2 : World) (hb ho qb qo qi kh kq hc qc qMode atRaw upto skp : Nat) (skA : Int) (ha qa : Option Addr) (tt fresh : Bool) (hx qx : Nat → Nat × Nat) (seen : Nat → Bool) {x2 x5 x11 x12 x13 x14 x15 x16 x17 x18 x19 x20 x21 x22 x25 x27 x28 x29 x30 x31 x32 x33 x34 x35 x36 x37 x38 x39 x40 x41 x42 x43 x44 x45 x46 x47 x48 x49 x50 x51 x52 x53 x54 x55 x56 x57 x58 x59 x60 x61 x62 x63 x64 x65 x66 x67 x68 x69 x70 x71 x72 x73 x74 x75 x76 x77 x78 x79 x80 x81 x82 x83 x84 x85 x86 x87 x88 x89 x90 x91 x92 x93 x94 x95 x96 x97 x98 x99 x100 x101 x102 x103 x104 x105 x106 x107 x108 x109 x110 x111 x112 x113 x114 x115 x116 x117 x118 x119 x120 x121 x122 x123 x124 x125 x126 x127 x128 x129 x130 x131 x132 x133 x134 x135 x136 x137 x138 x139 x140 x141 x142 x143 x144 x145 x146 x147 x148 x149 x150 x151 x152 x153 x154 x155 x156 x157 x158 x159 x160 x161 x162 x163 x164 x165 x166 x167 x168 x169 x170 x171 x172 x173 x174 x175 x176 x177 x178 x179 x180 x181 x182 x183 x184 x185 x186 x187 x188 x189 x190 x191 x192 x193 x194 x195 x196 x197 x198 x199 x200 x201 x202 x203 x204 x205 x206 x207 x208 x209 x210 x211 x212 x213 x214 x215 x216 x217 x218 x219 x220 x221 x222 x223 x224 x225 x226 x227 x228 x229 x230 x231 x232 x233 x234 x235 x236 x237 x238 x239 x240 x241 x242 x243 x244 x245 x246 x247 x248 x249 x250 x251 x252 x253 x254 x255 x256 x257 x258 x259 x260 x261 x262 x263 x264 x265 x266 x267 x268 x269 x270 x271 x272 x273 x274 x275 x276 x277 x278 x279 x280 x281 x282 x283 x284 x285 x286 x287 x288 x289 x290 x291 x292 x293 x294 x295 x296 x297 x298 x299 x300 x301 x302 x303 x304 x305 x306 x307 x308 x309 x310 x311 x312 x313 x314 x315 x316 x317 x318 x319 x320 x321 x322 x323 x324 x325 x326 x327 x328 x329 x330 x331 x332 x333 x334 x335 x336 x337 x338 x339 x340 x341 x342 x343 x344 x345 x346 x347 x348 x349 x350 x351 x352 x353 x354 x355 x356 x357 x358 x359 x360 x361 x362 x363 x364 x365 x366 x367 x368 x369 x370 x371 x372 x373 x374 x375 x376 x377 x378 x379 x380 x381 x382 x383 x384 x385 x386 x387 x388 x389 x390 x391 x392 x393 x394 x395 x396 x397 x398 x399 x400 x401 x402 x403 x404 x405 x406 x407 x408 x409 x410 x411 x412 x413 x414 x415 x416 x417 x418 x419 x420 x421 : Value}
    (hX : Txs w w1 4 tt qi seen) (hH0 : Hold w1 w2 w.heap.size 0 (red hx)) (hkh : kh ≤ 1024) (hkq : kq ≤ 1024) (hq4 : qi < 4) (hH : In w ha kh hb ho hx) (hQ : In w qa kq qb qo qx) (tab : ∀ i j, i < 6 → j < 6 → w.cell? ⟨0, i * 6 + j, none⟩ = some (.bool (cmp i j))) (b2 : qMode < 256) (b3 : atRaw < 256) (b4 : upto < 256) (b5 : skp < 256) (b6 : -128 ≤ skA ∧ skA ≤ 127) :
    Code.wp Ybad.prog (rest 6) (Goal w w.heap.size) ⟨List.toArray (.slice ha kh hc :: .slice qa kq qc :: x2 :: .int .u8 (qMode : Nat) :: .int .u8 (atRaw : Nat) :: x5 :: .bool tt :: .bool fresh :: .int .u8 (upto : Nat) :: .int .u8 (skp : Nat) :: .int .i8 skA :: x11 :: x12 :: x13 :: x14 :: x15 :: x16 :: x17 :: x18 :: x19 :: x20 :: x21 :: x22 :: .pointer (some ⟨w.heap.size, 0, none⟩) :: .pointer (some ⟨w.heap.size + 1, 0, none⟩) :: x25 :: .pointer (some ⟨w.heap.size + 6, 0, none⟩) :: x27 :: x28 :: x29 :: x30 :: x31 :: x32 :: x33 :: x34 :: x35 :: x36 :: x37 :: x38 :: x39 :: x40 :: x41 :: x42 :: x43 :: x44 :: x45 :: x46 :: x47 :: x48 :: x49 :: x50 :: x51 :: x52 :: x53 :: x54 :: x55 :: x56 :: x57 :: x58 :: x59 :: x60 :: x61 :: x62 :: x63 :: x64 :: x65 :: x66 :: x67 :: x68 :: x69 :: x70 :: x71 :: x72 :: x73 :: x74 :: x75 :: x76 :: x77 :: x78 :: x79 :: x80 :: x81 :: x82 :: x83 :: x84 :: x85 :: x86 :: x87 :: x88 :: x89 :: x90 :: x91 :: x92 :: x93 :: x94 :: x95 :: x96 :: x97 :: x98 :: x99 :: x100 :: x101 :: x102 :: x103 :: x104 :: x105 :: x106 :: x107 :: x108 :: x109 :: x110 :: x111 :: x112 :: x113 :: x114 :: x115 :: x116 :: x117 :: x118 :: x119 :: x120 :: x121 :: x122 :: x123 :: x124 :: x125 :: x126 :: x127 :: x128 :: x129 :: x130 :: x131 :: x132 :: x133 :: x134 :: x135 :: x136 :: x137 :: x138 :: x139 :: x140 :: x141 :: x142 :: x143 :: x144 :: x145 :: x146 :: x147 :: x148 :: x149 :: x150 :: x151 :: x152 :: x153 :: x154 :: x155 :: x156 :: x157 :: x158 :: x159 :: x160 :: x161 :: x162 :: x163 :: x164 :: x165 :: x166 :: x167 :: x168 :: x169 :: x170 :: x171 :: x172 :: x173 :: x174 :: x175 :: x176 :: x177 :: x178 :: x179 :: x180 :: x181 :: x182 :: x183 :: x184 :: x185 :: x186 :: x187 :: x188 :: x189 :: x190 :: x191 :: x192 :: x193 :: x194 :: x195 :: x196 :: x197 :: x198 :: x199 :: x200 :: x201 :: x202 :: x203 :: x204 :: x205 :: x206 :: x207 :: x208 :: x209 :: x210 :: x211 :: x212 :: x213 :: x214 :: x215 :: x216 :: x217 :: x218 :: x219 :: x220 :: x221 :: x222 :: x223 :: x224 :: x225 :: x226 :: x227 :: x228 :: x229 :: x230 :: x231 :: x232 :: x233 :: x234 :: x235 :: x236 :: x237 :: x238 :: x239 :: x240 :: x241 :: x242 :: x243 :: x244 :: x245 :: x246 :: x247 :: x248 :: x249 :: x250 :: x251 :: x252 :: x253 :: x254 :: x255 :: x256 :: x257 :: x258 :: x259 :: x260 :: x261 :: x262 :: x263 :: x264 :: x265 :: x266 :: x267 :: x268 :: x269 :: x270 :: x271 :: x272 :: x273 :: x274 :: x275 :: x276 :: x277 :: x278 :: x279 :: x280 :: x281 :: x282 :: x283 :: x284 :: x285 :: x286 :: x287 :: x288 :: x289 :: x290 :: x291 :: x292 :: x293 :: x294 :: x295 :: x296 :: x297 :: x298 :: x299 :: x300 :: x301 :: x302 :: x303 :: x304 :: x305 :: x306 :: x307 :: x308 :: x309 :: x310 :: x311 :: x312 :: x313 :: x314 :: x315 :: x316 :: x317 :: x318 :: x319 :: x320 :: x321 :: x322 :: x323 :: x324 :: x325 :: x326 :: x327 :: x328 :: x329 :: x330 :: x331 :: x332 :: x333 :: x334 :: x335 :: x336 :: x337 :: x338 :: x339 :: x340 :: x341 :: x342 :: x343 :: x344 :: x345 :: x346 :: x347 :: x348 :: x349 :: x350 :: x351 :: x352 :: x353 :: x354 :: x355 :: x356 :: x357 :: x358 :: x359 :: x360 :: x361 :: x362 :: x363 :: x364 :: x365 :: x366 :: x367 :: x368 :: x369 :: x370 :: x371 :: x372 :: x373 :: x374 :: x375 :: x376 :: x377 :: x378 :: x379 :: x380 :: x381 :: x382 :: x383 :: x384 :: x385 :: x386 :: x387 :: x388 :: x389 :: x390 :: x391 :: x392 :: x393 :: x394 :: x395 :: x396 :: x397 :: x398 :: x399 :: x400 :: x401 :: x402 :: x403 :: x404 :: x405 :: x406 :: x407 :: x408 :: x409 :: x410 :: x411 :: x412 :: x413 :: x414 :: x415 :: x416 :: x417 :: x418 :: x419 :: x420 :: x421 :: []), []⟩ w2 := by
  have HX := hide hX
  have HH0 := hide hH0
  have HTab := hide tab
  have HQ := hide hQ
  clear hX hH0 tab hQ
  refine wp_seq (x := st 6) (y := rest 7) ?_
  conv => arg 2; whnf
  go_wp2_with fail
  go_loopg [94] kh (fun g s94 wr => ∃ i, i ≤ kh ∧ g = kh - i ∧ s94 = .int .i64 (i : Nat) ∧ Hold w1 wr w.heap.size i (red hx))
  case atStart => exact ⟨0, Nat.zero_le _, rfl, rfl, HH0.out⟩
  case round =>
    clear HH0
    obtain ⟨i, hi, rfl, rfl, hR⟩ := hrel
    have hBw : Below w.heap.size w wr := HX.out.bel.trans (hR.bel.mono (by omega))
    by_cases hlt : i < kh
    · skip
      have hd : decide ((i : Int) < (kh : Int)) = true := decide_eq_true (by omega)
      have hI := hH.below hBw
      obtain rfl := hI.a (by omega)
      have e0 := hI.c0 i hlt
      have e1 := hI.c1 i hlt
      have hbd := hI.bd i hlt
      have hhb : hb < wr.heap.size := World.block_lt_of_cell? _ _ e0
      obtain ⟨u, hu, hu4, hru⟩ : ∃ u : Nat, (((hx i).1 : Nat) : Int) % 4 = (u : Int) ∧ u < 4 ∧ (red hx i).1 = u := ⟨(hx i).1 % 4, by omega, by omega, rfl⟩
      obtain ⟨m, hm, hm6, hrm⟩ : ∃ m : Nat, (((hx i).2 : Nat) : Int) % 6 = (m : Int) ∧ m < 6 ∧ (red hx i).2 = m := ⟨(hx i).2 % 6, by omega, by omega, rfl⟩
      have hu4' : (u : Int) < 4 := by omega
      have hut : (((hx i).1 : Nat) : Int).tmod 4 = (u : Int) := by rw [Int.tmod_eq_emod_of_nonneg (by omega)]; exact hu
      have hmt : (((hx i).2 : Nat) : Int).tmod 6 = (m : Int) := by rw [Int.tmod_eq_emod_of_nonneg (by omega)]; exact hm
      obtain ⟨v, h9, hown⟩ := hR.l9
      have htx := HX.out.tx u hu4
      rw [if_pos hu4] at htx
      have htx2 : wr.cell? ⟨w.heap.size, u, none⟩ = some (ptr (w.heap.size + 2 + u)) := (hR.bel.cell (p := ⟨w.heap.size, u, none⟩) (by show w.heap.size < w.heap.size + 6; omega)).trans htx
      obtain ⟨a, b, hab⟩ : ∃ a b, a = (hx i).1 ∧ b = (hx i).2 := ⟨_, _, rfl, rfl⟩
      rw [← hab.1] at e0 hu hut
      rw [← hab.2] at e1 hm hmt
      rw [← hab.1, ← hab.2] at hbd
      have HR := hide hR
      have HRU := hide hru
      have HRM := hide hrm
      clear hR hI hBw hru hrm hab htx
      go_wp2_with fail
      have hwB : w.heap.size < wr.heap.size := World.block_lt_of_cell? _ _ htx2
      have hwL : w.heap.size + 6 < wr.heap.size := World.block_lt_of_cell? _ _ h9
      obtain ⟨W0, hW0⟩ : ∃ W0, W0 = (wr.alloc (.cells #[.int .u8 (a : Nat), .int .u8 (b : Nat)] 76)).drew := ⟨_, rfl⟩
      have hS0 : W0.cell? ⟨w.heap.size + 6, 9, none⟩ = some v ∧ W0.cell? ⟨wr.heap.size, 0, none⟩ = some (.int .u8 (a : Nat)) ∧ W0.cell? ⟨wr.heap.size, 1, none⟩ = some (.int .u8 (b : Nat)) ∧ W0.cell? ⟨w.heap.size, u, none⟩ = some (.pointer (some ⟨w.heap.size + 2 + u, 0, none⟩)) := by
        rw [hW0]
        exact ⟨calloc h9 _, cell_new _ _ _ 0 rfl, cell_new _ _ _ 1 rfl, calloc htx2 _⟩
      refine region_E (S := fun w' => w'.cell? ⟨w.heap.size + 6, 9, none⟩ = some v ∧ w'.cell? ⟨wr.heap.size, 0, none⟩ = some (.int .u8 (a : Nat)) ∧ w'.cell? ⟨wr.heap.size, 1, none⟩ = some (.int .u8 (b : Nat)) ∧ w'.cell? ⟨w.heap.size, u, none⟩ = some (.pointer (some ⟨w.heap.size + 2 + u, 0, none⟩))) (f := 23) (by kernel_rfl) ?_
      rw [← hW0]
      show AnyE _ _ _ _ _ _ 24 (Array.replicate 24 false) _ _
      refine anyE_take (i := 0) (oi := _) (v := ?_) rfl (by kernel_rfl) (fun _ _ _ h => h) (by rfl) ?_ hS0 ?_
      case refine_2 => rintro w' ⟨s1, s2, s3, s4⟩; go_simp; with_reducible rfl
      simp only [Act.put, List.setIfInBounds_toArray, List.set_cons_zero, List.set_cons_succ]
      refine anyE_take (i := 1) (oi := _) (v := ?_) rfl (by kernel_rfl) (fun _ _ _ h => h) (by rfl) ?_ hS0 ?_
      case refine_2 => rintro w' ⟨s1, s2, s3, s4⟩; go_simp; with_reducible rfl
      simp only [Act.put, List.setIfInBounds_toArray, List.set_cons_zero, List.set_cons_succ]
      refine anyE_take (i := 2) (oi := _) (v := ?_) rfl (by kernel_rfl) (fun _ _ _ h => h) (by rfl) ?_ hS0 ?_
      case refine_2 => rintro w' ⟨s1, s2, s3, s4⟩; go_simp; with_reducible rfl
      simp only [Act.put, List.setIfInBounds_toArray, List.set_cons_zero, List.set_cons_succ]
      refine anyE_take (i := 3) (oi := _) (v := ?_) rfl (by kernel_rfl) (fun _ _ _ h => h) (by rfl) ?_ hS0 ?_
      case refine_2 => rintro w' ⟨s1, s2, s3, s4⟩; go_simp; with_reducible rfl
      simp only [Act.put, List.setIfInBounds_toArray, List.set_cons_zero, List.set_cons_succ]
      refine anyE_take (i := 4) (oi := _) (v := ?_) rfl (by kernel_rfl) (fun _ _ _ h => h) (by rfl) ?_ hS0 ?_
      case refine_2 => rintro w' ⟨s1, s2, s3, s4⟩; go_simp; with_reducible rfl
      simp only [Act.put, List.setIfInBounds_toArray, List.set_cons_zero, List.set_cons_succ]
      refine anyE_take (i := 5) (oi := _) (v := ?_) rfl (by kernel_rfl) (fun _ _ _ h => h) (by rfl) ?_ hS0 ?_
      case refine_2 => rintro w' ⟨s1, s2, s3, s4⟩; go_simp; with_reducible rfl
      simp only [Act.put, List.setIfInBounds_toArray, List.set_cons_zero, List.set_cons_succ]
      refine anyE_take (i := 6) (oi := _) (v := ?_) rfl (by kernel_rfl) (fun _ _ _ h => h) (by rfl) ?_ hS0 ?_
      case refine_2 => rintro w' ⟨s1, s2, s3, s4⟩; go_simp; with_reducible rfl
      simp only [Act.put, List.setIfInBounds_toArray, List.set_cons_zero, List.set_cons_succ]
      refine anyE_take (i := 7) (oi := _) (v := ?_) rfl (by kernel_rfl) (fun _ _ _ h => h) (by rfl) ?_ hS0 ?_
      case refine_2 => rintro w' ⟨s1, s2, s3, s4⟩; go_simp; with_reducible rfl
      simp only [Act.put, List.setIfInBounds_toArray, List.set_cons_zero, List.set_cons_succ]
      refine anyE_take (i := 8) (oi := _) (v := ?_) rfl (by kernel_rfl) (fun _ _ _ h => h) (by rfl) ?_ hS0 ?_
      case refine_2 => rintro w' ⟨s1, s2, s3, s4⟩; go_simp; with_reducible rfl
      simp only [Act.put, List.setIfInBounds_toArray, List.set_cons_zero, List.set_cons_succ]
      refine anyE_take (i := 9) (oi := _) (v := ?_) rfl (by kernel_rfl) (fun _ _ _ h => h) (by rfl) ?_ hS0 ?_
      case refine_2 => rintro w' ⟨s1, s2, s3, s4⟩; go_simp; with_reducible rfl
      simp only [Act.put, List.setIfInBounds_toArray, List.set_cons_zero, List.set_cons_succ]
      refine anyE_take (i := 10) (oi := _) (v := ?_) rfl (by kernel_rfl) (fun _ _ _ h => h) (by rfl) ?_ hS0 ?_
      case refine_2 => rintro w' ⟨s1, s2, s3, s4⟩; go_simp; with_reducible rfl
      simp only [Act.put, List.setIfInBounds_toArray, List.set_cons_zero, List.set_cons_succ]
      refine anyE_take (i := 11) (oi := _) (v := ?_) rfl (by kernel_rfl) (fun _ _ _ h => h) (by rfl) ?_ hS0 ?_
      case refine_2 => rintro w' ⟨s1, s2, s3, s4⟩; go_simp; with_reducible rfl
      simp only [Act.put, List.setIfInBounds_toArray, List.set_cons_zero, List.set_cons_succ]
      refine anyE_take (i := 12) (oi := _) (v := ?_) rfl (by kernel_rfl) (fun _ _ _ h => h) (by rfl) ?_ hS0 ?_
      case refine_2 => rintro w' ⟨s1, s2, s3, s4⟩; go_simp; with_reducible rfl
      simp only [Act.put, List.setIfInBounds_toArray, List.set_cons_zero, List.set_cons_succ]
      refine anyE_take (i := 13) (oi := _) (v := ?_) rfl (by kernel_rfl) (fun _ _ _ h => h) (by rfl) ?_ hS0 ?_
      case refine_2 => rintro w' ⟨s1, s2, s3, s4⟩; go_simp; with_reducible rfl
      simp only [Act.put, List.setIfInBounds_toArray, List.set_cons_zero, List.set_cons_succ]
      refine anyE_take (i := 14) (oi := _) (v := ?_) rfl (by kernel_rfl) (fun _ _ _ h => h) (by rfl) ?_ hS0 ?_
      case refine_2 => rintro w' ⟨s1, s2, s3, s4⟩; go_simp; with_reducible rfl
      simp only [Act.put, List.setIfInBounds_toArray, List.set_cons_zero, List.set_cons_succ]
      refine anyE_take (i := 15) (oi := _) (v := ?_) rfl (by kernel_rfl) (fun _ _ _ h => h) (by rfl) ?_ hS0 ?_
      case refine_2 => rintro w' ⟨s1, s2, s3, s4⟩; go_simp; with_reducible rfl
      simp only [Act.put, List.setIfInBounds_toArray, List.set_cons_zero, List.set_cons_succ]
      refine anyE_take (i := 16) (oi := _) (v := ?_) rfl (by kernel_rfl) (fun _ _ _ h => h) (by rfl) ?_ hS0 ?_
      case refine_2 => rintro w' ⟨s1, s2, s3, s4⟩; go_simp; with_reducible rfl
      simp only [Act.put, List.setIfInBounds_toArray, List.set_cons_zero, List.set_cons_succ]
      refine anyE_only (i := 17) rfl (by kernel_rfl) rfl fun K hK => ?_
      go_simp
      have hWs : ((wr.alloc (.cells #[.int .u8 (a : Nat), .int .u8 (b : Nat)] 76)).alloc (.cells #[.pointer (some ⟨w.heap.size + 2 + u, 0, none⟩), .int .u8 (m : Nat), .int .u64 0, .int .i64 0] 64)).drew.heap.size = wr.heap.size + 2 := by simp
      have hS1 : ((wr.alloc (.cells #[.int .u8 (a : Nat), .int .u8 (b : Nat)] 76)).alloc (.cells #[.pointer (some ⟨w.heap.size + 2 + u, 0, none⟩), .int .u8 (m : Nat), .int .u64 0, .int .i64 0] 64)).drew.cell? ⟨w.heap.size + 6, 9, none⟩ = some v ∧ ((wr.alloc (.cells #[.int .u8 (a : Nat), .int .u8 (b : Nat)] 76)).alloc (.cells #[.pointer (some ⟨w.heap.size + 2 + u, 0, none⟩), .int .u8 (m : Nat), .int .u64 0, .int .i64 0] 64)).drew.cell? ⟨wr.heap.size, 0, none⟩ = some (.int .u8 (a : Nat)) ∧ ((wr.alloc (.cells #[.int .u8 (a : Nat), .int .u8 (b : Nat)] 76)).alloc (.cells #[.pointer (some ⟨w.heap.size + 2 + u, 0, none⟩), .int .u8 (m : Nat), .int .u64 0, .int .i64 0] 64)).drew.cell? ⟨wr.heap.size, 1, none⟩ = some (.int .u8 (b : Nat)) ∧ ((wr.alloc (.cells #[.int .u8 (a : Nat), .int .u8 (b : Nat)] 76)).alloc (.cells #[.pointer (some ⟨w.heap.size + 2 + u, 0, none⟩), .int .u8 (m : Nat), .int .u64 0, .int .i64 0] 64)).drew.cell? ⟨w.heap.size, u, none⟩ = some (.pointer (some ⟨w.heap.size + 2 + u, 0, none⟩)) :=
        ⟨calloc (calloc h9 _) _, calloc (cell_new _ _ _ 0 rfl) _, calloc (cell_new _ _ _ 1 rfl) _, calloc (calloc htx2 _) _⟩
      have hOW : ((wr.alloc (.cells #[.int .u8 (a : Nat), .int .u8 (b : Nat)] 76)).alloc (.cells #[.pointer (some ⟨w.heap.size + 2 + u, 0, none⟩), .int .u8 (m : Nat), .int .u64 0, .int .i64 0] 64)).drew.ownsRow (w.heap.size + 7) 64 4 v i (hcells w.heap.size (red hx) i) := (hown.alloc _).alloc _
      have hnews : ∀ j x, (hcell w.heap.size (red hx i))[j]? = some x → ((wr.alloc (.cells #[.int .u8 (a : Nat), .int .u8 (b : Nat)] 76)).alloc (.cells #[.pointer (some ⟨w.heap.size + 2 + u, 0, none⟩), .int .u8 (m : Nat), .int .u64 0, .int .i64 0] 64)).drew.cell? ((⟨wr.heap.size + 1, 0, none⟩ : Addr).add j) = some x := by
        simp only [hcell, HRU.out, HRM.out]
        exact row_new (W := wr.alloc (.cells #[.int .u8 (a : Nat), .int .u8 (b : Nat)] 76)) (by simp) _ 64
      have hkeep : ∀ k, k < wr.heap.size → ((wr.alloc (.cells #[.int .u8 (a : Nat), .int .u8 (b : Nat)] 76)).alloc (.cells #[.pointer (some ⟨w.heap.size + 2 + u, 0, none⟩), .int .u8 (m : Nat), .int .u64 0, .int .i64 0] 64)).drew.heap[k]? = wr.heap[k]? := fun k hk => (Below.heap_alloc _ _ _ (by simp; omega)).trans (Below.heap_alloc _ _ _ hk)
      have hos : ((wr.alloc (.cells #[.int .u8 (a : Nat), .int .u8 (b : Nat)] 76)).alloc (.cells #[.pointer (some ⟨w.heap.size + 2 + u, 0, none⟩), .int .u8 (m : Nat), .int .u64 0, .int .i64 0] 64)).drew.os = wr.os ∧ ((wr.alloc (.cells #[.int .u8 (a : Nat), .int .u8 (b : Nat)] 76)).alloc (.cells #[.pointer (some ⟨w.heap.size + 2 + u, 0, none⟩), .int .u8 (m : Nat), .int .u64 0, .int .i64 0] 64)).drew.tape = wr.tape ∧ ((wr.alloc (.cells #[.int .u8 (a : Nat), .int .u8 (b : Nat)] 76)).alloc (.cells #[.pointer (some ⟨w.heap.size + 2 + u, 0, none⟩), .int .u8 (m : Nat), .int .u64 0, .int .i64 0] 64)).drew.output = wr.output := ⟨rfl, rfl, rfl⟩
      generalize ((wr.alloc (.cells #[.int .u8 (a : Nat), .int .u8 (b : Nat)] 76)).alloc (.cells #[.pointer (some ⟨w.heap.size + 2 + u, 0, none⟩), .int .u8 (m : Nat), .int .u64 0, .int .i64 0] 64)).drew = W at *
      refine hK _ _ (.inr hS1) ?_
      clear hK K
      obtain ⟨i0, hi0, hz0, hz1, hz2⟩ := info_parts info64
      refine anyE_only (i := 18) rfl (by kernel_rfl) rfl fun K hK => ?_
      refine wp_append_lies _ _ _ 60 rfl (w.heap.size + 7) 64 i0 _ 4 32 Ybad.underlying60 hi0 hz0 hz1 hz2 rfl (by decide) v i _ rfl hOW ⟨wr.heap.size + 1, 0, none⟩ 1 1 (hcell w.heap.size (red hx i)) rfl rfl hnews ?_ (by omega) (by unfold maxLen; omega) (by omega) (by rw [hWs]; omega) _ rfl ?_
      · intro x hx'
        simp only [hcell, List.mem_cons, List.not_mem_nil, or_false] at hx'
        rcases hx' with rfl | rfl | rfl | rfl <;> rfl
      intro g cap w5 hO5 hg5 hat hlt5
      have hvb : ∀ k, v.ownBlock = some k → w.heap.size + 7 ≤ k ∧ k < wr.heap.size := fun k hk => hown.lt k hk
      have hS5 : w5.cell? ⟨w.heap.size + 6, 9, none⟩ = some v ∧ w5.cell? ⟨wr.heap.size, 0, none⟩ = some (.int .u8 (a : Nat)) ∧ w5.cell? ⟨wr.heap.size, 1, none⟩ = some (.int .u8 (b : Nat)) ∧ w5.cell? ⟨w.heap.size, u, none⟩ = some (.pointer (some ⟨w.heap.size + 2 + u, 0, none⟩)) :=
        ⟨ckeep hS1.1 (hg5.block _ (by omega) (fun e => by have := hvb _ e.symm; omega)), ckeep hS1.2.1 (hg5.block _ (by omega) (fun e => by have := hvb _ e.symm; omega)), ckeep hS1.2.2.1 (hg5.block _ (by omega) (fun e => by have := hvb _ e.symm; omega)), ckeep hS1.2.2.2 (hg5.block _ (by omega) (fun e => by have := hvb _ e.symm; omega))⟩
      have hf5 : w5.frozen? ⟨w.heap.size + 6, 9, none⟩ = false := ((HR.out.free.of_block (hkeep _ (by omega))).of_block (hg5.block _ (by omega) (fun e => by have := hvb _ e.symm; omega))).frozen 9
      have HN := hide (hold_step HR.out h9 hown hkeep (by omega) hos hO5 hg5)
      refine hK _ _ (.inr hS5) ?_
      clear hK K hO5 hg5 hat hlt5 hnews hOW hkeep hos hS1 hown
      simp only [Act.put, List.setIfInBounds_toArray, List.set_cons_zero, List.set_cons_succ]
      refine anyE_only (i := 19) rfl (by kernel_rfl) rfl fun K hK => ?_
      go_simp
      refine hK _ _ (.inr hS5) ?_
      clear hK K
      refine anyE_only (i := 20) rfl (by kernel_rfl) rfl fun K hK => ?_
      go_simp
      refine hK _ _ (.inr hS5) ?_
      clear hK K
      refine anyE_only (i := 21) rfl (by kernel_rfl) rfl fun K hK => ?_
      go_simp
      refine hK _ _ (.inr hS5) ?_
      clear hK K
      refine anyE_only (i := 22) rfl (by kernel_rfl) rfl fun K hK => ?_
      go_simp
      refine hK _ _ (.inr hS5) ?_
      clear hK K
      refine anyE_only (i := 23) rfl (by kernel_rfl) rfl fun K hK => ?_
      obtain ⟨s5, -, -, -⟩ := hS5
      go_simp
      refine hK _ _ (.inl (by kernel_rfl)) (anyE_done (by kernel_rfl) ?_)
      clear hK K
      go_wp2
      go_roundg (kh - (i + 1))
      case measure => go_light; omega
      case rel => go_light; exact ⟨i + 1, by omega, rfl, by go_num, HN.out⟩
    · have hd : decide ((i : Int) < (kh : Int)) = false := decide_eq_false (by omega)
      obtain rfl : kh = i := by omega
      have HR := hide hR
      have HH := hide hH
      clear hd hlt hi hR hBw hH
      go_wp2_with fail
      exact T7 w w1 _ hb ho qb qo qi kh kq hc qc qMode atRaw upto skp skA ha qa tt fresh hx qx seen HX.out HR.out hkh hkq hq4 HH.out HQ.out HTab.out b2 b3 b4 b5 b6

end Go.Proofs.YbulkcahwDoor.Ho
