/-
  Statement 18: the model's walk over the queue.
-/
import Derived.Test.YbulkcahwDoorT19
namespace Go.Proofs.YbulkcahwDoor.Ho
open Go.RowKit
set_option linter.unusedVariables false
set_option linter.unusedSimpArgs false

/-- What handOver has left. -/
structure Aft (w0 w : World) (B n0 mode : Nat) (tt : Bool) (s : St) (up : Nat) : Prop where
  gos : GoS w B n0 (8 + mode * 4) 7 tt s up
  q7 : w.cell? ⟨n0, 7, none⟩ = some (.int .u64 7)
  txs : ∀ j, j < 4 → w.cell? ⟨B, j, none⟩ = some (.pointer (some ⟨B + 2 + j, 0, none⟩))
  bel : Below B w0 w

theorem Aft.fin {w0 w w' : World} {B n0 N qi mode up : Nat} {tt : Bool} {s : St} (h : Aft w0 w B n0 mode tt s up) (hN : N = w.heap.size) (hF : FrM (B + 1) N w w') (hM : MdS w' (B + 1) N tt qi s) (hS : Small s) (hl : s.stk.length ≤ 100000) : Fin4 w0 w' B n0 N qi mode tt s up := by
  have hlay := h.gos.lay
  have hsz := h.gos.size
  exact ⟨h.gos.same (fun k hk hne => hF.block k (by omega) hne) hF.size, hM, hF.cell (by omega) (by omega) h.q7, fun j hj => hF.cell (by omega) (by omega) (h.txs j hj),
    h.bel.trans ⟨hF.os, hF.tape, hF.output, hF.size, fun k hk => hF.block k (by omega) (by omega)⟩, hS, hl⟩

theorem Aft.below {w0 w w' : World} {B n0 N mode up : Nat} {tt : Bool} {s : St} (h : Aft w0 w B n0 mode tt s up) (hN : N = w.heap.size) (hF : FrM (B + 1) N w w') : Below B w0 w' := by
  have hlay := h.gos.lay
  have hsz := h.gos.size
  exact h.bel.trans ⟨hF.os, hF.tape, hF.output, hF.size, fun k hk => hF.block k (by omega) (by omega)⟩

/-- What the model's first walk has left. -/
def Res (tt : Bool) (qi mode at' : Nat) (qs : Nat → Nat × Nat) (b : Bool) (up1 : Nat) (s1 : St) (g : Bool) (up : Nat) (s : St) : Prop :=
  (if b = true then (true, up1, s1) else queue tt qi mode ((ents at' qs).drop up1) up1 s1) = (g, up, s)

set_option maxRecDepth 1000000 in
set_option maxHeartbeats 4000000 in
theorem T18 (w0 wP wx : World) (B n0 N qb qo qi mode kq qc at' up up1 : Nat) (qa : Option Addr) (tt g b : Bool) (qx : Nat → Nat × Nat) (s s1 : St) {x0 x2 x3 x4 x5 x6 x7 x8 x9 x10 x11 x12 x13 x14 x15 x16 x17 x18 x19 x20 x21 x22 x25 x26 x27 x28 x29 x30 x37 x40 x41 x42 x43 x44 x45 x46 x47 x48 x49 x50 x51 x52 x53 x54 x55 x56 x57 x58 x59 x60 x61 x62 x63 x64 x65 x66 x67 x68 x69 x70 x71 x72 x73 x74 x75 x76 x77 x78 x79 x80 x81 x82 x83 x84 x85 x86 x87 x88 x89 x90 x91 x92 x93 x94 x95 x96 x97 x98 x99 x100 x101 x102 x103 x104 x105 x106 x107 x108 x109 x110 x111 x112 x113 x114 x115 x116 x117 x118 x119 x120 x121 x122 x123 x124 x125 x126 x127 x128 x129 x130 x131 x132 x133 x134 x135 x136 x137 x138 x139 x140 x141 x142 x143 x144 x145 x146 x147 x148 x149 x150 x151 x152 x153 x154 x155 x156 x157 x158 x159 x160 x161 x162 x163 x164 x165 x166 x167 x168 x169 x170 x171 x172 x173 x174 x175 x176 x177 x178 x179 x180 x181 x182 x183 x184 x185 x186 x187 x188 x189 x190 x191 x192 x193 x194 x195 x196 x197 x198 x199 x200 x201 x202 x203 x204 x205 x206 x207 x208 x209 x210 x211 x212 x213 x214 x215 x216 x217 x218 x219 x220 x221 x222 x223 x224 x225 x226 x227 x228 x229 x230 x231 x232 x233 x234 x235 x236 x237 x238 x239 x240 x241 x242 x243 x244 x245 x246 x247 x248 x249 x250 x251 x252 x253 x254 x255 x256 x257 x258 x259 x260 x261 x262 x263 x264 x265 x266 x267 x268 x269 x270 x271 x272 x273 x274 x275 x276 x277 x278 x279 x280 x281 x282 x283 x284 x285 x286 x287 x288 x289 x290 x291 x292 x293 x294 x295 x296 x297 x298 x299 x300 x301 x302 x303 x304 x305 x306 x307 x308 x309 x310 x311 x312 x313 x314 x315 x316 x317 x318 x319 x320 x321 x322 x323 x324 x325 x326 x327 x328 x329 x330 x331 x332 x333 x334 x335 x336 x337 x338 x339 x340 x341 x342 x343 x344 x345 x346 x347 x348 x349 x350 x351 x352 x353 x354 x355 x356 x357 x358 x359 x360 x361 x362 x363 x364 x365 x366 x367 x368 x369 x370 x371 x372 x373 x374 x375 x376 x377 x378 x379 x380 x381 x382 x383 x384 x385 x386 x387 x388 x389 x390 x391 x392 x393 x394 x395 x396 x397 x398 x399 x400 x401 x402 x403 x404 x405 x406 x407 x408 x409 x410 x411 x412 x413 x414 x415 x416 x417 x418 x419 x420 x421 : Value} (hA : Aft w0 wP B n0 mode tt s up) (hN : N = wP.heap.size) (hF : FrM (B + 1) N wP wx) (hM : MdS wx (B + 1) N tt qi s1) (hS : Small s1) (hl : s1.stk.length ≤ 4000)
    (hres : Res tt qi mode at' (red qx) b up1 s1 g up s) (hkq : kq ≤ 1024) (hup1 : up1 ≤ kq) (hat : at' ≤ kq) (hQ : In w0 qa kq qb qo qx) (hB : B = w0.heap.size) (hq4 : qi < 4) (hm6 : mode < 6) :
    Code.wp Ybad.prog (rest 18) (Goal w0 B) ⟨List.toArray (x0 :: .slice qa kq qc :: x2 :: x3 :: x4 :: x5 :: x6 :: x7 :: x8 :: x9 :: x10 :: x11 :: x12 :: x13 :: x14 :: x15 :: x16 :: x17 :: x18 :: x19 :: x20 :: x21 :: x22 :: .pointer (some ⟨B, 0, none⟩) :: .pointer (some ⟨B + 1, 0, none⟩) :: x25 :: x26 :: x27 :: x28 :: x29 :: x30 :: .int .i64 (at' : Nat) :: .int .i64 (mode : Nat) :: .pointer (some ⟨n0, 0, none⟩) :: .pointer (some ⟨n0 + 2, 0, none⟩) :: .pointer (some ⟨n0 + 3, 0, none⟩) :: .int .i64 (up1 : Nat) :: x37 :: .bool g :: .bool b :: x40 :: x41 :: x42 :: x43 :: x44 :: x45 :: x46 :: x47 :: x48 :: x49 :: x50 :: x51 :: x52 :: x53 :: x54 :: x55 :: x56 :: x57 :: x58 :: x59 :: x60 :: x61 :: x62 :: x63 :: x64 :: x65 :: x66 :: x67 :: x68 :: x69 :: x70 :: x71 :: x72 :: x73 :: x74 :: x75 :: x76 :: x77 :: x78 :: x79 :: x80 :: x81 :: x82 :: x83 :: x84 :: x85 :: x86 :: x87 :: x88 :: x89 :: x90 :: x91 :: x92 :: x93 :: x94 :: x95 :: x96 :: x97 :: x98 :: x99 :: x100 :: x101 :: x102 :: x103 :: x104 :: x105 :: x106 :: x107 :: x108 :: x109 :: x110 :: x111 :: x112 :: x113 :: x114 :: x115 :: x116 :: x117 :: x118 :: x119 :: x120 :: x121 :: x122 :: x123 :: x124 :: x125 :: x126 :: x127 :: x128 :: x129 :: x130 :: x131 :: x132 :: x133 :: x134 :: x135 :: x136 :: x137 :: x138 :: x139 :: x140 :: x141 :: x142 :: x143 :: x144 :: x145 :: x146 :: x147 :: x148 :: x149 :: x150 :: x151 :: x152 :: x153 :: x154 :: x155 :: x156 :: x157 :: x158 :: x159 :: x160 :: x161 :: x162 :: x163 :: x164 :: x165 :: x166 :: x167 :: x168 :: x169 :: x170 :: x171 :: x172 :: x173 :: x174 :: x175 :: x176 :: x177 :: x178 :: x179 :: x180 :: x181 :: x182 :: x183 :: x184 :: x185 :: x186 :: x187 :: x188 :: x189 :: x190 :: x191 :: x192 :: x193 :: x194 :: x195 :: x196 :: x197 :: x198 :: x199 :: x200 :: x201 :: x202 :: x203 :: x204 :: x205 :: x206 :: x207 :: x208 :: x209 :: x210 :: x211 :: x212 :: x213 :: x214 :: x215 :: x216 :: x217 :: x218 :: x219 :: x220 :: x221 :: x222 :: x223 :: x224 :: x225 :: x226 :: x227 :: x228 :: x229 :: x230 :: x231 :: x232 :: x233 :: x234 :: x235 :: x236 :: x237 :: x238 :: x239 :: x240 :: x241 :: x242 :: x243 :: x244 :: x245 :: x246 :: x247 :: x248 :: x249 :: x250 :: x251 :: x252 :: x253 :: x254 :: x255 :: x256 :: x257 :: x258 :: x259 :: x260 :: x261 :: x262 :: x263 :: x264 :: x265 :: x266 :: x267 :: x268 :: x269 :: x270 :: x271 :: x272 :: x273 :: x274 :: x275 :: x276 :: x277 :: x278 :: x279 :: x280 :: x281 :: x282 :: x283 :: x284 :: x285 :: x286 :: x287 :: x288 :: x289 :: x290 :: x291 :: x292 :: x293 :: x294 :: x295 :: x296 :: x297 :: x298 :: x299 :: x300 :: x301 :: x302 :: x303 :: x304 :: x305 :: x306 :: x307 :: x308 :: x309 :: x310 :: x311 :: x312 :: x313 :: x314 :: x315 :: x316 :: x317 :: x318 :: x319 :: x320 :: x321 :: x322 :: x323 :: x324 :: x325 :: x326 :: x327 :: x328 :: x329 :: x330 :: x331 :: x332 :: x333 :: x334 :: x335 :: x336 :: x337 :: x338 :: x339 :: x340 :: x341 :: x342 :: x343 :: x344 :: x345 :: x346 :: x347 :: x348 :: x349 :: x350 :: x351 :: x352 :: x353 :: x354 :: x355 :: x356 :: x357 :: x358 :: x359 :: x360 :: x361 :: x362 :: x363 :: x364 :: x365 :: x366 :: x367 :: x368 :: x369 :: x370 :: x371 :: x372 :: x373 :: x374 :: x375 :: x376 :: x377 :: x378 :: x379 :: x380 :: x381 :: x382 :: x383 :: x384 :: x385 :: x386 :: x387 :: x388 :: x389 :: x390 :: x391 :: x392 :: x393 :: x394 :: x395 :: x396 :: x397 :: x398 :: x399 :: x400 :: x401 :: x402 :: x403 :: x404 :: x405 :: x406 :: x407 :: x408 :: x409 :: x410 :: x411 :: x412 :: x413 :: x414 :: x415 :: x416 :: x417 :: x418 :: x419 :: x420 :: x421 :: []), []⟩ wx := by
  have HA := hide hA
  have HN := hide hN
  have HF := hide hF
  have HM := hide hM
  have HS := hide hS
  have HR := hide hres
  have HQ := hide hQ
  have HB := hide hB
  clear hA hN hF hM hS hres hQ hB
  refine wp_seq (x := st 18) (y := rest 19) ?_
  obtain ⟨K, HK⟩ : ∃ K, K = Code.wp Ybad.prog (rest 19) (Goal w0 B) := ⟨_, rfl⟩
  rw [← HK]
  have HKK := hide HK
  clear HK
  conv => arg 2; whnf
  cases b with
  | true =>
    have e : ((true : Bool), up1, s1) = (g, up, s) := HR.out
    injection e with e1 e2
    injection e2 with e2 e3
    subst e1 e2 e3
    go_wp2
    rw [HKK.out]
    exact T19 w0 _ B n0 N qi mode up1 tt true s1 (HA.out.fin HN.out HF.out HM.out HS.out (by omega)) hm6
  | false =>
    have HR1 : Hid (queue tt qi mode ((ents at' (red qx)).drop up1) up1 s1 = (g, up, s)) := HR.out
    clear HR
    go_wp2_with fail
    go_loopg [36, 39] (at' - up1) (fun m s36 s39 wr => ∃ (k : Nat) (t : St), m = at' - k ∧ s36 = .int .i64 (k : Nat) ∧ s39 = .bool false ∧ k ≤ 1024 ∧ MdS wr (B + 1) N tt qi t ∧ FrM (B + 1) N wP wr ∧ Small t ∧ t.stk.length ≤ 4000 + k ∧ Hid (queue tt qi mode ((ents at' (red qx)).drop k) k t = (g, up, s)))
    case atStart => exact ⟨up1, s1, rfl, rfl, rfl, by omega, HM.out, HF.out, HS.out, by omega, HR1⟩
    case round =>
      clear HM HF HS hl HR1
      obtain ⟨k, t, rfl, rfl, rfl, hk, hM, hF, hS, hl, HR⟩ := hrel
      by_cases hlt : k < at'
      · have hd : decide ((k : Int) < (at' : Int)) = true := decide_eq_true (by omega)
        have hBw := HA.out.below HN.out hF
        have hI := HQ.out.below (by rw [← HB.out]; exact hBw)
        obtain rfl := hI.a (by omega)
        have c0 := hI.c0 k (by omega)
        have c1 := hI.c1 k (by omega)
        have hbd := hI.bd k (by omega)
        have hqb : qb < wr.heap.size := World.block_lt_of_cell? _ _ c0
        have hki : (k : Int) < (kq : Int) := by omega
        obtain ⟨u, m, hu4, hm6', hum, hu, hm⟩ : ∃ u m : Nat, u < 4 ∧ m < 6 ∧ red qx k = (u, m) ∧ (((qx k).1 : Nat) : Int) % 4 = (u : Int) ∧ (((qx k).2 : Nat) : Int) % 6 = (m : Int) := ⟨(qx k).1 % 4, (qx k).2 % 6, by omega, by omega, rfl, by omega, by omega⟩
        have HE := hide (ents_drop at' (red qx) k hlt)
        have HUM := hide hum
        generalize (qx k).1 = ea at *
        generalize (qx k).2 = eb at *
        have hMW := hide (hM.alloc (.cells #[.int .u8 (ea : Nat), .int .u8 (eb : Nat)] 76))
        have hFW := hide (hF.alloc hM.size (.cells #[.int .u8 (ea : Nat), .int .u8 (eb : Nat)] 76))
        have HSt := hide hS
        clear hM hF hS hI hBw hum
        cases hc : cmp m mode with
        | true =>
          have HQ2 : Hid (queue tt qi mode ((ents at' (red qx)).drop (k + 1)) (k + 1) t = (g, up, s)) := by
            have h1 := HR.out
            rw [HE.out, HUM.out, queue_yes hc] at h1
            exact h1
          go_wp2_with fail
          refine Calls.mono (compat_any _ m mode hm6' hm6) ?_
          rintro e w' ⟨rfl, rfl⟩
          simp only [hc]
          go_wp2
          go_roundg (at' - (k + 1))
          case measure => go_light; omega
          case rel => go_light; exact ⟨k + 1, t, rfl, by go_num, rfl, by omega, hMW.out, hFW.out, HSt.out, by omega, HQ2⟩
        | false =>
          go_wp2_with fail
          refine Calls.mono (compat_any _ m mode hm6' hm6) ?_
          rintro e w' ⟨rfl, rfl⟩
          simp only [hc]
          go_wp2_with fail
          refine Calls.mono (mconfl_any _ (B + 1) N qi tt t u (k : Nat) hu4 hq4 hMW.out (by omega) HSt.out) ?_
          rintro e w' ⟨rfl, hM2, hF2⟩
          have HM2 := hide hM2
          have HF2 := hide (hFW.out.trans hF2)
          have HS2 := hide (confl_small (tt := tt) (qi := qi) (u := u) (a := (k : Nat)) HSt.out hu4 hq4)
          have hl2 := confl_len tt qi u (k : Nat) t
          clear hM2 hF2 hMW hFW
          cases hcc : (confl tt qi u (k : Nat) t).1 with
          | true =>
            have e : (true, k, (confl tt qi u (k : Nat) t).2) = (g, up, s) := by
              have h1 := HR.out
              rw [HE.out, HUM.out, queue_hit hc hcc] at h1
              exact h1
            injection e with e1 e2
            injection e2 with e2 e3
            subst e1 e2 e3
            simp only []
            go_wp2
            rw [HKK.out]
            exact T19 w0 _ B n0 N qi mode k tt true _ (HA.out.fin HN.out HF2.out HM2.out HS2.out (by omega)) hm6
          | false =>
            have HQ2 : Hid (queue tt qi mode ((ents at' (red qx)).drop (k + 1)) (k + 1) (confl tt qi u (k : Nat) t).2 = (g, up, s)) := by
              have h1 := HR.out
              rw [HE.out, HUM.out, queue_on hc hcc] at h1
              exact h1
            simp only []
            go_wp2
            go_roundg (at' - (k + 1))
            case measure => go_light; omega
            case rel => go_light; exact ⟨k + 1, _, rfl, by go_num, rfl, by omega, HM2.out, HF2.out, HS2.out, by omega, HQ2⟩
      · have hd : decide ((k : Int) < (at' : Int)) = false := decide_eq_false (by omega)
        have e : ((false : Bool), k, t) = (g, up, s) := by
          have h1 := HR.out
          rw [ents_end at' (red qx) k (by omega)] at h1
          exact h1
        injection e with e1 e2
        injection e2 with e2 e3
        subst e1 e2 e3
        have HF4 := hide (HA.out.fin HN.out hF hM hS (by omega))
        clear hF hM hS HR HA
        go_wp2
        rw [HKK.out]
        exact T19 w0 _ B n0 N qi mode k tt false t HF4.out hm6

end Go.Proofs.YbulkcahwDoor.Ho
