/-
  THE WALK of (*lockState).handOver.
-/
import Derived.Test.YbulkcahwDoorReach
import Derived.Deep.RegionHeld3
namespace Go.Proofs.YbulkcahwDoor.Ho
open Go.RowKit
set_option linter.unusedVariables false

/-- What handOver is handed, and reads: the lock's state (block B + 6), the request q (block n0), the table. -/
structure Args (w : World) (B n0 qi mode kh kq : Nat) (ea qa : Option Addr) (ec qc eb xb : Nat) (hs qs : Nat → Nat × Nat) (rq : Nat → Nat) : Prop where
  hq : qi < 4
  hm : mode < 6
  beb : 0 < kh → eb < n0 ∧ B + 6 < eb
  bxb : 0 < kq → xb < n0 ∧ B + 6 < xb
  brb : ∀ i, i < kq → rq i < n0 ∧ B + 6 < rq i
  bhs : ∀ i, i < kh → (hs i).1 < 4 ∧ (hs i).2 < 6
  bqs : ∀ i, i < kq → (qs i).1 < 4 ∧ (qs i).2 < 6
  l9 : w.cell? ⟨B + 6, 9, none⟩ = some (.slice ea kh ec)
  l16 : w.cell? ⟨B + 6, 16, none⟩ = some (.slice qa kq qc)
  q0 : w.cell? ⟨n0, 0, none⟩ = some (ptr (B + 2 + qi))
  q2 : w.cell? ⟨n0, 2, none⟩ = some (.int .u8 (mode : Nat))
  aea : 0 < kh → ea = some ⟨eb, 0, none⟩
  aqa : 0 < kq → qa = some ⟨xb, 0, none⟩
  e0 : ∀ i, i < kh → w.cell? ⟨eb, i * 4, none⟩ = some (ptr (B + 2 + (hs i).1))
  e1 : ∀ i, i < kh → w.cell? ⟨eb, i * 4 + 1, none⟩ = some (.int .u8 ((hs i).2 : Nat))
  e2 : ∀ i, i < kh → w.cell? ⟨eb, i * 4 + 2, none⟩ = some (.int .u64 0)
  e3 : ∀ i, i < kh → w.cell? ⟨eb, i * 4 + 3, none⟩ = some (.int .i64 0)
  x : ∀ i, i < kq → w.cell? ⟨xb, i, none⟩ = some (ptr (rq i))
  x0 : ∀ i, i < kq → w.cell? ⟨rq i, 0, none⟩ = some (ptr (B + 2 + (qs i).1))
  x2 : ∀ i, i < kq → w.cell? ⟨rq i, 2, none⟩ = some (.int .u8 ((qs i).2 : Nat))
  tab : ∀ i j, i < 6 → j < 6 → w.cell? ⟨0, i * 6 + j, none⟩ = some (.bool (cmp i j))

section
variable {w : World} {B n0 qi mode kh kq ec qc eb xb : Nat} {ea qa : Option Addr} {hs qs : Nat → Nat × Nat} {rq : Nat → Nat}

theorem notMine {B n0 k : Nat} (h : k < B + 2 ∨ (B + 6 ≤ k ∧ k ≤ n0 + 1)) (hl : B + 7 ≤ n0) : ¬ Mine B n0 k := by unfold Mine; omega

theorem Args.kept {w' : World} (h : Args w B n0 qi mode kh kq ea qa ec qc eb xb hs qs rq) (hF : Fr B n0 w w') (hl : B + 7 ≤ n0) : Args w' B n0 qi mode kh kq ea qa ec qc eb xb hs qs rq := by
  have h1 := h.beb
  have h2 := h.bxb
  have k : ∀ {b o : Nat} {v : Value}, (b < B + 2 ∨ (B + 6 ≤ b ∧ b ≤ n0 + 1)) → w.cell? ⟨b, o, none⟩ = some v → w'.cell? ⟨b, o, none⟩ = some v := fun hb hc => hF.cell (by omega) (notMine hb hl) hc
  exact ⟨h.hq, h.hm, h.beb, h.bxb, h.brb, h.bhs, h.bqs, k (by omega) h.l9, k (by omega) h.l16, k (by omega) h.q0, k (by omega) h.q2, h.aea, h.aqa, fun i hi => k (by have := h1 (by omega); omega) (h.e0 i hi), fun i hi => k (by have := h1 (by omega); omega) (h.e1 i hi), fun i hi => k (by have := h1 (by omega); omega) (h.e2 i hi), fun i hi => k (by have := h1 (by omega); omega) (h.e3 i hi),
    fun i hi => k (by have := h2 (by omega); omega) (h.x i hi), fun i hi => k (by have := h.brb i hi; omega) (h.x0 i hi), fun i hi => k (by have := h.brb i hi; omega) (h.x2 i hi), fun i j hi hj => k (by omega) (h.tab i j hi hj)⟩

theorem Args.setQ (h : Args w B n0 qi mode kh kq ea qa ec qc eb xb hs qs rq) (hl : B + 7 ≤ n0) (v : Value) : Args (w.setCell ⟨n0, 7, none⟩ v) B n0 qi mode kh kq ea qa ec qc eb xb hs qs rq := by
  have h1 := h.beb
  have h2 := h.bxb
  exact ⟨h.hq, h.hm, h.beb, h.bxb, h.brb, h.bhs, h.bqs, cset h.l9 (by omega), cset h.l16 (by omega), cset h.q0 (by omega), cset h.q2 (by omega), h.aea, h.aqa, fun i hi => cset (h.e0 i hi) (by have := h1 (by omega); omega), fun i hi => cset (h.e1 i hi) (by have := h1 (by omega); omega), fun i hi => cset (h.e2 i hi) (by have := h1 (by omega); omega), fun i hi => cset (h.e3 i hi) (by have := h1 (by omega); omega),
    fun i hi => cset (h.x i hi) (by have := h2 (by omega); omega), fun i hi => cset (h.x0 i hi) (by have := h.brb i hi; omega), fun i hi => cset (h.x2 i hi) (by have := h.brb i hi; omega), fun i j hi hj => cset (h.tab i j hi hj) (by omega)⟩
end

set_option maxHeartbeats 1000000 in
set_option maxRecDepth 100000 in
theorem hand_fresh (w : World) (B n0 qi mode kh kq ec qc eb xb : Nat) (ea qa : Option Addr) (hs qs : Nat → Nat × Nat) (rq : Nat → Nat) (tt : Bool) (s : St) (at' : Nat) (hat : at' ≤ kq) (hnh : kh ≤ 1024) (hnq : kq ≤ 1024) (hS : Small s) (hlen : s.stk.length ≤ 4) (hsk : s.skip = none) (hsa : s.skAt = 0)
    (hA : Args w B n0 qi mode kh kq ea qa ec qc eb xb hs qs rq) (hG : GoS w B n0 (8 + mode * 4) 0 tt s 0) (hf : Free w n0) (qv : Value) (hq7 : w.cell? ⟨n0, 7, none⟩ = some qv) :
    Calls Ybad.prog 4 #[ptr (B + 6), ptr n0, .int .i64 (at' : Nat), ptr (n0 + 3), ptr (n0 + 2)] w fun e w' =>
      e = .returned (.bool (handF tt qi mode (ents kh hs) (ents kq qs) at' s).1) ∧ GoS w' B n0 (8 + mode * 4) 7 tt (handF tt qi mode (ents kh hs) (ents kq qs) at' s).2.2 (handF tt qi mode (ents kh hs) (ents kq qs) at' s).2.1 ∧ Fr B n0 (w.setCell ⟨n0, 7, none⟩ (.int .u64 7)) w' := by
  have hl := hG.lay
  have c6 := hG.s6
  have f7 := hf.frozen 7
  have hm := hA.hm
  have q2 := hA.q2
  have m0 := hG.m0
  have m1 := hG.m1
  have m2 := hG.m2
  have m3 := hG.m3
  have hb : (0 : Int) ≤ (mode : Int) ∧ (mode : Int) < 6 := by omega
  have hb' : (mode : Int) < 6 := by omega
  unfold ptr
  go_enter Ybad.func4, Ybad.ntmps4
  go_wp2_with fail
  go_quiet (fail)
  have hA1 := hide ((hA.setQ hl (.int .u64 7)).kept ((Fr.refl B n0 _).drewN nq) hl)
  have hG1 := hide ((hG.setQ 7 (.int .u64 7)).drewN nq)
  have hF1 := hide ((Fr.refl B n0 (w.setCell ⟨n0, 7, none⟩ (.int .u64 7))).drewN nq)
  clear hA hG c6 f7 q2 m0 m1 m2 m3 hf hq7
  generalize (w.setCell ⟨n0, 7, none⟩ (.int .u64 7)).drewN nq = W at *
  have c6 := hG1.out.s6
  have m0 := hG1.out.m0
  go_wp2_with fail
  go_quiet (fail)
  have hA2 := hide (hA1.out.kept ((Fr.refl B n0 _).drewN nq) hl)
  have hG2 := hide (hG1.out.drewN nq)
  have hF2 := hide (hF1.out.drewN nq)
  clear hA1 hG1 hF1 c6 m0
  generalize W.drewN nq = W2 at *
  have c6 := hG2.out.s6
  have m0 := hG2.out.m0
  have m1 := hG2.out.m1
  have m2 := hG2.out.m2
  have m3 := hG2.out.m3
  have l9 := hA2.out.l9
  have g := (hG2.out.free (n0 + 3) (.inr (.inr rfl))).frozen
  rw [hsk] at m2
  rw [hsa] at m3
  unfold skipV at m2
  go_wp2_with fail
  have hA3 := hA2.out.kept (((((Fr.refl B n0 W2).set (b := n0 + 3) (o := 8 + mode * 4) (.inr (.inr rfl)) hl (.int .u64 7)).set (b := n0 + 3) (o := 8 + mode * 4 + 1) (.inr (.inr rfl)) hl (.int .i64 0)).set (b := n0 + 3) (o := 8 + mode * 4 + 2) (.inr (.inr rfl)) hl (.pointer none)).set (b := n0 + 3) (o := 8 + mode * 4 + 3) (.inr (.inr rfl)) hl (.int .i64 0)) hl
  have hF3 := ((((hF2.out).set (b := n0 + 3) (o := 8 + mode * 4) (.inr (.inr rfl)) hl (.int .u64 7)).set (b := n0 + 3) (o := 8 + mode * 4 + 1) (.inr (.inr rfl)) hl (.int .i64 0)).set (b := n0 + 3) (o := 8 + mode * 4 + 2) (.inr (.inr rfl)) hl (.pointer none)).set (b := n0 + 3) (o := 8 + mode * 4 + 3) (.inr (.inr rfl)) hl (.int .i64 0)
  have hG3 : GoS ((((W2.setCell ⟨n0 + 3, 8 + mode * 4, none⟩ (.int .u64 7)).setCell ⟨n0 + 3, 8 + mode * 4 + 1, none⟩ (.int .i64 0)).setCell ⟨n0 + 3, 8 + mode * 4 + 2, none⟩ (.pointer none)).setCell ⟨n0 + 3, 8 + mode * 4 + 3, none⟩ (.int .i64 0)) B n0 (8 + mode * 4) 7 tt s 0 := by
    have h := (((hG2.out.setSr 7).setUp 0).setSkip none).setSkAt 0
    have es : ({ { s with skip := none } with skAt := 0 } : St) = s := by cases s; simp at hsk hsa; simp [hsk, hsa]
    rw [es] at h
    exact h
  clear hA2 hG2 hF2 c6 m0 m1 m2 m3 l9 g
  go_loopg [55] kh (fun g s55 wr => ∃ (i : Nat) (t : St), i ≤ kh ∧ g = kh - i ∧ s55 = .int .i64 (i : Nat) ∧ Args wr B n0 qi mode kh kq ea qa ec qc eb xb hs qs rq ∧ GoS wr B n0 (8 + mode * 4) 7 tt t 0 ∧ Fr B n0 (w.setCell ⟨n0, 7, none⟩ (.int .u64 7)) wr ∧ Small t ∧ t.stk.length ≤ 4 + i ∧ Hid (holds tt qi mode ((ents kh hs).drop i) t = holds tt qi mode (ents kh hs) s))
  case atStart => exact ⟨0, s, Nat.zero_le _, rfl, rfl, hA3, hG3, hF3, hS, by omega, rfl⟩
  case round =>
    clear hA3 hF3 hG3
    obtain ⟨i, t, hi, rfl, rfl, hA, hG, hF, hSt, hlt, hR⟩ := hrel
    by_cases hik : i < kh
    · have aea := hA.aea (by omega)
      subst aea
      have e0 := hA.e0 i hik
      have e1 := hA.e1 i hik
      have e2 := hA.e2 i hik
      have e3 := hA.e3 i hik
      have q0 := hA.q0
      have q2 := hA.q2
      obtain ⟨hu4, hm6⟩ := hA.bhs i hik
      have tab := hA.tab _ _ hm6 hA.hm
      unfold ptr at e0 q0
      have ik : (i : Int) < (kh : Int) := by omega
      go_wp2_with fail
      have hsz := hG.size
      have hF4 := hide (hF.alloc (by omega) (.cells #[.pointer (some ⟨B + 2 + (hs i).1, 0, none⟩), .int .u8 ((hs i).2 : Nat), .int .u64 0, .int .i64 0] 64))
      have hA4 := hide (hA.kept ((Fr.refl B n0 wr).alloc (by omega) (.cells #[.pointer (some ⟨B + 2 + (hs i).1, 0, none⟩), .int .u8 ((hs i).2 : Nat), .int .u64 0, .int .i64 0] 64)) hl)
      have hG4 := hide (hG.alloc (.cells #[.pointer (some ⟨B + 2 + (hs i).1, 0, none⟩), .int .u8 ((hs i).2 : Nat), .int .u64 0, .int .i64 0] 64))
      have n0c : (wr.alloc (.cells #[.pointer (some ⟨B + 2 + (hs i).1, 0, none⟩), .int .u8 ((hs i).2 : Nat), .int .u64 0, .int .i64 0] 64)).cell? ⟨wr.heap.size, 0, none⟩ = some (.pointer (some ⟨B + 2 + (hs i).1, 0, none⟩)) := by simp
      have n1c : (wr.alloc (.cells #[.pointer (some ⟨B + 2 + (hs i).1, 0, none⟩), .int .u8 ((hs i).2 : Nat), .int .u64 0, .int .i64 0] 64)).cell? ⟨wr.heap.size, 1, none⟩ = some (.int .u8 ((hs i).2 : Nat)) := by simp
      have hnb : ∃ c, (wr.alloc (.cells #[.pointer (some ⟨B + 2 + (hs i).1, 0, none⟩), .int .u8 ((hs i).2 : Nat), .int .u64 0, .int .i64 0] 64)).heap[wr.heap.size]? = some (.cells c 64 (0, 0)) := ⟨_, heap_alloc_new wr _⟩
      have hnb2 : n0 + 4 ≤ wr.heap.size := hsz
      clear hA hG hF e0 e1 e2 e3 q0 q2 tab hsz
      generalize wr.alloc (.cells #[.pointer (some ⟨B + 2 + (hs i).1, 0, none⟩), .int .u8 ((hs i).2 : Nat), .int .u64 0, .int .i64 0] 64) = W4 at *
      generalize wr.heap.size = nb at *
      have q0 := hA4.out.q0
      have q2 := hA4.out.q2
      have tab := hA4.out.tab _ _ hm6 hm
      unfold ptr at q0
      have b1 : ((hs i).2 : Int) < 6 := by omega
      cases hc : cmp (hs i).2 mode <;> rw [hc] at tab
      · obtain ⟨cnb, hnb⟩ := hnb
        have HN := hide hnb
        clear hnb
        go_region_held3 (fun w' => w'.cell? ⟨nb, 0, none⟩ = some (.pointer (some ⟨B + 2 + (hs i).1, 0, none⟩)) ∧ w'.cell? ⟨nb, 1, none⟩ = some (.int .u8 ((hs i).2 : Nat)) ∧ w'.cell? ⟨n0, 0, none⟩ = some (.pointer (some ⟨B + 2 + qi, 0, none⟩)) ∧ w'.cell? ⟨n0, 2, none⟩ = some (.int .u8 (mode : Nat)) ∧ w'.cell? ⟨0, (hs i).2 * 6 + mode, none⟩ = some (.bool false)) (first | exact ⟨n0c, n1c, q0, q2, tab⟩ | exact ⟨ckeep (w := W4.drew) n0c (hF5.other nb _ 64 _ hnb2 HN.out (by decide)), ckeep (w := W4.drew) n1c (hF5.other nb _ 64 _ hnb2 HN.out (by decide)), hF5.cell (a := W4.drew) (by omega) (notMine (by omega) hl) q0, hF5.cell (a := W4.drew) (by omega) (notMine (by omega) hl) q2, hF5.cell (a := W4.drew) (by omega) (notMine (by omega) hl) tab⟩) (first | (go_at_call 8; refine (confl_any W4.drew B n0 (8 + mode * 4) 7 0 tt t (hs i).1 qi (-1) hu4 hA4.out.hq hG4.out.drew (by omega) hSt).mono ?_; rintro e w5 ⟨rfl, hG5, hF5⟩))
        have hR2 : holds tt qi mode ((hs i) :: (ents kh hs).drop (i + 1)) t = holds tt qi mode (ents kh hs) s := by rw [← ents_drop kh hs i hik]; exact hR.out
        have hA5 := hide (hA4.out.kept ((Fr.refl B n0 W4).drew.trans hF5) hl)
        have hF6 := hide (hF4.out.drew.trans hF5)
        have hS5 := confl_small (tt := tt) (a := -1) hSt hu4 hA4.out.hq
        have hl5 := confl_len tt qi (hs i).1 (-1) t
        have HG5 := hide hG5
        cases hcf : (confl tt qi (hs i).1 (-1) t).1
        · have hR3 := hide ((holds_on hc hcf).symm.trans hR2)
          clear hR2 hR hG5 hF5 hA4 hF4 hG4 n0c n1c q0 q2 tab HN hcf hc
          go_wp2
          go_roundg (kh - (i + 1))
          case measure => go_light; omega
          case rel =>
            go_light
            exact ⟨i + 1, _, by omega, rfl, by go_num, hA5.out, HG5.out, hF6.out, hS5, by omega, hR3⟩
        · have hR3 := hide ((holds_hit (es := (ents kh hs).drop (i + 1)) hc hcf).symm.trans hR2)
          clear hR2 hR hG5 hF5 hA4 hF4 hG4 n0c n1c q0 q2 tab HN hcf hc
          go_wp2
          go_ret
          rw [handF_hit (ql := ents kq qs) (at' := at') hR3.out.symm]
          exact ⟨rfl, HG5.out, hF6.out⟩
      · go_quiet (fail)
        go_wp2_with fail
        go_roundg (kh - (i + 1))
        case measure => go_light; omega
        case rel =>
          go_light
          refine ⟨i + 1, t, by omega, rfl, by go_num, hA4.out.kept ((Fr.refl B n0 _).drewN _) hl, hG4.out.drewN _, hF4.out.drewN _, hSt, by omega, ?_⟩
          have := hR.out
          rw [ents_drop kh hs i hik] at this
          exact hide ((holds_yes hc).symm.trans this)
    · have hR1 := hR.out
      rw [ents_end kh hs i (by omega)] at hR1
      have hR2 := hide (handF_on (ql := ents kq qs) (at' := at') hR1.symm)
      clear hR hR1
      go_wp2_with fail
      go_loopg [15] at' (fun g s15 wx => ∃ (k : Nat) (t' : St), g = at' - k ∧ Args wx B n0 qi mode kh kq ea qa ec qc eb xb hs qs rq ∧ GoS wx B n0 (8 + mode * 4) 7 tt t' k ∧ Fr B n0 (w.setCell ⟨n0, 7, none⟩ (.int .u64 7)) wx ∧ Small t' ∧ t'.stk.length ≤ 2000 + k ∧ k ≤ 2000 ∧ Hid (queue tt qi mode (((ents kq qs).take at').drop k) k t' = queue tt qi mode ((ents kq qs).take at') 0 t))
      case atStart => exact ⟨0, t, rfl, hA, hG, hF, hSt, by omega, by omega, rfl⟩
      case round =>
        clear hA hF hG hSt hlt
        obtain ⟨k, t', rfl, hA, hG, hF, hSt, hlt, hk2, hR⟩ := hrel
        have m1 := hG.m1
        by_cases hka : k < at'
        · have kk : (k : Int) < (at' : Int) := by omega
          have l16 := hA.l16
          rw [hA.aqa (by omega)] at l16
          have x := hA.x k (by omega)
          unfold ptr at x
          have kk2 : (k : Int) < (kq : Int) := by omega
          go_wp2_with fail
          go_quiet (fail)
          have hA2 := hide (hA.kept ((Fr.refl B n0 _).drewN nq) hl)
          have hG2 := hide (hG.drewN nq)
          have hF2 := hide (hF.drewN nq)
          clear hA hG hF l16 x m1
          generalize wr.drewN nq = W4 at *
          go_wp2_with fail
          obtain ⟨hu4, hm6⟩ := hA2.out.bqs k (by omega)
          obtain ⟨hr1, hr2⟩ := hA2.out.brb k (by omega)
          have x0 := hA2.out.x0 k (by omega)
          have x2 := hA2.out.x2 k (by omega)
          have q0 := hA2.out.q0
          have q2 := hA2.out.q2
          have tab := hA2.out.tab _ _ hm6 hm
          have m1 := hG2.out.m1
          unfold ptr at q0 x0
          have b1 : ((qs k).2 : Int) < 6 := by omega
          have hRk : queue tt qi mode ((qs k) :: ((ents kq qs).take at').drop (k + 1)) k t' = queue tt qi mode ((ents kq qs).take at') 0 t := by
            have h := hR.out
            rw [ents_take kq qs at' hat, ents_drop at' qs k hka] at h
            rw [ents_take kq qs at' hat]
            exact h
          have HRk := hide hRk
          clear hRk hR
          cases hc : cmp (qs k).2 mode <;> rw [hc] at tab
          · go_region_held3 (fun w' => w'.cell? ⟨rq k, 0, none⟩ = some (.pointer (some ⟨B + 2 + (qs k).1, 0, none⟩)) ∧ w'.cell? ⟨rq k, 2, none⟩ = some (.int .u8 ((qs k).2 : Nat)) ∧ w'.cell? ⟨n0, 0, none⟩ = some (.pointer (some ⟨B + 2 + qi, 0, none⟩)) ∧ w'.cell? ⟨n0, 2, none⟩ = some (.int .u8 (mode : Nat)) ∧ w'.cell? ⟨0, (qs k).2 * 6 + mode, none⟩ = some (.bool false) ∧ w'.cell? ⟨n0 + 3, 8 + mode * 4 + 1, none⟩ = some (.int .i64 (k : Nat))) (first | exact ⟨x0, x2, q0, q2, tab, m1⟩ | exact ⟨hF5.cell (a := W4.drew) (by omega) (notMine (by omega) hl) x0, hF5.cell (a := W4.drew) (by omega) (notMine (by omega) hl) x2, hF5.cell (a := W4.drew) (by omega) (notMine (by omega) hl) q0, hF5.cell (a := W4.drew) (by omega) (notMine (by omega) hl) q2, hF5.cell (a := W4.drew) (by omega) (notMine (by omega) hl) tab, hG5.m1⟩) (first | (go_at_call 8; refine (confl_any W4.drew B n0 (8 + mode * 4) 7 k tt t' (qs k).1 qi (k : Int) hu4 hA2.out.hq hG2.out.drew (by omega) hSt).mono ?_; rintro e w5 ⟨rfl, hG5, hF5⟩))
            have hA5 := hide (hA2.out.kept ((Fr.refl B n0 W4).drew.trans hF5) hl)
            have hF6 := hide (hF2.out.drew.trans hF5)
            have hS5 := confl_small (tt := tt) (a := (k : Int)) hSt hu4 hA2.out.hq
            have hl5 := confl_len tt qi (qs k).1 (k : Int) t'
            have HG5 := hide hG5
            cases hcf : (confl tt qi (qs k).1 (k : Int) t').1
            · have hR3 := hide ((queue_on hc hcf).symm.trans HRk.out)
              have g1 := hG5.m1
              have g2 := (hG5.free (n0 + 3) (.inr (.inr rfl))).frozen (8 + mode * 4 + 1)
              have HA6 := hide (hA5.out.kept ((Fr.refl B n0 w5).set (b := n0 + 3) (o := 8 + mode * 4 + 1) (.inr (.inr rfl)) hl (.int .i64 ((k + 1 : Nat) : Int))) hl)
              have HF7 := hide (hF6.out.set (b := n0 + 3) (o := 8 + mode * 4 + 1) (.inr (.inr rfl)) hl (.int .i64 ((k + 1 : Nat) : Int)))
              have HG6 := hide (hG5.setUp (k + 1))
              clear HRk hG5 hF5 hA2 hF2 hG2 x0 x2 q0 q2 tab m1 hcf hc
              go_wp2
              go_roundg (at' - (k + 1))
              case measure => go_light; omega
              case rel =>
                go_light
                exact ⟨k + 1, _, rfl, HA6.out, HG6.out, HF7.out, hS5, by omega, by omega, hR3⟩
            · have hR3 := hide ((queue_hit (es := ((ents kq qs).take at').drop (k + 1)) hc hcf).symm.trans HRk.out)
              clear HRk hG5 hF5 hA2 hF2 hG2 x0 x2 q0 q2 tab m1 hcf hc
              go_wp2
              go_ret
              rw [hR2.out, ← hR3.out]
              exact ⟨rfl, HG5.out, hF6.out⟩
          · go_quiet (fail)
            have hA5 := hide (hA2.out.kept ((Fr.refl B n0 W4).drewN nq) hl)
            have hF6 := hide (hF2.out.drewN nq)
            have hG5 := hG2.out.drewN nq
            have hR3 := hide ((queue_yes hc).symm.trans HRk.out)
            clear HRk hA2 hF2 hG2 x0 x2 q0 q2 tab m1 hc
            generalize W4.drewN nq = w5 at *
            have g1 := hG5.m1
            have g2 := (hG5.free (n0 + 3) (.inr (.inr rfl))).frozen (8 + mode * 4 + 1)
            have HA6 := hide (hA5.out.kept ((Fr.refl B n0 w5).set (b := n0 + 3) (o := 8 + mode * 4 + 1) (.inr (.inr rfl)) hl (.int .i64 ((k + 1 : Nat) : Int))) hl)
            have HF7 := hide (hF6.out.set (b := n0 + 3) (o := 8 + mode * 4 + 1) (.inr (.inr rfl)) hl (.int .i64 ((k + 1 : Nat) : Int)))
            have HG6 := hide (hG5.setUp (k + 1))
            clear hG5
            go_wp2_with fail
            go_roundg (at' - (k + 1))
            case measure => go_light; omega
            case rel =>
              go_light
              exact ⟨k + 1, _, rfl, HA6.out, HG6.out, HF7.out, hSt, by omega, by omega, hR3⟩
        · have kk : ¬ ((k : Int) < (at' : Int)) := by omega
          have hRe := hR.out
          rw [List.drop_eq_nil_of_le (by simp [ents]; omega)] at hRe
          have HE := hide (hR2.out.trans hRe.symm)
          clear hR hRe hR2
          go_wp2
          go_ret
          rw [HE.out]
          exact ⟨rfl, hG, hF⟩
end Go.Proofs.YbulkcahwDoor.Ho
