/-
  THE WALK of (*lockState).handOver, the walk for q's mode gone on with.
-/
import Derived.Test.YbulkcahwDoorHand
namespace Go.Proofs.YbulkcahwDoor.Ho
open Go.RowKit
set_option linter.unusedVariables false

theorem under25 : Ybad.prog.underlying 25 = some (.pointer (Ybad.prog.pointee 25)) := by simp [Program.pointee, Ybad.underlying25]

theorem run_skip_nil {w : World} {B : Nat} {x : Option Nat} : (binOp .neq 25 (skipV B x) (.pointer none)).run Ybad.prog w = .ok (.bool x.isSome) w := by
  cases x with
  | none => exact run_neq_pointer_nil w 25 none under25
  | some u => exact run_neq_pointer_nil w 25 (some ⟨B + 2 + u, 0, none⟩) under25

set_option maxHeartbeats 2000000 in
set_option maxRecDepth 100000 in
theorem hand_stay (w : World) (B n0 qi mode kh kq ec qc eb xb : Nat) (ea qa : Option Addr) (hs qs : Nat → Nat × Nat) (rq : Nat → Nat) (tt : Bool) (s : St) (at' up : Nat) (hat : at' ≤ kq) (hup : up ≤ kq) (hnh : kh ≤ 1024) (hnq : kq ≤ 1024) (hS : Small s) (hlen : s.stk.length ≤ 4) (hno : ∀ u, s.skip = some u → u ≠ qi → (at' : Int) ≤ s.skAt)
    (hA : Args w B n0 qi mode kh kq ea qa ec qc eb xb hs qs rq) (hG : GoS w B n0 (8 + mode * 4) 7 tt s up) (hf : Free w n0) (qv : Value) (hq7 : w.cell? ⟨n0, 7, none⟩ = some qv) :
    Calls Ybad.prog 4 #[ptr (B + 6), ptr n0, .int .i64 (at' : Nat), ptr (n0 + 3), ptr (n0 + 2)] w fun e w' =>
      e = .returned (.bool (handN tt qi mode (ents kq qs) at' up s).1) ∧ GoS w' B n0 (8 + mode * 4) 7 tt (handN tt qi mode (ents kq qs) at' up s).2.2 (handN tt qi mode (ents kq qs) at' up s).2.1 ∧ Fr B n0 (w.setCell ⟨n0, 7, none⟩ (.int .u64 7)) w' := by
  have HNO := hide hno
  clear hno
  have hl := hG.lay
  have c6 := hG.s6
  have f7 := hf.frozen 7
  have hm := hA.hm
  have q2 := hA.q2
  have hb : (0 : Int) ≤ (mode : Int) ∧ (mode : Int) < 6 := by omega
  have hb' : (mode : Int) < 6 := by omega
  unfold ptr
  go_enter Ybad.func4, Ybad.ntmps4
  go_wp2_with fail
  go_quiet (fail)
  have hA1 := hide ((hA.setQ hl (.int .u64 7)).kept ((Fr.refl B n0 _).drewN nq) hl)
  have hG1 := hide ((hG.setQ 7 (.int .u64 7)).drewN nq)
  have hF1 := hide ((Fr.refl B n0 (w.setCell ⟨n0, 7, none⟩ (.int .u64 7))).drewN nq)
  clear hA hG c6 f7 q2 hf hq7
  generalize (w.setCell ⟨n0, 7, none⟩ (.int .u64 7)).drewN nq = W at *
  have c6 := hG1.out.s6
  have m0 : W.cell? ⟨n0 + 3, 8 + mode * 4, none⟩ = some (.int .u64 7) := hG1.out.m0
  go_wp2_with fail
  go_quiet (fail)
  have hA2 := hide (hA1.out.kept ((Fr.refl B n0 _).drewN nq) hl)
  have hG2 := hide (hG1.out.drewN nq)
  have hF2 := hide (hF1.out.drewN nq)
  clear hA1 hG1 hF1 c6 m0
  generalize W.drewN nq = W2 at *
  have q0 := hA2.out.q0
  unfold ptr at q0
  have m2 := hG2.out.m2
  have m3 := hG2.out.m3
  have e1 : ∀ m, (binOp .neq 25 (skipV B s.skip) (.pointer none)).run Ybad.prog (W2.drewN m) = .ok (.bool s.skip.isSome) (W2.drewN m) := fun m => run_skip_nil
  have e2 : ∀ m, (binOp .neq 25 (skipV B s.skip) (.pointer (some ⟨B + 2 + qi, 0, none⟩))).run Ybad.prog (W2.drewN m) = .ok (.bool (!decide (s.skip = some qi))) (W2.drewN m) := fun m => run_skip_ne ((hG2.out.drewN m).txFree) hA2.out.hq hS.2
  obtain ⟨t, ht⟩ : ∃ t, t = s := ⟨_, rfl⟩
  have hR2 : Hid (handN tt qi mode (ents kq qs) at' up s = queue tt qi mode (((ents kq qs).take at').drop up) up t) := by rw [ht]; exact handN_stay HNO.out
  rw [← ht] at hS hlen
  have hG2' : Hid (GoS W2 B n0 (8 + mode * 4) 7 tt t up) := by rw [ht]; exact hG2
  have HT := hide ht
  clear ht
  rcases (show s.skip = none ∨ s.skip = some qi ∨ (∃ u, s.skip = some u ∧ u ≠ qi) by
    cases h : s.skip with
    | none => exact .inl rfl
    | some u =>
      by_cases e : u = qi
      · exact .inr (.inl (by rw [e]))
      · exact .inr (.inr ⟨u, rfl, e⟩)) with hk | hk | ⟨u, hk, hu⟩
  · simp only [hk, skipV, Option.isSome_none] at m2 e1
    clear hk e2 HNO hG2 m3
    go_wp2_with fail
    go_quiet (fail)
    have hA := hA2.out.kept ((Fr.refl B n0 _).drewN nq) hl
    have hG := hG2'.out.drewN nq
    have hF := hF2.out.drewN nq
    have hSt := hS
    clear hA2 hG2' hF2 m2 e1 q0
    generalize W2.drewN nq = W3 at *
    go_wp2_with fail
    go_loopg [15] (at' - up) (fun g s15 wx => ∃ (k : Nat) (t' : St), g = at' - k ∧ Args wx B n0 qi mode kh kq ea qa ec qc eb xb hs qs rq ∧ GoS wx B n0 (8 + mode * 4) 7 tt t' k ∧ Fr B n0 (w.setCell ⟨n0, 7, none⟩ (.int .u64 7)) wx ∧ Small t' ∧ t'.stk.length ≤ 2000 + k ∧ k ≤ 2000 ∧ Hid (queue tt qi mode (((ents kq qs).take at').drop k) k t' = queue tt qi mode (((ents kq qs).take at').drop up) up t))
    case atStart => exact ⟨up, t, rfl, hA, hG, hF, hSt, by omega, by omega, rfl⟩
    case round =>
      clear hA hF hG hSt hlen
      obtain ⟨k, t', rfl, hA, hG, hF, hSt, hlq, hk2, hR⟩ := hrel
      have m1 := hG.m1
      by_cases hka : k < at'
      · have kk : (k : Int) < (at' : Int) := by omega
        have l16 := hA.l16
        rw [hA.aqa (by omega)] at l16
        have x := hA.x k (by omega)
        unfold ptr at x
        have kk2 : (k : Int) < (kq : Int) := by omega
        go_wp2_with fail
        go_quiet (fail)
        have hA2 := hide (hA.kept ((Fr.refl B n0 _).drewN nq) hl)
        have hG2 := hide (hG.drewN nq)
        have hF2 := hide (hF.drewN nq)
        clear hA hG hF l16 x m1
        generalize wr.drewN nq = W4 at *
        go_wp2_with fail
        obtain ⟨hu4, hm6⟩ := hA2.out.bqs k (by omega)
        obtain ⟨hr1, hr2⟩ := hA2.out.brb k (by omega)
        have x0 := hA2.out.x0 k (by omega)
        have x2 := hA2.out.x2 k (by omega)
        have q0 := hA2.out.q0
        have q2 := hA2.out.q2
        have tab := hA2.out.tab _ _ hm6 hm
        have m1 := hG2.out.m1
        unfold ptr at q0 x0
        have b1 : ((qs k).2 : Int) < 6 := by omega
        have hRk : queue tt qi mode ((qs k) :: ((ents kq qs).take at').drop (k + 1)) k t' = queue tt qi mode (((ents kq qs).take at').drop up) up t := by
          have h := hR.out
          rw [ents_take kq qs at' hat, ents_drop at' qs k hka] at h
          rw [ents_take kq qs at' hat]
          exact h
        have HRk := hide hRk
        clear hRk hR
        cases hc : cmp (qs k).2 mode <;> rw [hc] at tab
        · go_region_held3 (fun w' => w'.cell? ⟨rq k, 0, none⟩ = some (.pointer (some ⟨B + 2 + (qs k).1, 0, none⟩)) ∧ w'.cell? ⟨rq k, 2, none⟩ = some (.int .u8 ((qs k).2 : Nat)) ∧ w'.cell? ⟨n0, 0, none⟩ = some (.pointer (some ⟨B + 2 + qi, 0, none⟩)) ∧ w'.cell? ⟨n0, 2, none⟩ = some (.int .u8 (mode : Nat)) ∧ w'.cell? ⟨0, (qs k).2 * 6 + mode, none⟩ = some (.bool false) ∧ w'.cell? ⟨n0 + 3, 8 + mode * 4 + 1, none⟩ = some (.int .i64 (k : Nat))) (first | exact ⟨x0, x2, q0, q2, tab, m1⟩ | exact ⟨hF5.cell (a := W4.drew) (by omega) (notMine (by omega) hl) x0, hF5.cell (a := W4.drew) (by omega) (notMine (by omega) hl) x2, hF5.cell (a := W4.drew) (by omega) (notMine (by omega) hl) q0, hF5.cell (a := W4.drew) (by omega) (notMine (by omega) hl) q2, hF5.cell (a := W4.drew) (by omega) (notMine (by omega) hl) tab, hG5.m1⟩) (first | (go_at_call 8; refine (confl_any W4.drew B n0 (8 + mode * 4) 7 k tt t' (qs k).1 qi (k : Int) hu4 hA2.out.hq hG2.out.drew (by omega) hSt).mono ?_; rintro e w5 ⟨rfl, hG5, hF5⟩))
          have hA5 := hide (hA2.out.kept ((Fr.refl B n0 W4).drew.trans hF5) hl)
          have hF6 := hide (hF2.out.drew.trans hF5)
          have hS5 := confl_small (tt := tt) (a := (k : Int)) hSt hu4 hA2.out.hq
          have hl5 := confl_len tt qi (qs k).1 (k : Int) t'
          have HG5 := hide hG5
          cases hcf : (confl tt qi (qs k).1 (k : Int) t').1
          · have hR3 := hide ((queue_on hc hcf).symm.trans HRk.out)
            have g1 := hG5.m1
            have g2 := (hG5.free (n0 + 3) (.inr (.inr rfl))).frozen (8 + mode * 4 + 1)
            have HA6 := hide (hA5.out.kept ((Fr.refl B n0 w5).set (b := n0 + 3) (o := 8 + mode * 4 + 1) (.inr (.inr rfl)) hl (.int .i64 ((k + 1 : Nat) : Int))) hl)
            have HF7 := hide (hF6.out.set (b := n0 + 3) (o := 8 + mode * 4 + 1) (.inr (.inr rfl)) hl (.int .i64 ((k + 1 : Nat) : Int)))
            have HG6 := hide (hG5.setUp (k + 1))
            clear HRk hG5 hF5 hA2 hF2 hG2 x0 x2 q0 q2 tab m1 hcf hc
            go_wp2
            go_roundg (at' - (k + 1))
            case measure => go_light; omega
            case rel =>
              go_light
              exact ⟨k + 1, _, rfl, HA6.out, HG6.out, HF7.out, hS5, by omega, by omega, hR3⟩
          · have hR3 := hide ((queue_hit (es := ((ents kq qs).take at').drop (k + 1)) hc hcf).symm.trans HRk.out)
            clear HRk hG5 hF5 hA2 hF2 hG2 x0 x2 q0 q2 tab m1 hcf hc
            go_wp2
            go_ret
            rw [hR2.out, ← hR3.out]
            exact ⟨rfl, HG5.out, hF6.out⟩
        · go_quiet (fail)
          have hA5 := hide (hA2.out.kept ((Fr.refl B n0 W4).drewN nq) hl)
          have hF6 := hide (hF2.out.drewN nq)
          have hG5 := hG2.out.drewN nq
          have hR3 := hide ((queue_yes hc).symm.trans HRk.out)
          clear HRk hA2 hF2 hG2 x0 x2 q0 q2 tab m1 hc
          generalize W4.drewN nq = w5 at *
          have g1 := hG5.m1
          have g2 := (hG5.free (n0 + 3) (.inr (.inr rfl))).frozen (8 + mode * 4 + 1)
          have HA6 := hide (hA5.out.kept ((Fr.refl B n0 w5).set (b := n0 + 3) (o := 8 + mode * 4 + 1) (.inr (.inr rfl)) hl (.int .i64 ((k + 1 : Nat) : Int))) hl)
          have HF7 := hide (hF6.out.set (b := n0 + 3) (o := 8 + mode * 4 + 1) (.inr (.inr rfl)) hl (.int .i64 ((k + 1 : Nat) : Int)))
          have HG6 := hide (hG5.setUp (k + 1))
          clear hG5
          go_wp2_with fail
          go_roundg (at' - (k + 1))
          case measure => go_light; omega
          case rel =>
            go_light
            exact ⟨k + 1, _, rfl, HA6.out, HG6.out, HF7.out, hSt, by omega, by omega, hR3⟩
      · have kk : ¬ ((k : Int) < (at' : Int)) := by omega
        have hRe := hR.out
        rw [List.drop_eq_nil_of_le (by simp [ents]; omega)] at hRe
        have HE := hide (hR2.out.trans hRe.symm)
        clear hR hRe hR2
        go_wp2
        go_ret
        rw [HE.out]
        exact ⟨rfl, hG, hF⟩
  · simp only [hk, skipV, ptr, Option.isSome_some, decide_true, Bool.not_true] at m2 e1 e2
    clear hk HNO hG2 m3
    go_wp2_with fail
    go_quiet (fail)
    have hA := hA2.out.kept ((Fr.refl B n0 _).drewN nq) hl
    have hG := hG2'.out.drewN nq
    have hF := hF2.out.drewN nq
    have hSt := hS
    clear hA2 hG2' hF2 m2 e1 e2 q0
    generalize W2.drewN nq = W3 at *
    go_wp2_with fail
    go_loopg [15] (at' - up) (fun g s15 wx => ∃ (k : Nat) (t' : St), g = at' - k ∧ Args wx B n0 qi mode kh kq ea qa ec qc eb xb hs qs rq ∧ GoS wx B n0 (8 + mode * 4) 7 tt t' k ∧ Fr B n0 (w.setCell ⟨n0, 7, none⟩ (.int .u64 7)) wx ∧ Small t' ∧ t'.stk.length ≤ 2000 + k ∧ k ≤ 2000 ∧ Hid (queue tt qi mode (((ents kq qs).take at').drop k) k t' = queue tt qi mode (((ents kq qs).take at').drop up) up t))
    case atStart => exact ⟨up, t, rfl, hA, hG, hF, hSt, by omega, by omega, rfl⟩
    case round =>
      clear hA hF hG hSt hlen
      obtain ⟨k, t', rfl, hA, hG, hF, hSt, hlq, hk2, hR⟩ := hrel
      have m1 := hG.m1
      by_cases hka : k < at'
      · have kk : (k : Int) < (at' : Int) := by omega
        have l16 := hA.l16
        rw [hA.aqa (by omega)] at l16
        have x := hA.x k (by omega)
        unfold ptr at x
        have kk2 : (k : Int) < (kq : Int) := by omega
        go_wp2_with fail
        go_quiet (fail)
        have hA2 := hide (hA.kept ((Fr.refl B n0 _).drewN nq) hl)
        have hG2 := hide (hG.drewN nq)
        have hF2 := hide (hF.drewN nq)
        clear hA hG hF l16 x m1
        generalize wr.drewN nq = W4 at *
        go_wp2_with fail
        obtain ⟨hu4, hm6⟩ := hA2.out.bqs k (by omega)
        obtain ⟨hr1, hr2⟩ := hA2.out.brb k (by omega)
        have x0 := hA2.out.x0 k (by omega)
        have x2 := hA2.out.x2 k (by omega)
        have q0 := hA2.out.q0
        have q2 := hA2.out.q2
        have tab := hA2.out.tab _ _ hm6 hm
        have m1 := hG2.out.m1
        unfold ptr at q0 x0
        have b1 : ((qs k).2 : Int) < 6 := by omega
        have hRk : queue tt qi mode ((qs k) :: ((ents kq qs).take at').drop (k + 1)) k t' = queue tt qi mode (((ents kq qs).take at').drop up) up t := by
          have h := hR.out
          rw [ents_take kq qs at' hat, ents_drop at' qs k hka] at h
          rw [ents_take kq qs at' hat]
          exact h
        have HRk := hide hRk
        clear hRk hR
        cases hc : cmp (qs k).2 mode <;> rw [hc] at tab
        · go_region_held3 (fun w' => w'.cell? ⟨rq k, 0, none⟩ = some (.pointer (some ⟨B + 2 + (qs k).1, 0, none⟩)) ∧ w'.cell? ⟨rq k, 2, none⟩ = some (.int .u8 ((qs k).2 : Nat)) ∧ w'.cell? ⟨n0, 0, none⟩ = some (.pointer (some ⟨B + 2 + qi, 0, none⟩)) ∧ w'.cell? ⟨n0, 2, none⟩ = some (.int .u8 (mode : Nat)) ∧ w'.cell? ⟨0, (qs k).2 * 6 + mode, none⟩ = some (.bool false) ∧ w'.cell? ⟨n0 + 3, 8 + mode * 4 + 1, none⟩ = some (.int .i64 (k : Nat))) (first | exact ⟨x0, x2, q0, q2, tab, m1⟩ | exact ⟨hF5.cell (a := W4.drew) (by omega) (notMine (by omega) hl) x0, hF5.cell (a := W4.drew) (by omega) (notMine (by omega) hl) x2, hF5.cell (a := W4.drew) (by omega) (notMine (by omega) hl) q0, hF5.cell (a := W4.drew) (by omega) (notMine (by omega) hl) q2, hF5.cell (a := W4.drew) (by omega) (notMine (by omega) hl) tab, hG5.m1⟩) (first | (go_at_call 8; refine (confl_any W4.drew B n0 (8 + mode * 4) 7 k tt t' (qs k).1 qi (k : Int) hu4 hA2.out.hq hG2.out.drew (by omega) hSt).mono ?_; rintro e w5 ⟨rfl, hG5, hF5⟩))
          have hA5 := hide (hA2.out.kept ((Fr.refl B n0 W4).drew.trans hF5) hl)
          have hF6 := hide (hF2.out.drew.trans hF5)
          have hS5 := confl_small (tt := tt) (a := (k : Int)) hSt hu4 hA2.out.hq
          have hl5 := confl_len tt qi (qs k).1 (k : Int) t'
          have HG5 := hide hG5
          cases hcf : (confl tt qi (qs k).1 (k : Int) t').1
          · have hR3 := hide ((queue_on hc hcf).symm.trans HRk.out)
            have g1 := hG5.m1
            have g2 := (hG5.free (n0 + 3) (.inr (.inr rfl))).frozen (8 + mode * 4 + 1)
            have HA6 := hide (hA5.out.kept ((Fr.refl B n0 w5).set (b := n0 + 3) (o := 8 + mode * 4 + 1) (.inr (.inr rfl)) hl (.int .i64 ((k + 1 : Nat) : Int))) hl)
            have HF7 := hide (hF6.out.set (b := n0 + 3) (o := 8 + mode * 4 + 1) (.inr (.inr rfl)) hl (.int .i64 ((k + 1 : Nat) : Int)))
            have HG6 := hide (hG5.setUp (k + 1))
            clear HRk hG5 hF5 hA2 hF2 hG2 x0 x2 q0 q2 tab m1 hcf hc
            go_wp2
            go_roundg (at' - (k + 1))
            case measure => go_light; omega
            case rel =>
              go_light
              exact ⟨k + 1, _, rfl, HA6.out, HG6.out, HF7.out, hS5, by omega, by omega, hR3⟩
          · have hR3 := hide ((queue_hit (es := ((ents kq qs).take at').drop (k + 1)) hc hcf).symm.trans HRk.out)
            clear HRk hG5 hF5 hA2 hF2 hG2 x0 x2 q0 q2 tab m1 hcf hc
            go_wp2
            go_ret
            rw [hR2.out, ← hR3.out]
            exact ⟨rfl, HG5.out, hF6.out⟩
        · go_quiet (fail)
          have hA5 := hide (hA2.out.kept ((Fr.refl B n0 W4).drewN nq) hl)
          have hF6 := hide (hF2.out.drewN nq)
          have hG5 := hG2.out.drewN nq
          have hR3 := hide ((queue_yes hc).symm.trans HRk.out)
          clear HRk hA2 hF2 hG2 x0 x2 q0 q2 tab m1 hc
          generalize W4.drewN nq = w5 at *
          have g1 := hG5.m1
          have g2 := (hG5.free (n0 + 3) (.inr (.inr rfl))).frozen (8 + mode * 4 + 1)
          have HA6 := hide (hA5.out.kept ((Fr.refl B n0 w5).set (b := n0 + 3) (o := 8 + mode * 4 + 1) (.inr (.inr rfl)) hl (.int .i64 ((k + 1 : Nat) : Int))) hl)
          have HF7 := hide (hF6.out.set (b := n0 + 3) (o := 8 + mode * 4 + 1) (.inr (.inr rfl)) hl (.int .i64 ((k + 1 : Nat) : Int)))
          have HG6 := hide (hG5.setUp (k + 1))
          clear hG5
          go_wp2_with fail
          go_roundg (at' - (k + 1))
          case measure => go_light; omega
          case rel =>
            go_light
            exact ⟨k + 1, _, rfl, HA6.out, HG6.out, HF7.out, hSt, by omega, by omega, hR3⟩
      · have kk : ¬ ((k : Int) < (at' : Int)) := by omega
        have hRe := hR.out
        rw [List.drop_eq_nil_of_le (by simp [ents]; omega)] at hRe
        have HE := hide (hR2.out.trans hRe.symm)
        clear hR hRe hR2
        go_wp2
        go_ret
        rw [HE.out]
        exact ⟨rfl, hG, hF⟩
  · have hd : decide (some u = some qi) = false := decide_eq_false (by simpa using hu)
    simp only [hk, skipV, ptr, Option.isSome_some, hd, Bool.not_false] at m2 e1 e2
    have hsk : decide (s.skAt < (at' : Int)) = false := decide_eq_false (by have := HNO.out u hk hu; omega)
    clear hk HNO hG2 hu hd
    go_wp2_with fail
    go_quiet (fail)
    have hA := hA2.out.kept ((Fr.refl B n0 _).drewN nq) hl
    have hG := hG2'.out.drewN nq
    have hF := hF2.out.drewN nq
    have hSt := hS
    clear hA2 hG2' hF2 m2 e1 e2 q0 m3 hsk
    generalize W2.drewN nq = W3 at *
    go_wp2_with fail
    go_loopg [15] (at' - up) (fun g s15 wx => ∃ (k : Nat) (t' : St), g = at' - k ∧ Args wx B n0 qi mode kh kq ea qa ec qc eb xb hs qs rq ∧ GoS wx B n0 (8 + mode * 4) 7 tt t' k ∧ Fr B n0 (w.setCell ⟨n0, 7, none⟩ (.int .u64 7)) wx ∧ Small t' ∧ t'.stk.length ≤ 2000 + k ∧ k ≤ 2000 ∧ Hid (queue tt qi mode (((ents kq qs).take at').drop k) k t' = queue tt qi mode (((ents kq qs).take at').drop up) up t))
    case atStart => exact ⟨up, t, rfl, hA, hG, hF, hSt, by omega, by omega, rfl⟩
    case round =>
      clear hA hF hG hSt hlen
      obtain ⟨k, t', rfl, hA, hG, hF, hSt, hlq, hk2, hR⟩ := hrel
      have m1 := hG.m1
      by_cases hka : k < at'
      · have kk : (k : Int) < (at' : Int) := by omega
        have l16 := hA.l16
        rw [hA.aqa (by omega)] at l16
        have x := hA.x k (by omega)
        unfold ptr at x
        have kk2 : (k : Int) < (kq : Int) := by omega
        go_wp2_with fail
        go_quiet (fail)
        have hA2 := hide (hA.kept ((Fr.refl B n0 _).drewN nq) hl)
        have hG2 := hide (hG.drewN nq)
        have hF2 := hide (hF.drewN nq)
        clear hA hG hF l16 x m1
        generalize wr.drewN nq = W4 at *
        go_wp2_with fail
        obtain ⟨hu4, hm6⟩ := hA2.out.bqs k (by omega)
        obtain ⟨hr1, hr2⟩ := hA2.out.brb k (by omega)
        have x0 := hA2.out.x0 k (by omega)
        have x2 := hA2.out.x2 k (by omega)
        have q0 := hA2.out.q0
        have q2 := hA2.out.q2
        have tab := hA2.out.tab _ _ hm6 hm
        have m1 := hG2.out.m1
        unfold ptr at q0 x0
        have b1 : ((qs k).2 : Int) < 6 := by omega
        have hRk : queue tt qi mode ((qs k) :: ((ents kq qs).take at').drop (k + 1)) k t' = queue tt qi mode (((ents kq qs).take at').drop up) up t := by
          have h := hR.out
          rw [ents_take kq qs at' hat, ents_drop at' qs k hka] at h
          rw [ents_take kq qs at' hat]
          exact h
        have HRk := hide hRk
        clear hRk hR
        cases hc : cmp (qs k).2 mode <;> rw [hc] at tab
        · go_region_held3 (fun w' => w'.cell? ⟨rq k, 0, none⟩ = some (.pointer (some ⟨B + 2 + (qs k).1, 0, none⟩)) ∧ w'.cell? ⟨rq k, 2, none⟩ = some (.int .u8 ((qs k).2 : Nat)) ∧ w'.cell? ⟨n0, 0, none⟩ = some (.pointer (some ⟨B + 2 + qi, 0, none⟩)) ∧ w'.cell? ⟨n0, 2, none⟩ = some (.int .u8 (mode : Nat)) ∧ w'.cell? ⟨0, (qs k).2 * 6 + mode, none⟩ = some (.bool false) ∧ w'.cell? ⟨n0 + 3, 8 + mode * 4 + 1, none⟩ = some (.int .i64 (k : Nat))) (first | exact ⟨x0, x2, q0, q2, tab, m1⟩ | exact ⟨hF5.cell (a := W4.drew) (by omega) (notMine (by omega) hl) x0, hF5.cell (a := W4.drew) (by omega) (notMine (by omega) hl) x2, hF5.cell (a := W4.drew) (by omega) (notMine (by omega) hl) q0, hF5.cell (a := W4.drew) (by omega) (notMine (by omega) hl) q2, hF5.cell (a := W4.drew) (by omega) (notMine (by omega) hl) tab, hG5.m1⟩) (first | (go_at_call 8; refine (confl_any W4.drew B n0 (8 + mode * 4) 7 k tt t' (qs k).1 qi (k : Int) hu4 hA2.out.hq hG2.out.drew (by omega) hSt).mono ?_; rintro e w5 ⟨rfl, hG5, hF5⟩))
          have hA5 := hide (hA2.out.kept ((Fr.refl B n0 W4).drew.trans hF5) hl)
          have hF6 := hide (hF2.out.drew.trans hF5)
          have hS5 := confl_small (tt := tt) (a := (k : Int)) hSt hu4 hA2.out.hq
          have hl5 := confl_len tt qi (qs k).1 (k : Int) t'
          have HG5 := hide hG5
          cases hcf : (confl tt qi (qs k).1 (k : Int) t').1
          · have hR3 := hide ((queue_on hc hcf).symm.trans HRk.out)
            have g1 := hG5.m1
            have g2 := (hG5.free (n0 + 3) (.inr (.inr rfl))).frozen (8 + mode * 4 + 1)
            have HA6 := hide (hA5.out.kept ((Fr.refl B n0 w5).set (b := n0 + 3) (o := 8 + mode * 4 + 1) (.inr (.inr rfl)) hl (.int .i64 ((k + 1 : Nat) : Int))) hl)
            have HF7 := hide (hF6.out.set (b := n0 + 3) (o := 8 + mode * 4 + 1) (.inr (.inr rfl)) hl (.int .i64 ((k + 1 : Nat) : Int)))
            have HG6 := hide (hG5.setUp (k + 1))
            clear HRk hG5 hF5 hA2 hF2 hG2 x0 x2 q0 q2 tab m1 hcf hc
            go_wp2
            go_roundg (at' - (k + 1))
            case measure => go_light; omega
            case rel =>
              go_light
              exact ⟨k + 1, _, rfl, HA6.out, HG6.out, HF7.out, hS5, by omega, by omega, hR3⟩
          · have hR3 := hide ((queue_hit (es := ((ents kq qs).take at').drop (k + 1)) hc hcf).symm.trans HRk.out)
            clear HRk hG5 hF5 hA2 hF2 hG2 x0 x2 q0 q2 tab m1 hcf hc
            go_wp2
            go_ret
            rw [hR2.out, ← hR3.out]
            exact ⟨rfl, HG5.out, hF6.out⟩
        · go_quiet (fail)
          have hA5 := hide (hA2.out.kept ((Fr.refl B n0 W4).drewN nq) hl)
          have hF6 := hide (hF2.out.drewN nq)
          have hG5 := hG2.out.drewN nq
          have hR3 := hide ((queue_yes hc).symm.trans HRk.out)
          clear HRk hA2 hF2 hG2 x0 x2 q0 q2 tab m1 hc
          generalize W4.drewN nq = w5 at *
          have g1 := hG5.m1
          have g2 := (hG5.free (n0 + 3) (.inr (.inr rfl))).frozen (8 + mode * 4 + 1)
          have HA6 := hide (hA5.out.kept ((Fr.refl B n0 w5).set (b := n0 + 3) (o := 8 + mode * 4 + 1) (.inr (.inr rfl)) hl (.int .i64 ((k + 1 : Nat) : Int))) hl)
          have HF7 := hide (hF6.out.set (b := n0 + 3) (o := 8 + mode * 4 + 1) (.inr (.inr rfl)) hl (.int .i64 ((k + 1 : Nat) : Int)))
          have HG6 := hide (hG5.setUp (k + 1))
          clear hG5
          go_wp2_with fail
          go_roundg (at' - (k + 1))
          case measure => go_light; omega
          case rel =>
            go_light
            exact ⟨k + 1, _, rfl, HA6.out, HG6.out, HF7.out, hSt, by omega, by omega, hR3⟩
      · have kk : ¬ ((k : Int) < (at' : Int)) := by omega
        have hRe := hR.out
        rw [List.drop_eq_nil_of_le (by simp [ents]; omega)] at hRe
        have HE := hide (hR2.out.trans hRe.symm)
        clear hR hRe hR2
        go_wp2
        go_ret
        rw [HE.out]
        exact ⟨rfl, hG, hF⟩


end Go.Proofs.YbulkcahwDoor.Ho
