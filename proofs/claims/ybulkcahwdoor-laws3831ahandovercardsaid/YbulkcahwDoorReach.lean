/-
  THE WALKS of zzs3831acompat, (*cycleSearch).reach, (*modeWalk).conflicts.
-/
import Derived.Test.YbulkcahwDoorWorld
import Derived.LaidEqlPtr
namespace Go.Proofs.YbulkcahwDoor.Ho
open Go.RowKit
set_option linter.unusedVariables false

theorem info25 : (Ybad.prog.info? 25).map (fun i => (i.zero, i.size, i.bytes)) = some (some (.pointer none), 1, 8) := by kernel_rfl

set_option maxHeartbeats 1000000 in
theorem compat_any (w : World) (h a : Nat) (hh : h < 6) (ha : a < 6) : Calls Ybad.prog 5 #[.int .i64 (h : Nat), .int .i64 (a : Nat)] w fun e w' => e = .returned (.bool (cmp h a)) ∧ w' = w := by
  rcases (show h = 0 ∨ h = 1 ∨ h = 2 ∨ h = 3 ∨ h = 4 ∨ h = 5 by omega) with rfl | rfl | rfl | rfl | rfl | rfl <;>
    rcases (show a = 0 ∨ a = 1 ∨ a = 2 ∨ a = 3 ∨ a = 4 ∨ a = 5 by omega) with rfl | rfl | rfl | rfl | rfl | rfl <;>
    (go_enter Ybad.func5, Ybad.ntmps5
     go_wp2
     go_ret
     exact ⟨rfl, rfl⟩)

theorem info47 : (Ybad.prog.info? 47).map (fun i => i.size) = some 12 := by kernel_rfl

theorem run_ptr_eq {w : World} {a b : Nat} (ha : Free w a) (hb : Free w b) : (binOp .eql 25 (.pointer (some ⟨a, 0, none⟩)) (.pointer (some ⟨b, 0, none⟩))).run Ybad.prog w = .ok (.bool (decide (a = b))) w := by
  obtain ⟨j, hj, hs⟩ := Option.map_eq_some_iff.1 info47
  by_cases e : a = b
  · subst e
    simp [run_eql_ptr_same w ⟨a, 0, none⟩ Ybad.underlying25 hj]
  · obtain ⟨ca, ta, h1⟩ := ha
    obtain ⟨cb, tb, h2⟩ := hb
    simpa [e] using run_eql_ptr_other w Ybad.underlying25 hj (by omega) (a := ⟨a, 0, none⟩) (b := ⟨b, 0, none⟩) (by simp) h1 h2

theorem run_ptr_ne {w : World} {a b : Nat} (ha : Free w a) (hb : Free w b) : (binOp .neq 25 (.pointer (some ⟨a, 0, none⟩)) (.pointer (some ⟨b, 0, none⟩))).run Ybad.prog w = .ok (.bool (!decide (a = b))) w := by
  have h := run_ptr_eq ha hb
  simp only [binOp] at h ⊢
  simp only [Sem.run_bind] at h ⊢
  cases hr : (Op.equal 25 (.pointer (some ⟨a, 0, none⟩)) (.pointer (some ⟨b, 0, none⟩))).run Ybad.prog w with
  | ok x w' => rw [hr] at h; simp at h ⊢; simp [h]
  | halt x w' => rw [hr] at h; simp at h

set_option maxHeartbeats 400000 in
set_option maxRecDepth 100000 in
theorem reach_any (w : World) (B n0 mo sr up : Nat) (tt : Bool) (s : St) (u : Nat) (hu : u < 4) (hG : GoS w B n0 mo sr tt s up) (hlen : s.stk.length ≤ 100000) :
    Calls Ybad.prog 9 #[.pointer (some ⟨n0 + 2, 0, none⟩), .pointer (some ⟨B + 2 + u, 0, none⟩)] w fun e w' => e = .returned (.bool (reach tt u s).1) ∧ GoS w' B n0 mo sr tt (reach tt u s).2 up ∧ Fr B n0 w w' := by
  have c0 := hG.s0
  have c2 := hG.s2
  have c4 := hG.s4
  have c5 := hG.s5
  have c6 := hG.s6
  have c7 := hG.r0
  have c8 := hG.tx u hu
  have f1 := (hG.free (n0 + 2) (.inr (.inl rfl))).frozen 5
  have f2 := (hG.free (n0 + 2) (.inr (.inl rfl))).frozen 7
  have f3 := (hG.free (B + 2 + u) (.inl (by omega))).frozen 11
  have e1 := run_ptr_eq (hG.free (B + 2 + u) (.inl (by omega))) (hG.free (B + 2) (.inl (by omega)))
  unfold ptr at c0 c7
  unfold tval at c8
  by_cases h0 : u = 0
  · subst h0
    simp only [Nat.add_zero, decide_true] at e1 c8 f3 ⊢
    go_enter Ybad.func9, Ybad.ntmps9
    go_wp2
    go_ret
    exact ⟨rfl, hG.setBack tt, (Fr.refl _ _ _).set (.inr (.inl rfl)) hG.lay _⟩
  · rw [decide_eq_false (by omega)] at e1
    by_cases hs : s.seen u = true
    · rw [if_pos hs] at c8
      go_enter Ybad.func9, Ybad.ntmps9
      go_wp2_with fail
      go_quiet (fail)
      go_wp2
      go_ret
      have er : reach tt u s = (false, s) := by simp [reach, h0, hs]
      rw [er]
      exact ⟨rfl, hG.drewN _, (Fr.refl _ _ _).drewN _⟩
    · rw [if_neg hs] at c8
      have er : reach tt u s = (false, markS s u) := by simp [reach, h0, hs]
      rw [er]
      obtain ⟨v, c9, hown⟩ := hG.s7
      obtain ⟨i0, hi, hz0, hz1, hz2⟩ := info_parts info25
      go_enter Ybad.func9, Ybad.ntmps9
      go_wp2_with fail
      go_quiet (fail)
      have hlay := hG.lay
      have hsz := hG.size
      have hv : ∀ k, v.ownBlock = some k → n0 + 4 ≤ k := fun k hk => (hown.lt k hk).1
      have hG2 := hide ((hG.drewN nq).setSeen hu)
      have hown2 := hide (own_set (w := w.drewN nq) (b := B + 2 + u) (o := 11) (show (w.drewN nq).ownsRow (n0 + 4) 25 1 v s.stk.length (s.stk.map fun u => ptr (B + 2 + u)) from hown) (by omega) (.int .u64 7))
      clear hown hG er
      go_wp2_with (at_builtin; refine wpList_append_own _ rfl _ _ 87 rfl (n0 + 4) 25 i0 (.pointer none) 1 8 Ybad.underlying87 hi hz0 hz1 hz2 rfl (by decide) _ _ _ rfl (hown2.out.alloc _) ⟨w.heap.size, 0, none⟩ 1 1 [.pointer (some ⟨B + 2 + u, 0, none⟩)] rfl rfl ?c1 ?c2 ?c3 ?c4 ?c5 ?_)
      case c1 => exact one_new (by simp) _ _
      case c2 => intro u hu; simp at hu; subst hu; rfl
      case c3 => unfold maxLen; omega
      case c4 => omega
      case c5 => simp; omega
      intro v' w1 hown' hgrow _
      have hG3 := hG2.out.alloc (.cells #[.pointer (some ⟨B + 2 + u, 0, none⟩)] 25)
      have d9 : (((w.drewN nq).setCell ⟨B + 2 + u, 11, none⟩ (.int .u64 7)).alloc (.cells #[.pointer (some ⟨B + 2 + u, 0, none⟩)] 25)).cell? ⟨n0 + 2, 7, none⟩ = some v := calloc (cset (w := w.drewN nq) c9 (by omega)) _
      have hG4 := hide (hG3.push d9 hv hown' hgrow)
      have hF := hide ((((((Fr.refl B n0 w).drewN nq).set (b := B + 2 + u) (o := 11) (.inl (by omega)) hlay (.int .u64 7)).alloc (by simp; omega) (.cells #[.pointer (some ⟨B + 2 + u, 0, none⟩)] 25)).grown hgrow (by simp; omega) (own_row (hown2.out.alloc _))).set (b := n0 + 2) (o := 7) (.inr (.inl rfl)) hlay v')
      have keep : w1.heap[n0 + 2]? = (((w.drewN nq).setCell ⟨B + 2 + u, 11, none⟩ (.int .u64 7)).alloc (.cells #[.pointer (some ⟨B + 2 + u, 0, none⟩)] 25)).heap[n0 + 2]? := hgrow.block _ (by simp; omega) (fun e => by have := hv _ e.symm; omega)
      have g1 := ckeep d9 keep
      have g2 := ((hG3.free (n0 + 2) (.inr (.inl rfl))).of_block keep).frozen 7
      have hex : ∃ a n c, v' = .slice a n c := by
        rcases hown'.2 with ⟨h, _⟩ | ⟨g, cap, cur, h, _⟩ <;> exact ⟨_, _, _, h⟩
      obtain ⟨va, vn, vc, rfl⟩ := hex
      clear hown' hgrow hG3 d9 keep hG2 hown2
      go_wp2
      go_ret
      exact ⟨rfl, hG4.out, hF.out⟩

theorem run_nil_ne {w : World} {a : Nat} : (binOp .neq 25 (.pointer none) (.pointer (some ⟨a, 0, none⟩))).run Ybad.prog w = .ok (.bool true) w := by
  have h : ∀ d : Nat, (Op.equalIn (d + 1) 25 (.pointer none) (.pointer (some ⟨a, 0, none⟩))).run Ybad.prog w = .ok false w := fun d => by
    simp [Op.equalIn, run_underlying Ybad.underlying25]
  simp only [binOp]
  simp [Op.equal, Op.maxDepth, h 9999]

theorem run_skip_ne {w : World} {B qi : Nat} {x : Option Nat} (hf : ∀ i, i < 4 → Free w (B + 2 + i)) (hq : qi < 4) (hx : ∀ u, x = some u → u < 4) :
    (binOp .neq 25 (skipV B x) (.pointer (some ⟨B + 2 + qi, 0, none⟩))).run Ybad.prog w = .ok (.bool (!decide (x = some qi))) w := by
  cases x with
  | none => simpa [skipV] using run_nil_ne
  | some u =>
    have := run_ptr_ne (hf u (hx u rfl)) (hf qi hq)
    simp only [skipV, ptr]
    rw [this]
    by_cases e : u = qi
    · subst e; simp
    · simp [e]

theorem GoS.txFree {w : World} {B n0 mo sr up : Nat} {tt : Bool} {s : St} (h : GoS w B n0 mo sr tt s up) : ∀ i, i < 4 → Free w (B + 2 + i) := fun i hi => h.free _ (.inl (by omega))

set_option maxHeartbeats 400000 in
set_option maxRecDepth 100000 in
theorem confl_any (w : World) (B n0 mo sr up : Nat) (tt : Bool) (s : St) (u qi : Nat) (a : Int) (hu : u < 4) (hq : qi < 4) (hG : GoS w B n0 mo sr tt s up) (hlen : s.stk.length ≤ 100000) (hS : Small s) :
    Calls Ybad.prog 8 #[.pointer (some ⟨n0 + 3, mo, none⟩), .pointer (some ⟨B + 2 + u, 0, none⟩), .int .i64 a, .pointer (some ⟨B + 2 + qi, 0, none⟩), .pointer (some ⟨n0 + 2, 0, none⟩)] w
      fun e w' => e = .returned (.bool (confl tt qi u a s).1) ∧ GoS w' B n0 mo sr tt (confl tt qi u a s).2 up ∧ Fr B n0 w w' := by
  have e1 := run_ptr_eq (hG.txFree u hu) (hG.txFree qi hq)
  have e2 := run_skip_ne hG.txFree hq hS.2
  have c2 := hG.m2
  have c3 := hG.m3
  have f2 := (hG.free (n0 + 3) (.inr (.inr rfl))).frozen (mo + 2)
  have f3 := (hG.free (n0 + 3) (.inr (.inr rfl))).frozen (mo + 3)
  by_cases h0 : u = qi
  · subst h0
    rw [decide_eq_true rfl] at e1
    by_cases hs : s.skip = some u
    · have er : confl tt u u a s = (false, s) := by simp [confl, hs]
      rw [er]
      simp only [hs, skipV, ptr, decide_true, Bool.not_true] at c2 e2
      clear er hs
      go_enter Ybad.func8, Ybad.ntmps8
      go_wp2_with fail
      go_ret
      exact ⟨rfl, hG, Fr.refl _ _ _⟩
    · have er : confl tt u u a s = (false, { { s with skip := some u } with skAt := a }) := by simp [confl, hs]
      rw [er]
      rw [decide_eq_false hs] at e2
      obtain ⟨pv, hpv⟩ : ∃ pv, skipV B s.skip = .pointer pv := by cases s.skip <;> exact ⟨_, rfl⟩
      rw [hpv] at c2 e2
      have hG2 := hide ((hG.setSkip (some u)).setSkAt a)
      have hF := hide (((Fr.refl B n0 w).set (b := n0 + 3) (o := mo + 2) (.inr (.inr rfl)) hG.lay (skipV B (some u))).set (b := n0 + 3) (o := mo + 3) (.inr (.inr rfl)) hG.lay (.int .i64 a))
      clear hG hpv
      go_enter Ybad.func8, Ybad.ntmps8
      go_wp2_with fail
      go_ret
      exact ⟨rfl, hG2.out, hF.out⟩
  · rw [decide_eq_false (by omega)] at e1
    have er : confl tt qi u a s = reach tt u s := by simp [confl, h0]
    rw [er]
    clear er e2
    go_enter Ybad.func8, Ybad.ntmps8
    go_wp2_with fail
    refine (reach_any w B n0 mo sr up tt s u hu hG hlen).mono ?_
    rintro e w1 ⟨rfl, hG1, hF1⟩
    go_wp2
    go_ret
    exact ⟨rfl, hG1, hF1⟩
end Go.Proofs.YbulkcahwDoor.Ho
