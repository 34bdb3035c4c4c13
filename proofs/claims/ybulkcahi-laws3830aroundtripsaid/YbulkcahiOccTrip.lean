/-
  THE WALK of LawS3830ARoundTrip.
-/
import Derived.Test.YbulkcahiOccSnap
import Derived.Deep.QuietTactic
import Derived.BigQuiet
import Derived.Deep.RegionLaw
namespace Go.Proofs.Ybulkcahi.Occ
open Go.RowKit
set_option linter.unusedVariables false

theorem hide {p : Prop} (h : p) : Hid p := h

theorem size35 : (Yba.prog.info? 35).map (·.size) = some 1 := by kernel_rfl

/-- What the last loops read. -/
structure Fin (w wr : World) (n hb L : Nat) (bl : Nat → Nat) (X : Nat → Nat → Nat) (sb : Nat) : Prop where
  hd : ∀ l, l < L → wr.cell? ⟨hb, l, none⟩ = some (.slice (some ⟨bl l, 0, none⟩) (M n (l + 1)) (M n (l + 1)))
  row : ∀ l, l < L → ∀ j, j < M n (l + 1) → wr.cell? ⟨bl l, j, none⟩ = some (.int .u64 (X l j : Nat))
  top : ∀ l, l < L → wr.cell? ⟨sb, l, none⟩ = some (.slice (some ⟨sb + 1 + l, 0, none⟩) (M n (l + 1)) (M n (l + 1)))
  srow : ∀ l, l < L → ∀ j, j < M n (l + 1) → wr.cell? ⟨sb + 1 + l, j, none⟩ = some (.int .u64 (X l j : Nat))
  bel : Below w.heap.size w wr

theorem Fin.drewN {w wr : World} {n hb L sb : Nat} {bl : Nat → Nat} {X : Nat → Nat → Nat} (h : Fin w wr n hb L bl X sb) (m : Nat) : Fin w (wr.drewN m) n hb L bl X sb :=
  ⟨h.hd, h.row, h.top, h.srow, below_drewN h.bel m⟩

theorem fin_of {w wr w4 : World} {n hb L mb sb : Nat} {bl : Nat → Nat} {p : Nat → Bool} {X X4 : Nat → Nat → Nat} (hS : Snap w wr n hb L bl mb p X X sb L) (hO : Occ w4 w.heap.size hb L n bl X4) (hG : Good n L p X4) (hT : Turned (Own L bl) wr w4) :
    Fin w w4 n hb L bl X sb := by
  have hu := unique hS.built.good hG hS.built.occ.small hO.small
  refine ⟨hO.hd, fun l hl j hj => ?_, fun l hl => ?_, fun l hl j hj => ?_, hS.built.bel.trans (hT.below (own_base hO))⟩
  · rw [(hO.row l hl).cell hj, hu l hl j hj]
  · have := (hT.row hS.top (not_own fun l hl => by have := hS.blt l hl; omega)).cell hl
    simpa [hl] using this
  · exact (hT.row (hS.rows l hl) (not_own fun l hl => by have := hS.blt l hl; omega)).cell hj

set_option maxHeartbeats 1000000 in
set_option maxRecDepth 100000 in
theorem trip_any (w : World) (a0 : Int) (hb0 : 0 ≤ a0 ∧ a0 ≤ 65535) (a1 : Option Addr) (len cap ob oo : Nat) (z : Nat → Nat) (a2 : Int) (hb2 : 0 ≤ a2 ∧ a2 ≤ 4294967295) (hlen : len ≤ 1024)
    (ha : 0 < len → a1 = some ⟨ob, oo, none⟩) (hc : ∀ i, i < len → w.cell? ⟨ob, oo + i, none⟩ = some (.int .u32 (z i : Nat))) (hz : ∀ i, i < len → z i < 4294967296) :
    Calls Yba.prog 4 #[.int .u16 a0, .slice a1 len cap, .int .u32 a2] w fun e w' => e = .returned (.bool true) ∧ Below w.heap.size w w' := by
  have hgt : decide ((1024 : Int) < (len : Int)) = false := decide_eq_false (by omega)
  obtain ⟨n, hn, hn0, hn1⟩ : ∃ n : Nat, a0 % 8192 + 1 = (n : Int) ∧ 0 < n ∧ n ≤ 8192 := ⟨(a0 % 8192 + 1).toNat, by omega, by omega, by omega⟩
  obtain ⟨i, hi, hin⟩ : ∃ i : Nat, a2 % (n : Int) = (i : Int) ∧ i < n := by
    have h1 := Int.emod_nonneg a2 (show (n : Int) ≠ 0 by omega)
    have h2 := Int.emod_lt_of_pos a2 (show (0 : Int) < (n : Int) by omega)
    exact ⟨(a2 % (n : Int)).toNat, by omega, by omega⟩
  go_enter Yba.func4, Yba.ntmps4
  go_wp2_with fail
  refine (build_any w n hn0 hn1 a1 len cap ob oo z hlen ha hc hz).mono ?_
  rintro e w1 ⟨hb, L, lcap, bl, mb, p, X, rfl, hB⟩
  clear ha hc hz
  have hL := hB.pos
  have hL2 := hB.le
  have hmk := run_make_row' (P := Yba.prog) 25 33 (.slice none 0 0) 24 Yba.underlying25 info33 rfl .i64 .i64 L (by omega) (by omega)
  go_wp2_with fail
  clear hmk
  go_loopg [33] L (fun g s33 wr => ∃ k : Nat, k ≤ L ∧ g = L - k ∧ s33 = .int .i64 (k : Nat) ∧ Snap w wr n hb L bl mb p X X w1.heap.size k)
  case atStart => exact ⟨0, Nat.zero_le _, rfl, rfl, snap_start hB⟩
  case round =>
    clear hB
    generalize w1.heap.size = sb at *
    obtain ⟨k, hk, rfl, rfl, hS⟩ := hrel
    by_cases hkl : k < L
    · have d1 := hS.built.occ.hd k hkl
      have m1 := M_le n hn1 (k + 1)
      have hsz := hS.size
      have hhs := hS.hlt
      have hmk := run_make_row' (P := Yba.prog) 33 35 (.int .u64 0) 8 Yba.underlying33 info35 rfl .i64 .i64 (M n (k + 1)) (by omega) (by omega)
      have g0 : ∀ o v, ((wr.alloc o).setCell ⟨sb, k, none⟩ v).cell? ⟨hb, k, none⟩ = some (.slice (some ⟨bl k, 0, none⟩) (M n (k + 1)) (M n (k + 1))) := fun o v => by
        rw [World.cell?_setCell_other _ _ _ _ (fun e => by have := congrArg Addr.block e; simp at this; omega), World.cell?_alloc_lt _ _ _ (show hb < wr.heap.size by omega)]
        exact d1
      have g1 : ∀ o, (wr.alloc o).cell? ⟨sb, k, none⟩ = some (.slice none 0 0) := fun o => by have := (hS.top.alloc o).cell hkl; simpa using this
      have g2 : ∀ o, (wr.alloc o).frozen? ⟨sb, k, none⟩ = false := fun o => (hS.top.alloc o).frozen k
      have hnew := hide (atCopy_new hS)
      have hsrc := hide (atCopy_src hS hkl)
      have hnext := hide (snap_next hS hkl)
      clear hS
      go_wp2_with fail
      go_region_law (refine step_copy_whole rfl (.tmp 48) (.tmp 52) 33 33 rfl 35 Yba.underlying33 size35 (sb + 1 + k) (M n (k + 1)) ⟨bl k, 0, none⟩ (by simp [Act.eval]) (by simp [Act.eval]) (words n X k) (words_length n X k) 35 hnew.out hsrc.out (words_oneCell n X k) ?_)
      all_goals go_wp2
      all_goals
        (go_roundg (L - (k + 1))
         case measure => go_light; omega
         case rel => go_light; exact ⟨k + 1, by omega, rfl, by go_num, hnext.out⟩)
    · obtain rfl : L = k := by omega
      have c1 := hS.built.row.cell hin
      have hO := hS.built.occ
      cases hp : p i <;> rw [hp] at c1
      · go_wp2_with fail
        refine (add_any _ w.heap.size hb L lcap n bl X p i hL2 hn1 hO hS.built.good hin).mono ?_
        rintro e w2 ⟨rfl, X2, hO2, hG2, hT2⟩
        go_wp2_with fail
        refine (remove_any _ w.heap.size hb L lcap n bl X2 (setp p i true) i hL2 hn1 hO2 hG2 hin).mono ?_
        rintro e w3 ⟨rfl, X3, hO3, hG3, hT3⟩
        rw [setp_setp p i true false hp] at hG3
        have hF := fin_of hS hO3 hG3 (hT2.trans hT3)
        clear hO2 hG2 hT2 hO3 hG3 hT3 hS hO c1 hp
        go_wp2_with fail
        clear hi hn
        go_loopg [89] L (fun g s89 wr => ∃ l : Nat, l ≤ L ∧ g = L - l ∧ s89 = .int .i64 (l : Nat) ∧ Fin w wr n hb L bl X sb)
        case atStart => exact ⟨0, Nat.zero_le _, rfl, rfl, hF⟩
        case round =>
          clear hF
          obtain ⟨l, hl, rfl, rfl, hF⟩ := hrel
          by_cases hlt : l < L
          · have d1 := hF.hd l hlt
            have m1 := M_le n hn1 (l + 1)
            go_wp2_with fail
            go_loopg [97] (M n (l + 1)) (fun g s97 wr => ∃ k : Nat, k ≤ M n (l + 1) ∧ g = M n (l + 1) - k ∧ s97 = .int .i64 (k : Nat) ∧ Fin w wr n hb L bl X sb)
            case atStart => exact ⟨0, Nat.zero_le _, rfl, rfl, hF⟩
            case round =>
              clear hF d1
              obtain ⟨k, hk, rfl, rfl, hF⟩ := hrel
              by_cases hkl : k < M n (l + 1)
              · have e1 := hF.hd l hlt
                have e2 := hF.row l hlt k hkl
                have e3 := hF.top l hlt
                have e4 := hF.srow l hlt k hkl
                have b1 : (k : Int) < (M n (l + 1) : Int) := by omega
                have b2 : (l : Int) < (L : Int) := by omega
                go_wp2_with fail
                go_quiet (fail)
                go_wp2
                go_roundg (M n (l + 1) - (k + 1))
                case measure => go_light; omega
                case rel => go_light; exact ⟨k + 1, by omega, rfl, by go_num, hF.drewN _⟩
              · go_wp2
                go_roundg (L - (l + 1))
                case measure => go_light; omega
                case rel => go_light; exact ⟨l + 1, by omega, rfl, by go_num, hF⟩
          · go_wp2
            go_ret
            exact ⟨rfl, hF.bel⟩
      · go_wp2_with fail
        refine (remove_any _ w.heap.size hb L lcap n bl X p i hL2 hn1 hO hS.built.good hin).mono ?_
        rintro e w2 ⟨rfl, X2, hO2, hG2, hT2⟩
        have hw : i / 64 < M n 1 := word_lt (l := 0) hin
        have d0 := hO2.hd 0 hL
        have d1 := (hO2.row 0 hL).cell hw
        have hx := hO2.small 0 hL _ hw
        have hbit := bit_zero (X2 0 (i / 64)) (i % 64) hx (by
          have := hG2 0 hL i (by simp only [M] at *; omega)
          simpa [bit, q, setp] using this)
        have hm1 := M_le n hn1 1
        simp only [Nat.zero_add] at d0
        go_wp2_with fail
        refine (add_any _ w.heap.size hb L lcap n bl X2 (setp p i false) i hL2 hn1 hO2 hG2 hin).mono ?_
        rintro e w3 ⟨rfl, X3, hO3, hG3, hT3⟩
        rw [setp_setp p i false true hp] at hG3
        have hF := fin_of hS hO3 hG3 (hT2.trans hT3)
        clear hO2 hG2 hT2 hO3 hG3 hT3 hS hO c1 hp d0 d1 hx hbit
        go_wp2_with fail
        clear hi hn
        go_loopg [89] L (fun g s89 wr => ∃ l : Nat, l ≤ L ∧ g = L - l ∧ s89 = .int .i64 (l : Nat) ∧ Fin w wr n hb L bl X sb)
        case atStart => exact ⟨0, Nat.zero_le _, rfl, rfl, hF⟩
        case round =>
          clear hF
          obtain ⟨l, hl, rfl, rfl, hF⟩ := hrel
          by_cases hlt : l < L
          · have d1 := hF.hd l hlt
            have m1 := M_le n hn1 (l + 1)
            go_wp2_with fail
            go_loopg [97] (M n (l + 1)) (fun g s97 wr => ∃ k : Nat, k ≤ M n (l + 1) ∧ g = M n (l + 1) - k ∧ s97 = .int .i64 (k : Nat) ∧ Fin w wr n hb L bl X sb)
            case atStart => exact ⟨0, Nat.zero_le _, rfl, rfl, hF⟩
            case round =>
              clear hF d1
              obtain ⟨k, hk, rfl, rfl, hF⟩ := hrel
              by_cases hkl : k < M n (l + 1)
              · have e1 := hF.hd l hlt
                have e2 := hF.row l hlt k hkl
                have e3 := hF.top l hlt
                have e4 := hF.srow l hlt k hkl
                have b1 : (k : Int) < (M n (l + 1) : Int) := by omega
                have b2 : (l : Int) < (L : Int) := by omega
                go_wp2_with fail
                go_quiet (fail)
                go_wp2
                go_roundg (M n (l + 1) - (k + 1))
                case measure => go_light; omega
                case rel => go_light; exact ⟨k + 1, by omega, rfl, by go_num, hF.drewN _⟩
              · go_wp2
                go_roundg (L - (l + 1))
                case measure => go_light; omega
                case rel => go_light; exact ⟨l + 1, by omega, rfl, by go_num, hF⟩
          · go_wp2
            go_ret
            exact ⟨rfl, hF.bel⟩

end Go.Proofs.Ybulkcahi.Occ
