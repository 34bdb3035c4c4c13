/-
  THE WALK of zzs3830aok.
-/
import Derived.Test.YbulkcahiOccBuild
namespace Go.Proofs.Ybulkcahi.Occ
open Go.RowKit
set_option linter.unusedVariables false

theorem shr_cast (x j : Nat) : (x : Int) / 2 ^ j = ((x / 2 ^ j : Nat) : Int) := by
  have e : ((2 : Int) ^ j) = ((2 ^ j : Nat) : Int) := by rw [Int.natCast_pow]; rfl
  rw [e]; rfl

theorem bit_word (x j : Nat) (hx : x < 18446744073709551616) : bits BinOp.and IntKind.u64 ((x : Int) / 2 ^ j) 1 = ((if x.testBit j then 1 else 0 : Nat) : Int) := by
  rw [shr_cast, show (1 : Int) = ((1 : Nat) : Int) from rfl, u64_and_nat _ _ (Nat.lt_of_le_of_lt (Nat.div_le_self _ _) hx) (by omega), shr_and]

theorem bit_test (x j : Nat) (hx : x < 18446744073709551616) : (bits BinOp.and IntKind.u64 ((x : Int) / 2 ^ j) 1 == 1) = x.testBit j := by
  rw [bit_word x j hx]
  cases x.testBit j <;> rfl

theorem bit_zero (x j : Nat) (hx : x < 18446744073709551616) (h : x.testBit j = false) : (bits BinOp.and IntKind.u64 ((x : Int) / 2 ^ j) 1 != 0) = false := by
  rw [bit_word x j hx, h]
  rfl

theorem ne_cast (x : Nat) : ((x : Int) != 0) = (x != 0) := (bne_cast rfl).symm

set_option maxHeartbeats 400000 in
set_option maxRecDepth 100000 in
theorem ok_any (w0 w : World) (n hb L lcap : Nat) (bl : Nat → Nat) (mb : Nat) (p : Nat → Bool) (X : Nat → Nat → Nat) (h0 : 0 < n) (hn : n ≤ 8192) (hBu : Built w0 w n hb L bl mb p X) :
    Calls Yba.prog 6 #[.slice (some ⟨hb, 0, none⟩) L lcap, .slice (some ⟨mb, 0, none⟩) n n, .int .u64 (n : Nat)] w fun e w' => e = .returned (.bool true) ∧ w' = w := by
  have hL := hBu.pos
  have hL2 := hBu.le
  have d0 := hBu.occ.hd 0 hL
  have e2 : ((n : Int) + 63) / 64 = ((M n (0 + 1) : Nat) : Int) := by simp only [M]; omega
  have hm1 := M_le n hn 1
  have hL' : ((L : Int) == 0) = false := by simp; omega
  simp only [Nat.zero_add] at d0 e2
  go_enter Yba.func6, Yba.ntmps6
  go_wp2
  go_loopg [8] (64 * M n 1) (fun g s8 wr => ∃ j : Nat, j ≤ 64 * M n 1 ∧ g = 64 * M n 1 - j ∧ s8 = .int .u64 (j : Nat) ∧ w = wr)
  case atStart => exact ⟨0, Nat.zero_le _, rfl, rfl, rfl⟩
  case round =>
    obtain ⟨j, hj, rfl, rfl, rfl⟩ := hrel
    by_cases hlt : j < 64 * M n 1
    · have hw : j / 64 < M n 1 := by omega
      have c1 := (hBu.occ.row 0 hL).cell hw
      have hx := hBu.occ.small 0 hL (j / 64) hw
      have hbit : (bits BinOp.and IntKind.u64 ((X 0 (j / 64) : Int) / 2 ^ (j % 64)) 1 == 1) = p j := by rw [bit_test _ _ hx]; exact hBu.good 0 hL j hlt
      by_cases hjn : j < n
      · have c2 := hBu.row.cell hjn
        cases hp : p j <;> rw [hp] at c2 hbit <;>
          (go_wp2
           go_roundg (64 * M n 1 - (j + 1))
           case measure => go_light; omega
           case rel => go_light; exact ⟨j + 1, by omega, rfl, by go_num, rfl⟩)
      · rw [hBu.out j (by omega)] at hbit
        go_wp2
        go_roundg (64 * M n 1 - (j + 1))
        case measure => go_light; omega
        case rel => go_light; exact ⟨j + 1, by omega, rfl, by go_num, rfl⟩
    · clear hj
      go_wp2
      clear e2 hlt
      go_loopg [11] L (fun g s11 wr => ∃ m : Nat, m + 1 ≤ L ∧ g = L - m ∧ s11 = .int .i64 ((m : Int) + 1) ∧ w = wr)
      case atStart => exact ⟨0, by omega, rfl, rfl, rfl⟩
      case round =>
        obtain ⟨m, hm, rfl, rfl, rfl⟩ := hrel
        by_cases hml : m + 1 < L
        · have d1 := hBu.occ.hd m (by omega)
          have d2 : w.cell? ⟨hb, m + 1, none⟩ = some (.slice (some ⟨bl (m + 1), 0, none⟩) (M n (m + 2)) (M n (m + 2))) := hBu.occ.hd (m + 1) hml
          have f1 := hBu.many m hml
          have f2 := M_le n hn (m + 1)
          have f3 := M_le n hn (m + 2)
          have f4 : (M n (m + 1) + 63) / 64 = M n (m + 2) := rfl
          have f5 : ((M n (m + 2) : Int) != ((M n (m + 1) : Int) + 63) / 64) = false := by simp; omega
          have g1 : decide ((m : Int) + 1 < (L : Int)) = true := decide_eq_true (by omega)
          have g2 : decide ((M n (m + 1) : Int) ≤ 1) = false := decide_eq_false (by omega)
          clear f4
          go_wp2
          go_loopg [13] (64 * M n (m + 2)) (fun g s13 wr => ∃ k : Nat, k ≤ 64 * M n (m + 2) ∧ g = 64 * M n (m + 2) - k ∧ s13 = .int .i64 (k : Nat) ∧ w = wr)
          case atStart => exact ⟨0, Nat.zero_le _, rfl, rfl, rfl⟩
          case round =>
            obtain ⟨k, hk, rfl, rfl, rfl⟩ := hrel
            clear f5
            by_cases hkl : k < 64 * M n (m + 2)
            · have hw : k / 64 < M n (m + 2) := by omega
              have c3 := (hBu.occ.row (m + 1) hml).cell hw
              have hx := hBu.occ.small (m + 1) hml (k / 64) hw
              have hbit : (bits BinOp.and IntKind.u64 ((X (m + 1) (k / 64) : Int) / 2 ^ (k % 64)) 1 == 1) = q n p X (m + 1) k := by rw [bit_test _ _ hx]; exact hBu.good (m + 1) hml k hkl
              simp only [q] at hbit
              by_cases hkn : k < M n (m + 1)
              · have c4 := (hBu.occ.row m (by omega)).cell hkn
                have hne := ne_cast (X m k)
                cases hp : (X m k != 0) <;> rw [hp] at hne hbit <;> simp only [hkn, decide_true, Bool.true_and] at hbit <;> clear hp <;>
                  (go_wp2
                   go_roundg (64 * M n (m + 2) - (k + 1))
                   case measure => go_light; omega
                   case rel => go_light; exact ⟨k + 1, by omega, rfl, by go_num, rfl⟩)
              · simp only [hkn, decide_false, Bool.false_and] at hbit
                go_wp2
                go_roundg (64 * M n (m + 2) - (k + 1))
                case measure => go_light; omega
                case rel => go_light; exact ⟨k + 1, by omega, rfl, by go_num, rfl⟩
            · go_wp2
              go_roundg (L - (m + 1))
              case measure => go_light; omega
              case rel => go_light; exact ⟨m + 1, by omega, rfl, by go_num, rfl⟩
        · have dl : w.cell? ⟨hb, L - 1, none⟩ = some (.slice (some ⟨bl (L - 1), 0, none⟩) 1 1) := by
            have := hBu.occ.hd (L - 1) (by omega)
            rw [show L - 1 + 1 = L by omega, hBu.top] at this
            exact this
          go_wp2
          go_ret
          exact ⟨rfl, rfl⟩

end Go.Proofs.Ybulkcahi.Occ
