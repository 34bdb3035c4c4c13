/-
  THE WALK of zzs3836ain.
-/
import Derived.Test.YbulkcakoPlain
import Derived.Deep.OwnRows
import Derived.Deep.LoopGhost
import Derived.Deep.Light
import Derived.Deep.QuietTactic
import Derived.BigQuiet
import Derived.WalkSmall
import Derived.Below
namespace Go.Proofs.Ybulkcako.Ex
open Go.RowKit
set_option linter.unusedVariables false

/-- x is among the first n. -/
def memTo (xs : Nat → ByteArray) (x : ByteArray) : Nat → Bool
  | 0 => false
  | n + 1 => memTo xs x n || decide (xs n = x)

theorem mem_iff {xs : Nat → ByteArray} {x : ByteArray} : ∀ n, memTo xs x n = true ↔ ∃ i, i < n ∧ xs i = x
  | 0 => by simp [memTo]
  | n + 1 => by
    simp only [memTo, Bool.or_eq_true, decide_eq_true_eq, mem_iff n]
    constructor
    · rintro (⟨i, hi, e⟩ | e)
      · exact ⟨i, by omega, e⟩
      · exact ⟨n, by omega, e⟩
    · rintro ⟨i, hi, e⟩
      by_cases c : i = n
      · subst c; exact .inr e
      · exact .inl ⟨i, by omega, e⟩

set_option maxRecDepth 100000 in
theorem in_any (w : World) (a : Option Addr) (b o n cap : Nat) (xs : Nat → ByteArray) (x : ByteArray) (r : Bool) (ha : 0 < n → a = some ⟨b, o, none⟩) (hc : ∀ i, i < n → w.cell? ⟨b, o + i, none⟩ = some (.string (xs i))) (hn : n ≤ 100000)
    (hr : r = memTo xs x n) : Calls Yba.prog 5 #[.slice a n cap, .string x] w fun e w' => e = .returned (.bool r) ∧ w' = w := by
  have HR : Hid (r = memTo xs x n) := hr
  clear hr
  go_enter Yba.func5, Yba.ntmps5
  go_wp2_with fail
  go_loopg [9, 6] n (fun g s9 s6 wr => ∃ i, i ≤ n ∧ g = n - i ∧ s9 = .int .i64 (i : Nat) ∧ Hid (memTo xs x i = false) ∧ wr = w)
  case atStart => exact ⟨0, Nat.zero_le _, rfl, rfl, rfl, rfl⟩
  case round =>
    obtain ⟨i, hi, rfl, rfl, hm, rfl⟩ := hrel
    by_cases hlt : i < n
    · have hd : decide ((i : Int) < (n : Int)) = true := decide_eq_true (by omega)
      obtain rfl := ha (by omega)
      have c0 := hc i hlt
      have hb := seq_beq (xs i) x
      by_cases e : xs i = x
      · simp only [e, decide_true] at hb
        have e1 := HR.out
        rw [(mem_iff n).2 ⟨i, hlt, e⟩] at e1
        subst e1
        rw [e] at c0
        clear e HR hc ha
        go_wp2
        go_ret
        exact ⟨rfl, rfl⟩
      · simp only [e, decide_false] at hb
        have HM : Hid (memTo xs x (i + 1) = false) := by show memTo xs x (i + 1) = false; simp [memTo, hm.out, e]
        clear e hc ha
        go_wp2
        go_roundg (n - (i + 1))
        case measure => go_light; omega
        case rel => go_light; exact ⟨i + 1, by omega, rfl, by go_num, HM, rfl⟩
    · have hd : decide ((i : Int) < (n : Int)) = false := decide_eq_false (by omega)
      obtain rfl : i = n := by omega
      have e1 := HR.out
      rw [hm.out] at e1
      subst e1
      clear HR
      go_wp2
      go_ret
      exact ⟨rfl, rfl⟩

end Go.Proofs.Ybulkcako.Ex
