/-
  THE PLAIN LAW of the floors' map: each site with the value of its last occurrence; as many as there are last occurrences.
-/
import Derived.Test.YbulkcaikQuHear
import Derived.Maps.Views
namespace Go.Proofs.Ybulkcaik.Qu
set_option linter.unusedVariables false

abbrev kl (s : ByteArray) : Lit := .string s.data.toList

theorem kl_ne {a b : ByteArray} (h : a ≠ b) : kl a ≠ kl b := by
  intro e
  simp only [kl, Lit.string.injEq] at e
  apply h
  cases a; cases b
  simp only [ByteArray.mk.injEq]
  exact Array.toList_inj.1 e

theorem kl_key (a : ByteArray) : WideAt.IsKeyLit (kl a) := by trivial

/-- The last of the first n that bears the site of i. -/
def lastUp (ss : Nat → ByteArray) (i : Nat) : Nat → Nat
  | 0 => i
  | n + 1 => if i < n ∧ ss n = ss i then n else lastUp ss i n

theorem lastUp_lt {ss : Nat → ByteArray} {i : Nat} : ∀ {n : Nat}, i < n → lastUp ss i n < n
  | n + 1, h => by
    simp only [lastUp]
    by_cases c : i < n ∧ ss n = ss i
    · rw [if_pos c]; omega
    · rw [if_neg c]
      by_cases e : i < n
      · have := lastUp_lt (ss := ss) e; omega
      · have : i = n := by omega
        subst this
        have : ∀ m, m ≤ i → lastUp ss i m = i := by
          intro m
          induction m with
          | zero => intro _; rfl
          | succ m ih => intro hm; simp only [lastUp]; rw [if_neg (by omega)]; exact ih (by omega)
        rw [this i (Nat.le_refl _)]; omega

theorem lastUp_self {ss : Nat → ByteArray} {i : Nat} : ∀ n, n ≤ i + 1 → lastUp ss i n = i
  | 0, _ => rfl
  | n + 1, h => by simp only [lastUp]; rw [if_neg (by omega)]; exact lastUp_self n (by omega)

theorem lastUp_ge {ss : Nat → ByteArray} {i j : Nat} : ∀ {n : Nat}, i < j → j < n → ss j = ss i → j ≤ lastUp ss i n
  | n + 1, hij, hj, e => by
    simp only [lastUp]
    by_cases c : i < n ∧ ss n = ss i
    · rw [if_pos c]; omega
    · rw [if_neg c]
      by_cases ej : j = n
      · subst ej; exact absurd ⟨hij, e⟩ c
      · exact lastUp_ge hij (by omega) e

theorem lastUp_same {ss : Nat → ByteArray} {i : Nat} : ∀ n, ss (lastUp ss i n) = ss i
  | 0 => rfl
  | n + 1 => by
    simp only [lastUp]
    by_cases c : i < n ∧ ss n = ss i
    · rw [if_pos c]; exact c.2
    · rw [if_neg c]; exact lastUp_same n

variable {fs : Nat → ByteArray} {fv : Nat → Nat}

theorem putAll_tidy (fs : Nat → ByteArray) (fv : Nat → Nat) : ∀ n, Maps.Tidy (putAll fs fv n)
  | 0 => Maps.tidy_empty
  | n + 1 => (putAll_tidy fs fv n).put (kl_key (fs n)) _

theorem putAll_at (z : DataW Unit) : ∀ n i, i < n → Maps.has (putAll fs fv n) (kl (fs i)) = true ∧ (putAll fs fv n).atKey (kl (fs i)) z = .lit (.int .u64 (fv (lastUp fs i n) : Nat))
  | n + 1, i, hi => by
    by_cases e : fs n = fs i
    · have hl : lastUp fs i (n + 1) = n := by
        simp only [lastUp]
        by_cases c : i < n
        · rw [if_pos ⟨c, e⟩]
        · have : i = n := by omega
          subst this
          rw [if_neg (by omega), lastUp_self _ (by omega)]
      rw [hl, ← e]
      exact ⟨Maps.has_put_same (putAll_tidy fs fv n).isMap (kl_key _) _, Maps.atKey_put_same (putAll_tidy fs fv n).isMap (kl_key _) _ _⟩
    · have hi' : i < n := by
        by_cases c : i < n
        · exact c
        · exact absurd (by rw [show i = n by omega]) e
      have hl : lastUp fs i (n + 1) = lastUp fs i n := by simp only [lastUp]; rw [if_neg (fun c => e c.2)]
      rw [hl]
      obtain ⟨h1, h2⟩ := putAll_at z n i hi'
      exact ⟨(Maps.has_put_other (kl_ne (fun c => e c.symm)) _).trans h1, (Maps.atKey_put_other (kl_ne (fun c => e c.symm)) _ _).trans h2⟩

theorem putAll_not : ∀ n (s : ByteArray), (∀ i, i < n → fs i ≠ s) → Maps.has (putAll fs fv n) (kl s) = false
  | 0, s, _ => rfl
  | n + 1, s, h => by
    show Maps.has ((putAll fs fv n).put (kl (fs n)) _) (kl s) = false
    rw [Maps.has_put_other (kl_ne (h n (by omega)).symm)]
    exact putAll_not n s fun i hi => h i (by omega)

/-- How many of the first i are the last of their site among the first n. -/
def lives (ss : Nat → ByteArray) (n : Nat) : Nat → Nat
  | 0 => 0
  | i + 1 => lives ss n i + if lastUp ss i n = i then 1 else 0

/-- .. and bear the site s. -/
def livesOf (ss : Nat → ByteArray) (n : Nat) (s : ByteArray) : Nat → Nat
  | 0 => 0
  | i + 1 => livesOf ss n s i + if lastUp ss i n = i ∧ ss i = s then 1 else 0

theorem lives_step {ss : Nat → ByteArray} {n : Nat} : ∀ i, i ≤ n → lives ss (n + 1) i + livesOf ss n (ss n) i = lives ss n i
  | 0, _ => rfl
  | i + 1, h => by
    have ih := lives_step (ss := ss) i (by omega : i ≤ n)
    simp only [lives, livesOf]
    by_cases e : ss n = ss i
    · have h1 : lastUp ss i (n + 1) = n := by simp only [lastUp]; rw [if_pos ⟨by omega, e⟩]
      rw [h1, if_neg (by omega)]
      by_cases c : lastUp ss i n = i
      · rw [if_pos ⟨c, e.symm⟩, if_pos c]; omega
      · rw [if_neg (fun q => c q.1), if_neg c]; omega
    · have h1 : lastUp ss i (n + 1) = lastUp ss i n := by simp only [lastUp]; rw [if_neg (fun c => e c.2)]
      rw [h1, if_neg (fun q : lastUp ss i n = i ∧ ss i = ss n => e q.2.symm)]
      omega

theorem livesOf_none {ss : Nat → ByteArray} {n : Nat} {s : ByteArray} : ∀ i, (∀ j, j < i → ¬ (lastUp ss j n = j ∧ ss j = s)) → livesOf ss n s i = 0
  | 0, _ => rfl
  | i + 1, h => by simp only [livesOf]; rw [if_neg (h i (by omega)), livesOf_none i fun j hj => h j (by omega)]

theorem livesOf_one {ss : Nat → ByteArray} {n : Nat} {s : ByteArray} : ∀ i k, k < i → i ≤ n → lastUp ss k n = k → ss k = s → livesOf ss n s i = 1
  | i + 1, k, hk, hn, h1, h2 => by
    simp only [livesOf]
    by_cases e : k = i
    · subst e
      rw [if_pos ⟨h1, h2⟩, livesOf_none k fun j hj hc => ?_]
      have := lastUp_ge (ss := ss) hj (by omega : k < n) (h2.trans hc.2.symm)
      omega
    · rw [livesOf_one i k (by omega) (by omega) h1 h2, if_neg fun hc => ?_]
      have := lastUp_ge (ss := ss) (show k < i by omega) (by omega : i < n) (hc.2.trans h2.symm)
      omega

theorem putAll_size : ∀ n, Maps.size (putAll fs fv n) = lives fs n n
  | 0 => rfl
  | n + 1 => by
    show Maps.size ((putAll fs fv n).put (kl (fs n)) _) = _
    rw [Maps.size_put (putAll_tidy fs fv n), putAll_size n]
    have h1 := lives_step (ss := fs) (n := n) n (Nat.le_refl _)
    have h2 : lives fs (n + 1) (n + 1) = lives fs (n + 1) n + 1 := by
      simp only [lives]
      rw [if_pos (lastUp_self _ (by omega))]
    by_cases h : ∃ i, i < n ∧ fs i = fs n
    · obtain ⟨i, hi, e⟩ := h
      have h3 := livesOf_one (ss := fs) (n := n) (s := fs n) n (lastUp fs i n) (lastUp_lt hi) (Nat.le_refl _) ?_ ((lastUp_same n).trans e)
      · have h4 := (putAll_at (fs := fs) (fv := fv) (.map []) n i hi).1
        rw [e] at h4
        rw [if_pos h4]
        omega
      · rcases Nat.lt_or_ge (lastUp fs (lastUp fs i n) n) (lastUp fs i n) with c | c
        · have : ∀ j m, lastUp fs j m ≥ j := by
            intro j m
            induction m with
            | zero => exact Nat.le_refl _
            | succ m ih => simp only [lastUp]; split <;> omega
          have := this (lastUp fs i n) n
          omega
        · rcases Nat.eq_or_lt_of_le c with c | c
          · exact c.symm
          · have hj := lastUp_lt (ss := fs) (i := lastUp fs i n) (lastUp_lt hi)
            have hge : ∀ j m, lastUp fs j m ≥ j := by
              intro j m
              induction m with
              | zero => exact Nat.le_refl _
              | succ m ih => simp only [lastUp]; split <;> omega
            have := lastUp_ge (ss := fs) (i := i) (j := lastUp fs (lastUp fs i n) n) (Nat.lt_of_le_of_lt (hge i n) c) hj ((lastUp_same n).trans (lastUp_same n))
            omega
    · have h3 := livesOf_none (ss := fs) (n := n) (s := fs n) n fun j hj hc => h ⟨j, hj, hc.2⟩
      have h4 := putAll_not (fs := fs) (fv := fv) n (fs n) fun i hi e => h ⟨i, hi, e⟩
      rw [h4]
      simp only [Bool.false_eq_true, if_false]
      omega

end Go.Proofs.Ybulkcaik.Qu
