/-
  THE PLAIN LAW of an occupancy: levels of 64-bit words, each level marking the words below that are not zero. No Go in sight.
-/
namespace Go.Proofs.Ybulkcahi.Occ

/-- How many numbers level l speaks of: n at the bottom; above, the words of the level below. -/
def M (n : Nat) : Nat → Nat
  | 0 => n
  | l + 1 => (M n l + 63) / 64

/-- Bit k of a level. -/
def bit (X : Nat → Nat) (k : Nat) : Bool := (X (k / 64)).testBit (k % 64)

/-- What bit k of level m must be. -/
def q (n : Nat) (p : Nat → Bool) (X : Nat → Nat → Nat) : Nat → Nat → Bool
  | 0, k => p k
  | m + 1, k => decide (k < M n (m + 1)) && (X m k != 0)

/-- Every level holds what it must. -/
def Good (n L : Nat) (p : Nat → Bool) (X : Nat → Nat → Nat) : Prop :=
  ∀ m, m < L → ∀ k, k < 64 * M n (m + 1) → bit (X m) k = q n p X m k

/-- Each word is a word. -/
def Small (n L : Nat) (X : Nat → Nat → Nat) : Prop := ∀ m, m < L → ∀ i, i < M n (m + 1) → X m i < 18446744073709551616

/-- All is as it must be but for bit i of level l, which must become v. -/
def Pend (n L : Nat) (p : Nat → Bool) (v : Bool) (l i : Nat) (X : Nat → Nat → Nat) : Prop :=
  (∀ m, m < L → ∀ k, k < 64 * M n (m + 1) → (m ≠ l ∨ k ≠ i) → bit (X m) k = q n p X m k) ∧ q n p X l i = v

def upd (X : Nat → Nat → Nat) (l w y : Nat) : Nat → Nat → Nat := fun m i => if m = l ∧ i = w then y else X m i

def setp (p : Nat → Bool) (i : Nat) (v : Bool) : Nat → Bool := fun k => if k = i then v else p k

theorem upd_same (X : Nat → Nat → Nat) (l w y : Nat) : upd X l w y l w = y := by simp [upd]
theorem upd_level (X : Nat → Nat → Nat) (l w y m : Nat) (h : m ≠ l) : upd X l w y m = X m := by
  funext i; simp [upd, h]
theorem upd_word (X : Nat → Nat → Nat) (l w y m i : Nat) (h : i ≠ w) : upd X l w y m i = X m i := by simp [upd, h]

theorem q_level (n : Nat) (p : Nat → Bool) (X : Nat → Nat → Nat) (l w y m k : Nat) (h : m ≠ l + 1) : q n p (upd X l w y) m k = q n p X m k := by
  cases m with
  | zero => rfl
  | succ m => simp only [q]; rw [upd_level _ _ _ _ _ (by omega)]

theorem q_word (n : Nat) (p : Nat → Bool) (X : Nat → Nat → Nat) (l w y m k : Nat) (h : k ≠ w) : q n p (upd X l w y) m k = q n p X m k := by
  cases m with
  | zero => rfl
  | succ m => simp only [q]; rw [upd_word _ _ _ _ _ _ h]

theorem start {n L : Nat} {p : Nat → Bool} {X : Nat → Nat → Nat} (h : Good n L p X) (i : Nat) (v : Bool) : Pend n L (setp p i v) v 0 i X := by
  refine ⟨fun m hm k hk hne => ?_, by simp [q, setp]⟩
  rw [h m hm k hk]
  cases m with
  | zero =>
    have : k ≠ i := hne.resolve_left (fun h => h rfl)
    simp [q, setp, this]
  | succ m => rfl

theorem finish {n L : Nat} {p : Nat → Bool} {v : Bool} {i : Nat} {X : Nat → Nat → Nat} (h : Pend n L p v L i X) : Good n L p X :=
  fun m hm k hk => h.1 m hm k hk (.inl (by omega))

section
variable {n L : Nat} {p : Nat → Bool} {v : Bool} {l i : Nat} {X : Nat → Nat → Nat}

theorem word_lt (hi : i < M n l) : i / 64 < M n (l + 1) := by simp only [M]; omega

/-- Behind the store: all is as it must be but for the bit above. -/
theorem stored (h : Pend n L p v l i X) (y : Nat) (hy : ∀ j, j < 64 → y.testBit j = if j = i % 64 then v else (X l (i / 64)).testBit j) :
    ∀ m, m < L → ∀ k, k < 64 * M n (m + 1) → (m ≠ l + 1 ∨ k ≠ i / 64) → bit (upd X l (i / 64) y m) k = q n p (upd X l (i / 64) y) m k := by
  intro m hm k hk hne
  have hq : q n p (upd X l (i / 64) y) m k = q n p X m k := by
    rcases hne with h | h
    · exact q_level _ _ _ _ _ _ _ _ h
    · exact q_word _ _ _ _ _ _ _ _ h
  rw [hq]
  by_cases hml : m = l
  · subst hml
    by_cases hw : k / 64 = i / 64
    · by_cases hki : k = i
      · subst hki
        rw [h.2]
        simp only [bit]
        rw [upd_same, hy _ (Nat.mod_lt _ (by omega)), if_pos rfl]
      · rw [← h.1 m hm k hk (.inr hki)]
        simp only [bit]
        rw [hw, upd_same, hy _ (Nat.mod_lt _ (by omega)), if_neg (by omega)]
    · rw [← h.1 m hm k hk (.inr (by intro e; subst e; exact hw rfl))]
      simp only [bit]
      rw [upd_word _ _ _ _ _ _ hw]
  · rw [← h.1 m hm k hk (.inl hml), upd_level _ _ _ _ _ hml]

theorem done_of_same (h : Pend n L p v l i X) (y : Nat) (hy : ∀ j, j < 64 → y.testBit j = if j = i % 64 then v else (X l (i / 64)).testBit j)
    (hs : (y != 0) = (X l (i / 64) != 0)) : Good n L p (upd X l (i / 64) y) := by
  intro m hm k hk
  by_cases hb : m = l + 1 ∧ k = i / 64
  · obtain ⟨rfl, rfl⟩ := hb
    rw [upd_level _ _ _ _ _ (by omega), h.1 (l + 1) hm (i / 64) hk (.inl (by omega))]
    simp only [q]
    rw [upd_same, hs]
  · exact stored h y hy m hm k hk (by omega)

theorem next_of_v (h : Pend n L p v l i X) (hi : i < M n l) (y : Nat) (hy : ∀ j, j < 64 → y.testBit j = if j = i % 64 then v else (X l (i / 64)).testBit j)
    (hs : (y != 0) = v) : Pend n L p v (l + 1) (i / 64) (upd X l (i / 64) y) := by
  refine ⟨stored h y hy, ?_⟩
  simp only [q]
  rw [upd_same, hs]
  simp [word_lt hi]

/-! The two words that Go writes. -/

theorem or_bit (x i j : Nat) : (x ||| 2 ^ i).testBit j = if j = i then true else x.testBit j := by
  rw [Nat.testBit_or, Nat.testBit_two_pow]
  by_cases h : j = i
  · subst h; simp
  · rw [if_neg h]; simp [show ¬ i = j by omega]

theorem or_ne (x i : Nat) : ((x ||| 2 ^ i) != 0) = true := by
  rw [bne_iff_ne]
  intro h
  have := or_bit x i i
  rw [h] at this
  simp at this

theorem andNot_bit (x i j : Nat) (hi : i < 64) (hj : j < 64) : (x &&& (18446744073709551615 - 2 ^ i)).testBit j = if j = i then false else x.testBit j := by
  rw [Nat.testBit_and]
  have e : (18446744073709551615 - 2 ^ i) = 2 ^ 64 - (2 ^ i + 1) := by omega
  have hlt : 2 ^ i < 2 ^ 64 := Nat.pow_lt_pow_right (by omega) hi
  rw [e, Nat.testBit_two_pow_sub_succ hlt, Nat.testBit_two_pow]
  by_cases h : j = i
  · subst h; simp
  · rw [if_neg h]; simp [hj, show ¬ i = j by omega]

theorem andNot_ne (x y : Nat) (h : ((x &&& y) != 0) = true) : (x != 0) = true := by
  rw [bne_iff_ne] at *
  intro e; subst e; simp at h

end

/-! ### One set of numbers has one picture. -/
theorem word_eq (x y : Nat) (hx : x < 18446744073709551616) (hy : y < 18446744073709551616) (h : ∀ j, j < 64 → x.testBit j = y.testBit j) : x = y := by
  apply Nat.eq_of_testBit_eq
  intro j
  by_cases hj : j < 64
  · exact h j hj
  · have e : (18446744073709551616 : Nat) = 2 ^ 64 := by decide
    have hp : (2 : Nat) ^ 64 ≤ 2 ^ j := Nat.pow_le_pow_right (by omega) (by omega)
    rw [Nat.testBit_lt_two_pow (by omega), Nat.testBit_lt_two_pow (by omega)]

theorem unique {n L : Nat} {p : Nat → Bool} {X Y : Nat → Nat → Nat} (hX : Good n L p X) (hY : Good n L p Y) (sX : Small n L X) (sY : Small n L Y) :
    ∀ m, m < L → ∀ i, i < M n (m + 1) → X m i = Y m i := by
  intro m
  induction m with
  | zero =>
    intro hm i hi
    refine word_eq _ _ (sX 0 hm i hi) (sY 0 hm i hi) fun j hj => ?_
    have a := hX 0 hm (64 * i + j) (by omega)
    have b := hY 0 hm (64 * i + j) (by omega)
    simp only [bit, q] at a b
    rw [show (64 * i + j) / 64 = i by omega, show (64 * i + j) % 64 = j by omega] at a b
    rw [a, b]
  | succ m ih =>
    intro hm i hi
    refine word_eq _ _ (sX _ hm i hi) (sY _ hm i hi) fun j hj => ?_
    have a := hX _ hm (64 * i + j) (by omega)
    have b := hY _ hm (64 * i + j) (by omega)
    simp only [bit, q] at a b
    rw [show (64 * i + j) / 64 = i by omega, show (64 * i + j) % 64 = j by omega] at a b
    rw [a, b]
    by_cases hk : 64 * i + j < M n (m + 1)
    · rw [ih (by omega) _ hk]
    · simp [hk]

theorem good_zero (n L : Nat) : Good n L (fun _ => false) (fun _ _ => 0) := by
  intro m _ k _
  cases m <;> simp [bit, q]

theorem Good.congr {n L : Nat} {p p' : Nat → Bool} {X : Nat → Nat → Nat} (h : Good n L p X) (e : ∀ k, p k = p' k) : Good n L p' X := by
  have : p = p' := funext e
  exact this ▸ h

theorem setp_setp (p : Nat → Bool) (i : Nat) (v u : Bool) (h : p i = u) : setp (setp p i v) i u = p := by
  funext k
  by_cases e : k = i
  · subst e; simp [setp, h]
  · simp [setp, e]

/-- (x >> j) & 1 -/
theorem shr_and (x j : Nat) : x / 2 ^ j &&& 1 = if x.testBit j then 1 else 0 := by
  rw [Nat.and_one_is_mod, Nat.testBit_eq_decide_div_mod_eq]
  have := Nat.mod_lt (x / 2 ^ j) (show 0 < 2 by omega)
  by_cases h : x / 2 ^ j % 2 = 1
  · simp [h]
  · simp [h]; omega

theorem M_pos (n : Nat) (h : 0 < n) : ∀ l, 0 < M n l
  | 0 => h
  | l + 1 => by have := M_pos n h l; simp only [M]; omega

/-- Till a level of one word is reached each level is smaller than the one below: so there are at most n levels. -/
theorem M_down (n : Nat) : ∀ l, (∀ j, j < l → 1 < M n (j + 1)) → 0 < n → l + M n l ≤ n := by
  intro l
  induction l with
  | zero => intro _ _; simp [M]
  | succ l ih =>
    intro h hn
    have a := ih (fun j hj => h j (by omega)) hn
    have b := h l (by omega)
    have c : M n (l + 1) = (M n l + 63) / 64 := rfl
    omega

end Go.Proofs.Ybulkcahi.Occ
