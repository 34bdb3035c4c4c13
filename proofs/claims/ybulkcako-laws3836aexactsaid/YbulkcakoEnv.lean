/-
  THE PLAIN LAW of LawS3836AExact, and what holds of the world behind add.
-/
import Derived.Test.YbulkcakoCopy
import Derived.Laws.OwnMore
namespace Go.Proofs.Ybulkcako.Ex
open Go.RowKit
set_option linter.unusedVariables false

/-- The earlier entries' cells. -/
def Pre (w : World) (pb po p : Nat) (ks : Nat → ByteArray) (vs : Nat → Int) : Prop := ∀ j, j < p → w.cell? ⟨pb, po + j * 2, none⟩ = some (.string (ks j)) ∧ w.cell? ⟨pb, po + j * 2 + 1, none⟩ = some (.int .i64 (vs j))

def preF (ks : Nat → ByteArray) (vs : Nat → Int) : Nat → ByteArray → Option Int
  | 0 => fun _ => none
  | i + 1 => upd (preF ks vs i) (ks i) (vs i)

theorem pre_some {ks : Nat → ByteArray} {vs : Nat → Int} {x : ByteArray} : ∀ n, (preF ks vs n x).isSome = true ↔ ∃ i, i < n ∧ ks i = x
  | 0 => by simp [preF]
  | n + 1 => by
    by_cases e : x = ks n
    · subst e
      simp only [preF, upd, if_true, Option.isSome_some, true_iff]
      exact ⟨n, by omega, rfl⟩
    · simp only [preF, upd, e, if_false, pre_some n]
      constructor
      · rintro ⟨i, hi, h⟩; exact ⟨i, by omega, h⟩
      · rintro ⟨i, hi, h⟩
        by_cases c : i = n
        · subst c; exact absurd h.symm e
        · exact ⟨i, by omega, h⟩

/-- The strings of the series. -/
def SL (metric : ByteArray) (lk lw : Nat → ByteArray) : Nat → List ByteArray
  | 0 => [metric]
  | j + 1 => SL metric lk lw j ++ [lk j, lw j]

theorem SL_length {metric : ByteArray} {lk lw : Nat → ByteArray} : ∀ j, (SL metric lk lw j).length = 1 + 2 * j
  | 0 => rfl
  | j + 1 => by simp [SL, SL_length j]; omega

theorem SL_size {metric : ByteArray} {lk lw : Nat → ByteArray} (hm : metric.size ≤ maxLen) : ∀ q, (∀ j, j < q → (lk j).size ≤ maxLen ∧ (lw j).size ≤ maxLen) → ∀ x, x ∈ SL metric lk lw q → x.size ≤ maxLen
  | 0, _, x, h => by
    simp only [SL, List.mem_singleton] at h
    subst h
    exact hm
  | q + 1, hk, x, h => by
    simp only [SL, List.mem_append, List.mem_cons, List.not_mem_nil, or_false] at h
    rcases h with h | h | h
    · exact SL_size hm q (fun j hj => hk j (by omega)) x h
    · subst h; exact (hk q (by omega)).1
    · subst h; exact (hk q (by omega)).2

theorem add_in {f : ByteArray → Option Int} {metric : ByteArray} {lk lw : Nat → ByteArray} {x : ByteArray} : ∀ q, x ∈ SL metric lk lw q → addF f metric lk lw q x = some 0
  | 0, h => by
    simp only [SL, List.mem_singleton] at h
    subst h
    simp [addF, upd]
  | q + 1, h => by
    simp only [SL, List.mem_append, List.mem_cons, List.not_mem_nil, or_false] at h
    by_cases e1 : x = lw q
    · simp [addF, upd, e1]
    · by_cases e2 : x = lk q
      · simp [addF, upd, e2]
      · simp only [addF, upd, e1, e2, if_false]
        exact add_in q (by rcases h with h | h | h; exact h; exact absurd h e2; exact absurd h e1)

theorem add_out {f : ByteArray → Option Int} {metric : ByteArray} {lk lw : Nat → ByteArray} {x : ByteArray} : ∀ q, x ∉ SL metric lk lw q → addF f metric lk lw q x = f x
  | 0, h => by
    simp only [SL, List.mem_singleton] at h
    simp [addF, upd, h]
  | q + 1, h => by
    simp only [SL, List.mem_append, List.mem_cons, List.not_mem_nil, or_false, not_or] at h
    simp only [addF, upd, h.2.1, h.2.2, if_false]
    exact add_out q h.1

/-- The list as a function. -/
def gx (A : List ByteArray) (i : Nat) : ByteArray := A.getD i ⟨#[]⟩

theorem gx_some {A : List ByteArray} {i : Nat} (h : i < A.length) : A[i]? = some (gx A i) := by
  simp [gx, List.getD, h]

theorem gx_mem {A : List ByteArray} {i : Nat} (h : i < A.length) : gx A i ∈ A := List.mem_of_getElem? (gx_some h)

theorem memTo_gx (A : List ByteArray) (x : ByteArray) : memTo (gx A) x A.length = true ↔ x ∈ A := by
  constructor
  · intro hm
    obtain ⟨i, hi, rfl⟩ := (mem_iff _).1 hm
    exact gx_mem hi
  · intro h
    obtain ⟨i, hi⟩ := List.getElem?_of_mem h
    have hl : i < A.length := (List.getElem?_eq_some_iff.1 hi).1
    exact (mem_iff _).2 ⟨i, hl, by rw [gx_some hl] at hi; injection hi⟩

theorem dd_in {A : List ByteArray} {Q : ByteArray → Prop} {h : Nat → ByteArray} {i : Nat} (hA : ∀ s, s ∈ A ↔ Q s ∨ ∃ k, k < i ∧ h k = s) (hin : h i ∈ A) : ∀ s, s ∈ A ↔ Q s ∨ ∃ k, k < i + 1 ∧ h k = s := fun s => by
  rw [hA s]
  constructor
  · rintro (q | ⟨k, hk, e⟩)
    · exact .inl q
    · exact .inr ⟨k, by omega, e⟩
  · rintro (q | ⟨k, hk, e⟩)
    · exact .inl q
    · by_cases c : k = i
      · subst c; subst e; exact (hA _).1 hin
      · exact .inr ⟨k, by omega, e⟩

theorem dd_out {A : List ByteArray} {Q : ByteArray → Prop} {h : Nat → ByteArray} {i : Nat} (hA : ∀ s, s ∈ A ↔ Q s ∨ ∃ k, k < i ∧ h k = s) : ∀ s, s ∈ A ++ [h i] ↔ Q s ∨ ∃ k, k < i + 1 ∧ h k = s := fun s => by
  rw [List.mem_append, List.mem_singleton, hA s]
  constructor
  · rintro ((q | ⟨k, hk, e⟩) | e)
    · exact .inl q
    · exact .inr ⟨k, by omega, e⟩
    · exact .inr ⟨i, by omega, e.symm⟩
  · rintro (q | ⟨k, hk, e⟩)
    · exact .inl (.inl q)
    · by_cases c : k = i
      · subst c; exact .inr e.symm
      · exact .inl (.inr ⟨k, by omega, e⟩)

theorem dd_nodup {A : List ByteArray} {x : ByteArray} (h : A.Nodup) (hx : ¬ x ∈ A) : (A ++ [x]).Nodup := by
  rw [List.nodup_append]
  exact ⟨h, by simp, fun a ha b hb => by
    simp only [List.mem_singleton] at hb
    subst hb
    exact fun e => hx (e ▸ ha)⟩

theorem mem_gx {A : List ByteArray} {s : ByteArray} : (∃ k, k < A.length ∧ gx A k = s) ↔ s ∈ A :=
  ⟨fun ⟨k, hk, e⟩ => e ▸ gx_mem hk, fun h => by
    obtain ⟨i, hi⟩ := List.getElem?_of_mem h
    have hl : i < A.length := (List.getElem?_eq_some_iff.1 hi).1
    exact ⟨i, hl, by rw [gx_some hl] at hi; injection hi⟩⟩

/-- What holds of the world behind add. -/
structure Env (w : World) (pb po p : Nat) (ks : Nat → ByteArray) (vs : Nat → Int) (gb lb lo q : Nat) (lk lw : Nat → ByteArray) (T N : Nat) (f : ByteArray → Option Int) : Prop where
  pre : Pre w pb po p ks vs
  lab : Lab w gb 0 q lk lw
  labels : Lab w lb lo q lk lw
  map : ∃ D, MapAt w T N D ∧ Rep D f

section
variable {w w' : World} {pb po p : Nat} {ks : Nat → ByteArray} {vs : Nat → Int} {gb lb lo q : Nat} {lk lw : Nat → ByteArray} {T N : Nat} {f : ByteArray → Option Int}

theorem Pre.below (h : Pre w pb po p ks vs) (hb : Below w.heap.size w w') : Pre w' pb po p ks vs := fun j hj => by
  obtain ⟨h1, h2⟩ := h j hj
  have hl : pb < w.heap.size := World.block_lt_of_cell? _ _ h1
  exact ⟨(hb.cell (p := ⟨pb, _, none⟩) hl).trans h1, (hb.cell (p := ⟨pb, _, none⟩) hl).trans h2⟩

theorem Lab.below (h : Lab w lb lo q lk lw) (hb : Below w.heap.size w w') : Lab w' lb lo q lk lw := fun j hj => by
  obtain ⟨h1, h2⟩ := h j hj
  have hl : lb < w.heap.size := World.block_lt_of_cell? _ _ h1
  exact ⟨(hb.cell (p := ⟨lb, _, none⟩) hl).trans h1, (hb.cell (p := ⟨lb, _, none⟩) hl).trans h2⟩

theorem Env.below (h : Env w pb po p ks vs gb lb lo q lk lw T N f) (hb : Below w.heap.size w w') : Env w' pb po p ks vs gb lb lo q lk lw T N f := by
  obtain ⟨D, hm, hr⟩ := h.map
  exact ⟨h.pre.below hb, h.lab.below hb, h.labels.below hb, D, hm.of_block (hb.block _ hm.lt), hr⟩

/-- Through a world in which only T turned. -/
theorem Pre.tab (h : Pre w pb po p ks vs) {n : Nat} (ht : Tab w w' T n f) (hT : ∃ D m, MapAt w T m D) : Pre w' pb po p ks vs := fun j hj => by
  obtain ⟨h1, h2⟩ := h j hj
  have hl : pb < w.heap.size := World.block_lt_of_cell? _ _ h1
  obtain ⟨D, m, hm⟩ := hT
  have hne : pb ≠ T := hm.ne_cell h1
  exact ⟨(ht.cell (a := ⟨pb, _, none⟩) hl hne).trans h1, (ht.cell (a := ⟨pb, _, none⟩) hl hne).trans h2⟩

theorem Lab.tab (h : Lab w lb lo q lk lw) {n : Nat} (ht : Tab w w' T n f) (hT : ∃ D m, MapAt w T m D) : Lab w' lb lo q lk lw := fun j hj => by
  obtain ⟨h1, h2⟩ := h j hj
  have hl : lb < w.heap.size := World.block_lt_of_cell? _ _ h1
  obtain ⟨D, m, hm⟩ := hT
  have hne : lb ≠ T := hm.ne_cell h1
  exact ⟨(ht.cell (a := ⟨lb, _, none⟩) hl hne).trans h1, (ht.cell (a := ⟨lb, _, none⟩) hl hne).trans h2⟩
end

/-- The cells of a row of strings. -/
def Row (w : World) (g : Nat) (A : List ByteArray) : Prop := ∀ i, i < A.length → w.cell? ⟨g, 0 + i, none⟩ = some (.string (gx A i))

theorem Row.below {w w' : World} {g : Nat} {A : List ByteArray} (h : Row w g A) (hb : Below w.heap.size w w') : Row w' g A := fun i hi =>
  (hb.cell (p := ⟨g, _, none⟩) (World.block_lt_of_cell? _ _ (h i hi))).trans (h i hi)

theorem row_own {w : World} {base g cap : Nat} {A : List ByteArray} (h : w.ownsRow base 9 1 (.slice (some ⟨g, 0, none⟩) A.length cap) A.length (A.map .string)) : Row w g A := fun i hi => by
  rw [Nat.zero_add, h.cellAt i (by omega)]
  simp [gx_some hi]

end Go.Proofs.Ybulkcako.Ex
