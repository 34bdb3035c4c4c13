/-
  THE PLAIN LAW of a map of the call's own from strings to integers: what it holds, as a function, and how many.
-/
import Derived.Test.YbulkcakoRows
import Derived.WalkKit
import Derived.Maps.OwnSet
import Derived.Maps.Views
namespace Go.Proofs.Ybulkcako.Ex
set_option linter.unusedVariables false

abbrev kl (s : ByteArray) : Lit := .string s.data.toList

theorem kl_ne {a b : ByteArray} (h : a ≠ b) : kl a ≠ kl b := by
  intro e
  simp only [kl, Lit.string.injEq] at e
  apply h
  cases a; cases b
  simp only [ByteArray.mk.injEq]
  exact Array.toList_inj.1 e

theorem kl_key (a : ByteArray) : WideAt.IsKeyLit (kl a) := by trivial

/-- The datum D holds f. -/
structure Rep (D : DataW Unit) (f : ByteArray → Option Int) : Prop where
  tidy : Maps.Tidy D
  has : ∀ s, Maps.has D (kl s) = (f s).isSome
  val : ∀ s v, f s = some v → ∀ z, D.atKey (kl s) z = .lit (.int .i64 v)
  len : ∃ L : List ByteArray, L.Nodup ∧ (∀ s, s ∈ L ↔ (f s).isSome = true) ∧ Maps.size D = L.length

def upd (f : ByteArray → Option Int) (k : ByteArray) (v : Int) : ByteArray → Option Int := fun s => if s = k then some v else f s

theorem rep_empty : Rep (.map []) (fun _ => none) := ⟨Maps.tidy_empty, fun s => rfl, fun s v h => (by cases h), ⟨[], List.nodup_nil, fun s => (by simp), rfl⟩⟩

theorem Rep.put {D : DataW Unit} {f : ByteArray → Option Int} (h : Rep D f) (k : ByteArray) (v : Int) : Rep (D.put (kl k) (.lit (.int .i64 v))) (upd f k v) := by
  refine ⟨h.tidy.put (kl_key k) _, fun s => ?_, fun s u hs z => ?_, ?_⟩
  · by_cases e : s = k
    · subst e; simp [upd, Maps.has_put_same h.tidy.isMap (kl_key s)]
    · rw [Maps.has_put_other (kl_ne e), h.has s]; simp [upd, e]
  · by_cases e : s = k
    · subst e
      simp only [upd, if_true, Option.some.injEq] at hs
      subst hs
      exact Maps.atKey_put_same h.tidy.isMap (kl_key s) _ _
    · simp only [upd, e, if_false] at hs
      rw [Maps.atKey_put_other (kl_ne e)]
      exact h.val s u hs z
  · obtain ⟨L, hn, hm, hl⟩ := h.len
    rw [Maps.size_put h.tidy, h.has k]
    by_cases c : (f k).isSome = true
    · refine ⟨L, hn, fun s => ?_, by rw [if_pos c]; exact hl⟩
      by_cases e : s = k
      · subst e; simp [upd, (hm s).2 c]
      · simp [upd, e, hm s]
    · refine ⟨k :: L, List.nodup_cons.2 ⟨fun q => c ((hm k).1 q), hn⟩, fun s => ?_, by rw [if_neg c, hl]; rfl⟩
      by_cases e : s = k
      · subst e; simp [upd]
      · simp [upd, e, hm s]

theorem toList_inj {a b : ByteArray} (h : a.toList = b.toList) : a = b := by
  rw [ByteArray.toList_eq, ByteArray.toList_eq] at h
  cases a; cases b
  simp_all

theorem seq_beq (a b : ByteArray) : (a.toList == b.toList) = decide (a = b) := by
  by_cases h : a = b
  · subst h; simp
  · simp only [h, decide_false]
    exact beq_eq_false_iff_ne.2 fun e => h (toList_inj e)

/-- Two lists without repeats that hold the same are as long. -/
theorem same_length {L M : List ByteArray} (h1 : L.Nodup) (h2 : M.Nodup) (h : ∀ s, s ∈ L ↔ s ∈ M) : L.length = M.length :=
  ((List.perm_ext_iff_of_nodup h1 h2).2 h).length_eq

end Go.Proofs.Ybulkcako.Ex
