/-
  WHERE AN occupancy LIES: a row of slices (type 33), each leading to a row of words (type 35) of its own.
-/
import Derived.Test.YbulkcahiRows
import Derived.Test.YbulkcahiOccPlain
import Derived.WalkKit
import Derived.Deep.OwnRows
namespace Go.Proofs.Ybulkcahi.Occ
open Go.RowKit

/-- But for the blocks of S the world w' is as w was. -/
structure Turned (S : Nat → Prop) (w w' : World) : Prop where
  os : w'.os = w.os
  tape : w'.tape = w.tape
  output : w'.output = w.output
  size : w'.heap.size = w.heap.size
  block : ∀ k, ¬ S k → w'.heap[k]? = w.heap[k]?

theorem Turned.refl (S : Nat → Prop) (w : World) : Turned S w w := ⟨rfl, rfl, rfl, rfl, fun _ _ => rfl⟩
theorem Turned.trans {S : Nat → Prop} {a b c : World} (h : Turned S a b) (k : Turned S b c) : Turned S a c :=
  ⟨k.os.trans h.os, k.tape.trans h.tape, k.output.trans h.output, k.size.trans h.size, fun i hi => (k.block i hi).trans (h.block i hi)⟩
theorem Turned.setCell {S : Nat → Prop} {a w : World} (h : Turned S a w) {p : Addr} (hp : S p.block) (u : Value) : Turned S a (w.setCell p u) :=
  h.trans ⟨rfl, rfl, rfl, by simp, fun k hk => Below.heap_setCell _ _ _ _ (fun e => hk (by rw [e]; exact hp))⟩
theorem Turned.below {S : Nat → Prop} {a w : World} {B : Nat} (h : Turned S a w) (hS : ∀ k, S k → B ≤ k) : Below B a w :=
  ⟨h.os, h.tape, h.output, by rw [h.size]; exact Nat.le_refl _, fun k hk => h.block k (fun e => by have := hS k e; omega)⟩
theorem Turned.row {S : Nat → Prop} {a w : World} (h : Turned S a w) {b t n : Nat} {f : Nat → Value} (hr : a.rowIs b t n f) (hb : ¬ S b) : w.rowIs b t n f :=
  hr.of_block (h.block b hb)

structure Occ (w : World) (B hb L n : Nat) (bl : Nat → Nat) (X : Nat → Nat → Nat) : Prop where
  bhb : B ≤ hb
  lt : hb < w.heap.size
  hd : ∀ l, l < L → w.cell? ⟨hb, l, none⟩ = some (.slice (some ⟨bl l, 0, none⟩) (M n (l + 1)) (M n (l + 1)))
  row : ∀ l, l < L → w.rowIs (bl l) 35 (M n (l + 1)) (fun i => .int .u64 (X l i : Nat))
  inj : ∀ l l', l < L → l' < L → bl l = bl l' → l = l'
  off : ∀ l, l < L → bl l ≠ hb
  base : ∀ l, l < L → B ≤ bl l
  small : Small n L X

section
variable {w : World} {B hb L n : Nat} {bl : Nat → Nat} {X : Nat → Nat → Nat}

theorem Occ.set (h : Occ w B hb L n bl X) {l j y : Nat} (hl : l < L) (hy : y < 18446744073709551616) :
    Occ (w.setCell ⟨bl l, j, none⟩ (.int .u64 (y : Nat))) B hb L n bl (upd X l j y) := by
  refine ⟨h.bhb, by simpa using h.lt, fun m hm => ?_, fun m hm => ?_, h.inj, h.off, h.base, fun m hm i hi => ?_⟩
  · rw [World.cell?_setCell_other _ _ _ _ (fun e => h.off l hl (congrArg Addr.block e))]
    exact h.hd m hm
  · by_cases e : m = l
    · subst e
      refine ((h.row m hm).set j _).congr fun i _ => ?_
      by_cases ei : i = j
      · subst ei; simp [upd]
      · simp [upd, ei]
    · rw [upd_level _ _ _ _ _ e]
      exact (h.row m hm).setOther (fun eb => e (h.inj m l hm hl eb)) _
  · unfold upd
    split
    · exact hy
    · exact h.small m hm i hi

/-- The same elsewhere. -/
theorem Occ.kept {S : Nat → Prop} {w' : World} (h : Occ w B hb L n bl X) (ht : Turned S w w') (hhb : ¬ S hb) (hbl : ∀ l, l < L → ¬ S (bl l)) : Occ w' B hb L n bl X :=
  ⟨h.bhb, by rw [ht.size]; exact h.lt, fun m hm => (World.cell?_of_block (w := w) (ht.block hb hhb)).trans (h.hd m hm), fun m hm => (h.row m hm).of_block (ht.block _ (hbl m hm)), h.inj, h.off, h.base, h.small⟩

/-- The levels' own blocks. -/
def Own (L : Nat) (bl : Nat → Nat) : Nat → Prop := fun k => ∃ l, l < L ∧ k = bl l

end
end Go.Proofs.Ybulkcahi.Occ
