/-
  WHERE THE SEARCH's STATE LIES, Go's side: the four transactions (blocks B+2 .. B+5), the request q (n0), the root's request (n0+1), the search (n0+2), the queue's walk (n0+3).
-/
import Derived.Test.YbulkcahwDoorRows
import Derived.Test.YbulkcahwDoorPlain
import Derived.WalkKit
import Derived.Deep.OwnRows
import Derived.Deep.LoopGhost
import Derived.Deep.Light
import Derived.Deep.QuietTactic
import Derived.BigQuiet
import Derived.WalkSmall
namespace Go.Proofs.YbulkcahwDoor.Ho
open Go.RowKit
set_option linter.unusedVariables false

theorem hide {p : Prop} (h : p) : Hid p := h

/-- A block of cells that may be written. -/
def Free (w : World) (b : Nat) : Prop := ∃ c t, w.heap[b]? = some (.cells c t (0, 0))

theorem Free.frozen {w : World} {b : Nat} (h : Free w b) (o : Nat) : w.frozen? ⟨b, o, none⟩ = false := by
  obtain ⟨c, t, hb⟩ := h
  simp [World.frozen?, hb]
theorem Free.lt {w : World} {b : Nat} (h : Free w b) : b < w.heap.size := by
  obtain ⟨c, t, hb⟩ := h
  exact (Array.getElem?_eq_some_iff.1 hb).1
theorem Free.of_block {w w' : World} {b : Nat} (h : Free w b) (e : w'.heap[b]? = w.heap[b]?) : Free w' b := by
  obtain ⟨c, t, hb⟩ := h
  exact ⟨c, t, e.trans hb⟩
theorem Free.set {w : World} {b : Nat} (h : Free w b) (b' o' : Nat) (v : Value) : Free (w.setCell ⟨b', o', none⟩ v) b := by
  obtain ⟨c, t, hb⟩ := h
  by_cases e : b = b'
  · subst e
    exact ⟨c.setIfInBounds o' v, t, by simp [World.setCell, Array.getElem?_modify, hb]⟩
  · exact ⟨c, t, by rw [Below.heap_setCell _ _ _ _ e]; exact hb⟩
theorem Free.alloc {w : World} {b : Nat} (h : Free w b) (o : Obj) : Free (w.alloc o) b := h.of_block (Below.heap_alloc _ _ _ h.lt)
theorem Free.new (w : World) (c : Array Value) (t : TypeId) : Free (w.alloc (.cells c t)) w.heap.size := ⟨c, t, by show (w.heap.push _)[w.heap.size]? = _; simp⟩

theorem cset {w : World} {b o b' o' : Nat} {v u : Value} (h : w.cell? ⟨b, o, none⟩ = some v) (hne : b ≠ b' ∨ o ≠ o') : (w.setCell ⟨b', o', none⟩ u).cell? ⟨b, o, none⟩ = some v := by
  rw [World.cell?_setCell_other _ _ _ _ (fun e => by have e1 := congrArg Addr.block e; have e2 := congrArg Addr.off e; simp at e1 e2; omega)]
  exact h
theorem csame {w : World} {b o : Nat} {v u : Value} (h : w.cell? ⟨b, o, none⟩ = some v) : (w.setCell ⟨b, o, none⟩ u).cell? ⟨b, o, none⟩ = some u := by
  exact World.cell?_setCell_same w ⟨b, o, none⟩ u h
theorem calloc {w : World} {b o : Nat} {v : Value} (h : w.cell? ⟨b, o, none⟩ = some v) (x : Obj) : (w.alloc x).cell? ⟨b, o, none⟩ = some v := by
  rw [World.cell?_alloc_lt _ _ _ (World.block_lt_of_cell? _ _ h)]
  exact h
theorem ckeep {w w' : World} {b o : Nat} {v : Value} (h : w.cell? ⟨b, o, none⟩ = some v) (e : w'.heap[b]? = w.heap[b]?) : w'.cell? ⟨b, o, none⟩ = some v :=
  (World.cell?_of_block (w := w) e).trans h

/-- The one cell of a slice that was just built. -/
theorem one_new {W : World} {n : Nat} (hn : W.heap.size = n) (x : Value) (t : TypeId) : ∀ j u, [x][j]? = some u → (W.alloc (.cells #[x] t)).cell? ((⟨n, 0, none⟩ : Addr).add j) = some u := by
  intro j u hj
  match j, hj with
  | 0, hj =>
    simp at hj
    subst hj
    rw [Addr.add_lit, ← hn]
    exact (World.rowIs_alloc W #[x] t (fun _ => x) (fun i hi => by simp at hi; subst hi; rfl)).cell (i := 0) (by simp)

def ptr (b : Nat) : Value := .pointer (some ⟨b, 0, none⟩)

/-- The blocks that Go's side writes. -/
def Mine (B n0 k : Nat) : Prop := (B + 2 ≤ k ∧ k < B + 6) ∨ k = n0 + 2 ∨ k = n0 + 3

/-- What Go's side has left alone: all that lay below n0 + 4 but for its own blocks. -/
structure Fr (B n0 : Nat) (w w' : World) : Prop where
  os : w'.os = w.os
  tape : w'.tape = w.tape
  output : w'.output = w.output
  size : w.heap.size ≤ w'.heap.size
  block : ∀ k, k < n0 + 4 → ¬ Mine B n0 k → w'.heap[k]? = w.heap[k]?
  other : ∀ k c t f, n0 + 4 ≤ k → w.heap[k]? = some (.cells c t f) → t ≠ 25 → w'.heap[k]? = w.heap[k]?

theorem Fr.refl (B n0 : Nat) (w : World) : Fr B n0 w w := ⟨rfl, rfl, rfl, Nat.le_refl _, fun _ _ _ => rfl, fun _ _ _ _ _ _ _ => rfl⟩
theorem Fr.trans {B n0 : Nat} {a b c : World} (h : Fr B n0 a b) (k : Fr B n0 b c) : Fr B n0 a c :=
  ⟨k.os.trans h.os, k.tape.trans h.tape, k.output.trans h.output, Nat.le_trans h.size k.size, fun i h1 h2 => (k.block i h1 h2).trans (h.block i h1 h2), fun i x t f h1 h2 h3 => (k.other i x t f h1 ((h.other i x t f h1 h2 h3).trans h2) h3).trans (h.other i x t f h1 h2 h3)⟩
theorem Fr.set {B n0 : Nat} {a w : World} (h : Fr B n0 a w) {b o : Nat} (hb : Mine B n0 b) (hl : B + 7 ≤ n0) (v : Value) : Fr B n0 a (w.setCell ⟨b, o, none⟩ v) :=
  h.trans ⟨rfl, rfl, rfl, by simp, fun k _ hk => Below.heap_setCell _ _ _ _ (fun e => hk (by rw [e]; exact hb)), fun k _ _ _ hk _ _ => Below.heap_setCell _ _ _ _ (fun e => by simp at e; unfold Mine at hb; omega)⟩
theorem Fr.alloc {B n0 : Nat} {a w : World} (h : Fr B n0 a w) (hn : n0 + 4 ≤ w.heap.size) (o : Obj) : Fr B n0 a (w.alloc o) :=
  h.trans ⟨rfl, rfl, rfl, by simp, fun k hk _ => Below.heap_alloc _ _ _ (by omega), fun k c t f _ hc _ => Below.heap_alloc _ _ _ (Array.getElem?_eq_some_iff.1 hc).1⟩
theorem Fr.drewN {B n0 : Nat} {a w : World} (h : Fr B n0 a w) (m : Nat) : Fr B n0 a (w.drewN m) := ⟨h.os, h.tape, h.output, h.size, h.block, h.other⟩
theorem Fr.drew {B n0 : Nat} {a w : World} (h : Fr B n0 a w) : Fr B n0 a w.drew := ⟨h.os, h.tape, h.output, h.size, h.block, h.other⟩
theorem Fr.grown {B n0 : Nat} {a w w' : World} {row : Option Nat} (h : Fr B n0 a w) (hg : w.grownBy w' row) (hn : n0 + 4 ≤ w.heap.size) (hr : ∀ k, row = some k → n0 + 4 ≤ k ∧ ∃ c, w.heap[k]? = some (.cells c 25 (0, 0))) : Fr B n0 a w' :=
  h.trans ⟨hg.os, hg.tape, hg.output, hg.size, fun k hk _ => hg.block k (by omega) (fun e => by have := (hr k e.symm).1; omega), fun k c t f _ hc ht => hg.block k (Array.getElem?_eq_some_iff.1 hc).1 (fun e => by
    obtain ⟨_, c', hc'⟩ := hr k e.symm
    rw [hc] at hc'
    simp at hc'
    exact ht hc'.2.1)⟩
theorem own_row {w : World} {base e size n : Nat} {v : Value} {xs : List Value} (h : w.ownsRow base e size v n xs) : ∀ k, v.ownBlock = some k → base ≤ k ∧ ∃ c, w.heap[k]? = some (.cells c e (0, 0)) := by
  intro k hk
  rcases h.2 with ⟨rfl, _⟩ | ⟨g, cap, cur, rfl, hb, hg, _⟩
  · simp [Value.ownBlock] at hk
  · simp only [Value.ownBlock, Option.some.injEq] at hk
    subst hk
    exact ⟨hb, cur, hg⟩
theorem Fr.cell {B n0 : Nat} {a w : World} (h : Fr B n0 a w) {b o : Nat} {v : Value} (hb : b < n0 + 4) (hm : ¬ Mine B n0 b) (hc : a.cell? ⟨b, o, none⟩ = some v) : w.cell? ⟨b, o, none⟩ = some v := ckeep hc (h.block b hb hm)

def tval (x : Bool) : Value := .int .u64 (if x then 7 else 0)
def skipV (B : Nat) : Option Nat → Value
  | some u => ptr (B + 2 + u)
  | none => .pointer none

structure GoS (w : World) (B n0 mo sr : Nat) (tt : Bool) (s : St) (up : Nat) : Prop where
  lay : B + 7 ≤ n0
  size : n0 + 4 ≤ w.heap.size
  free : ∀ k, Mine B n0 k → Free w k
  tx : ∀ i, i < 4 → w.cell? ⟨B + 2 + i, 11, none⟩ = some (tval (s.seen i))
  s0 : w.cell? ⟨n0 + 2, 0, none⟩ = some (ptr (n0 + 1))
  s2 : w.cell? ⟨n0 + 2, 2, none⟩ = some (.bool false)
  s4 : w.cell? ⟨n0 + 2, 4, none⟩ = some (.bool tt)
  s5 : w.cell? ⟨n0 + 2, 5, none⟩ = some (.bool s.back)
  s6 : w.cell? ⟨n0 + 2, 6, none⟩ = some (.int .u64 7)
  s7 : ∃ v, w.cell? ⟨n0 + 2, 7, none⟩ = some v ∧ w.ownsRow (n0 + 4) 25 1 v s.stk.length (s.stk.map fun u => ptr (B + 2 + u))
  r0 : w.cell? ⟨n0 + 1, 0, none⟩ = some (ptr (B + 2))
  m0 : w.cell? ⟨n0 + 3, mo, none⟩ = some (.int .u64 (sr : Nat))
  m1 : w.cell? ⟨n0 + 3, mo + 1, none⟩ = some (.int .i64 (up : Nat))
  m2 : w.cell? ⟨n0 + 3, mo + 2, none⟩ = some (skipV B s.skip)
  m3 : w.cell? ⟨n0 + 3, mo + 3, none⟩ = some (.int .i64 s.skAt)

section
variable {w : World} {B n0 mo sr up : Nat} {tt : Bool} {s : St}

theorem own_set {w : World} {base e size n : Nat} {v : Value} {xs : List Value} (h : w.ownsRow base e size v n xs) {b o : Nat} (hb : b < base) (u : Value) : (w.setCell ⟨b, o, none⟩ u).ownsRow base e size v n xs :=
  ownsRow_setCell_below h (a := ⟨b, o, none⟩) hb u

theorem GoS.drewN (h : GoS w B n0 mo sr tt s up) (m : Nat) : GoS (w.drewN m) B n0 mo sr tt s up :=
  ⟨h.lay, h.size, h.free, h.tx, h.s0, h.s2, h.s4, h.s5, h.s6, h.s7, h.r0, h.m0, h.m1, h.m2, h.m3⟩

theorem GoS.drew (h : GoS w B n0 mo sr tt s up) : GoS w.drew B n0 mo sr tt s up :=
  ⟨h.lay, h.size, h.free, h.tx, h.s0, h.s2, h.s4, h.s5, h.s6, h.s7, h.r0, h.m0, h.m1, h.m2, h.m3⟩

theorem GoS.alloc (h : GoS w B n0 mo sr tt s up) (o : Obj) : GoS (w.alloc o) B n0 mo sr tt s up := by
  obtain ⟨v, h7, hown⟩ := h.s7
  exact ⟨h.lay, by have := h.size; simp; omega, fun k hk => (h.free k hk).alloc o, fun i hi => calloc (h.tx i hi) o, calloc h.s0 o, calloc h.s2 o, calloc h.s4 o, calloc h.s5 o, calloc h.s6 o, ⟨v, calloc h7 o, hown.alloc o⟩, calloc h.r0 o, calloc h.m0 o, calloc h.m1 o, calloc h.m2 o, calloc h.m3 o⟩

/-- A store into a block from n0 + 4 on that is no row of pointers. -/
theorem GoS.setBack (h : GoS w B n0 mo sr tt s up) (b : Bool) : GoS (w.setCell ⟨n0 + 2, 5, none⟩ (.bool b)) B n0 mo sr tt { s with back := b } up := by
  obtain ⟨v, h7, hown⟩ := h.s7
  have hl := h.lay
  exact ⟨h.lay, by have := h.size; simpa using this, fun k hk => (h.free k hk).set _ _ _, fun i hi => cset (h.tx i hi) (by omega), cset h.s0 (by omega), cset h.s2 (by omega), cset h.s4 (by omega), csame h.s5, cset h.s6 (by omega), ⟨v, cset h7 (by omega), own_set hown (by omega) _⟩, cset h.r0 (by omega), cset h.m0 (by omega), cset h.m1 (by omega), cset h.m2 (by omega), cset h.m3 (by omega)⟩

theorem GoS.setSeen (h : GoS w B n0 mo sr tt s up) {u : Nat} (hu : u < 4) : GoS (w.setCell ⟨B + 2 + u, 11, none⟩ (.int .u64 7)) B n0 mo sr tt { s with seen := fun i => if i = u then true else s.seen i } up := by
  obtain ⟨v, h7, hown⟩ := h.s7
  have hl := h.lay
  refine ⟨h.lay, by have := h.size; simpa using this, fun k hk => (h.free k hk).set _ _ _, fun i hi => ?_, cset h.s0 (by omega), cset h.s2 (by omega), cset h.s4 (by omega), cset h.s5 (by omega), cset h.s6 (by omega), ⟨v, cset h7 (by omega), own_set hown (by omega) _⟩, cset h.r0 (by omega), cset h.m0 (by omega), cset h.m1 (by omega), cset h.m2 (by omega), cset h.m3 (by omega)⟩
  by_cases e : i = u
  · subst e
    simpa [tval] using csame (h.tx i hi)
  · simpa [e] using cset (h.tx i hi) (u := .int .u64 7) (b' := B + 2 + u) (o' := 11) (by omega)

/-- Behind 'stack = append(stack, u)'. -/
theorem GoS.push {w1 : World} {v' v : Value} {u : Nat} (h : GoS w B n0 mo sr tt s up) (h7 : w.cell? ⟨n0 + 2, 7, none⟩ = some v) (hv : ∀ k, v.ownBlock = some k → n0 + 4 ≤ k) (hown : w1.ownsRow (n0 + 4) 25 1 v' (s.stk.length + 1) ((s.stk.map fun u => ptr (B + 2 + u)) ++ [ptr (B + 2 + u)]))
    (hg : w.grownBy w1 v.ownBlock) : GoS (w1.setCell ⟨n0 + 2, 7, none⟩ v') B n0 mo sr tt { s with stk := s.stk ++ [u] } up := by
  have hl := h.lay
  have hsz := h.size
  have keep : ∀ k, k < n0 + 4 → w1.heap[k]? = w.heap[k]? := fun k hk => hg.block k (by omega) (fun e => by have := hv k e.symm; omega)
  have hc : ∀ {b o : Nat} {x : Value}, w.cell? ⟨b, o, none⟩ = some x → b < n0 + 4 → b ≠ n0 + 2 ∨ o ≠ 7 → (w1.setCell ⟨n0 + 2, 7, none⟩ v').cell? ⟨b, o, none⟩ = some x := fun hx hb hne => cset (ckeep hx (keep _ hb)) hne
  refine ⟨h.lay, by have := hg.size; simp; omega, fun k hk => ((h.free k hk).of_block (keep k ?_)).set _ _ _, fun i hi => hc (h.tx i hi) (by omega) (by omega), hc h.s0 (by omega) (by omega), hc h.s2 (by omega) (by omega), hc h.s4 (by omega) (by omega), hc h.s5 (by omega) (by omega), hc h.s6 (by omega) (by omega), ⟨v', csame (ckeep h7 (keep _ (by omega))), ?_⟩, hc h.r0 (by omega) (by omega), hc h.m0 (by omega) (by omega), hc h.m1 (by omega) (by omega), hc h.m2 (by omega) (by omega), hc h.m3 (by omega) (by omega)⟩
  · unfold Mine at hk; omega
  · have := own_set hown (b := n0 + 2) (o := 7) (by omega) v'
    simpa using this

theorem GoS.setSkip (h : GoS w B n0 mo sr tt s up) (x : Option Nat) : GoS (w.setCell ⟨n0 + 3, mo + 2, none⟩ (skipV B x)) B n0 mo sr tt { s with skip := x } up := by
  obtain ⟨v, h7, hown⟩ := h.s7
  have hl := h.lay
  exact ⟨h.lay, by have := h.size; simpa using this, fun k hk => (h.free k hk).set _ _ _, fun i hi => cset (h.tx i hi) (by omega), cset h.s0 (by omega), cset h.s2 (by omega), cset h.s4 (by omega), cset h.s5 (by omega), cset h.s6 (by omega), ⟨v, cset h7 (by omega), own_set hown (by omega) _⟩, cset h.r0 (by omega), cset h.m0 (by omega), cset h.m1 (by omega), csame h.m2, cset h.m3 (by omega)⟩

theorem GoS.setSkAt (h : GoS w B n0 mo sr tt s up) (x : Int) : GoS (w.setCell ⟨n0 + 3, mo + 3, none⟩ (.int .i64 x)) B n0 mo sr tt { s with skAt := x } up := by
  obtain ⟨v, h7, hown⟩ := h.s7
  have hl := h.lay
  exact ⟨h.lay, by have := h.size; simpa using this, fun k hk => (h.free k hk).set _ _ _, fun i hi => cset (h.tx i hi) (by omega), cset h.s0 (by omega), cset h.s2 (by omega), cset h.s4 (by omega), cset h.s5 (by omega), cset h.s6 (by omega), ⟨v, cset h7 (by omega), own_set hown (by omega) _⟩, cset h.r0 (by omega), cset h.m0 (by omega), cset h.m1 (by omega), cset h.m2 (by omega), csame h.m3⟩

theorem GoS.setSr (h : GoS w B n0 mo sr tt s up) (x : Nat) : GoS (w.setCell ⟨n0 + 3, mo, none⟩ (.int .u64 (x : Nat))) B n0 mo x tt s up := by
  obtain ⟨v, h7, hown⟩ := h.s7
  have hl := h.lay
  exact ⟨h.lay, by have := h.size; simpa using this, fun k hk => (h.free k hk).set _ _ _, fun i hi => cset (h.tx i hi) (by omega), cset h.s0 (by omega), cset h.s2 (by omega), cset h.s4 (by omega), cset h.s5 (by omega), cset h.s6 (by omega), ⟨v, cset h7 (by omega), own_set hown (by omega) _⟩, cset h.r0 (by omega), csame h.m0, cset h.m1 (by omega), cset h.m2 (by omega), cset h.m3 (by omega)⟩

/-- A store into q. -/
theorem GoS.setQ (h : GoS w B n0 mo sr tt s up) (o : Nat) (x : Value) : GoS (w.setCell ⟨n0, o, none⟩ x) B n0 mo sr tt s up := by
  obtain ⟨v, h7, hown⟩ := h.s7
  have hl := h.lay
  exact ⟨h.lay, by have := h.size; simpa using this, fun k hk => (h.free k hk).set _ _ _, fun i hi => cset (h.tx i hi) (by omega), cset h.s0 (by omega), cset h.s2 (by omega), cset h.s4 (by omega), cset h.s5 (by omega), cset h.s6 (by omega), ⟨v, cset h7 (by omega), own_set hown (by omega) _⟩, cset h.r0 (by omega), cset h.m0 (by omega), cset h.m1 (by omega), cset h.m2 (by omega), cset h.m3 (by omega)⟩

theorem GoS.setUp (h : GoS w B n0 mo sr tt s up) (x : Nat) : GoS (w.setCell ⟨n0 + 3, mo + 1, none⟩ (.int .i64 (x : Nat))) B n0 mo sr tt s x := by
  obtain ⟨v, h7, hown⟩ := h.s7
  have hl := h.lay
  exact ⟨h.lay, by have := h.size; simpa using this, fun k hk => (h.free k hk).set _ _ _, fun i hi => cset (h.tx i hi) (by omega), cset h.s0 (by omega), cset h.s2 (by omega), cset h.s4 (by omega), cset h.s5 (by omega), cset h.s6 (by omega), ⟨v, cset h7 (by omega), own_set hown (by omega) _⟩, cset h.r0 (by omega), cset h.m0 (by omega), csame h.m1, cset h.m2 (by omega), cset h.m3 (by omega)⟩

end
end Go.Proofs.YbulkcahwDoor.Ho
