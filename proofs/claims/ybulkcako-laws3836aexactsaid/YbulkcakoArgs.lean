/-
  LawS3836AExact: its slices as they came in.
-/
import Derived.Test.YbulkcakoEnv
import Derived.Deep.Slices
import Derived.ChangeArms
namespace Go.Proofs.Ybulkcako.Ex
open Go.RowKit Go.ChangeShapes Go.WideShapes
set_option linter.unusedVariables false

theorem cells27 : Yba.prog.cellsOf 27 = 2 := by kernel_rfl
theorem cells33 : Yba.prog.cellsOf 33 = 2 := by kernel_rfl
theorem cells9 : Yba.prog.cellsOf 9 = 1 := by kernel_rfl
theorem cells3 : Yba.prog.cellsOf 3 = 1 := by kernel_rfl

set_option maxRecDepth 10000 in
theorem open_pre {H : Type} {enc : TypeId × Value → H} {w : World} {base : Nat} {spare : Nat → Bool} {held : Bool} {fuel : Nat} {x : DataW H × List MemPlace} {a0 : Option Addr} {len cap : Nat}
    (h : DataW.trod enc Yba.prog w base spare held fuel 22 [.slice a0 len cap] = some x) :
    ∃ (ob oo : Nat) (ss : Nat → ByteArray) (lv : Nat → Int), (0 < len → a0 = some ⟨ob, oo, none⟩) ∧ Pre w ob oo len ss lv ∧ (∀ i, i < len → (ss i).size ≤ maxLen) ∧ ∀ i, i < len → (Lit.int .i64 (lv i)).wf = true := by
  rcases Deep.open_slice Yba.underlying22 h with ⟨h0, _⟩ | ⟨x0, l, c, m, n, Dd, Pl, hcs, hb, hl, hm, hmm, _, hx⟩
  · simp at h0
    obtain ⟨rfl, rfl, rfl⟩ := h0
    exact ⟨0, 0, fun _ => ⟨#[]⟩, fun _ => 0, fun h => absurd h (by omega), fun j hj => absurd hj (by omega), fun j hj => absurd hj (by omega), fun j hj => absurd hj (by omega)⟩
  · simp at hcs
    obtain ⟨rfl, rfl, rfl⟩ := hcs
    have hlm : len ≤ m := by rw [hmm]; split <;> omega
    have each : ∀ i, i < len → ∃ g : ByteArray × Int, w.cell? (x0.add (i * 2)) = some (.string g.1) ∧ w.cell? (x0.add (i * 2 + 1)) = some (.int .i64 g.2) ∧ g.1.size ≤ maxLen ∧ (Lit.int .i64 g.2).wf = true := by
      intro i hi
      obtain ⟨cs', h1, h2⟩ := hx i (by omega)
      rw [cells27] at h1
      obtain ⟨_, hlen, hcell⟩ := World.cells?_some h1
      obtain ⟨xs, k, hk, hxy, _, hxl, hf⟩ := DataW.trod_struct Yba.underlying27 h2
      have hxl' : xs.length = 2 := hxl
      clear hxl
      match xs, hxl', cs', hlen with
      | [y0, y1], _, [v0, v1], _ =>
        have g0 := hf 0 _ rfl
        have g1 := hf 1 _ rfl
        simp [cells9, cells3] at g0 g1
        obtain ⟨s, e0, _, w0⟩ := DataW.trod_string Yba.underlying9 g0
        obtain ⟨n1, e1, _, w1⟩ := DataW.trod_int Yba.underlying3 g1
        simp at e0 e1
        subst e0 e1
        have q0 := hcell 0 (by omega)
        have q1 := hcell 1 (by omega)
        rw [Deep.add_add] at q0 q1
        exact ⟨(s, n1), by simpa using q0, by simpa using q1, w0, w1⟩
    obtain ⟨a, ha⟩ := Deep.choose_lt each
    obtain ⟨b, off, spot⟩ := x0
    by_cases h0 : 0 < len
    · have hspot : spot = none := by simpa [Addr.add] using World.cell?_spot (ha 0 h0).1
      subst hspot
      refine ⟨b, off, fun i => (a i).1, fun i => (a i).2, fun _ => rfl, fun j hj => ?_, fun i hi => (ha i hi).2.2.1, fun i hi => (ha i hi).2.2.2⟩
      obtain ⟨h1, h2, _⟩ := ha j hj
      simp only [add_plain] at h1 h2
      exact ⟨h1, by simpa [Nat.add_assoc] using h2⟩
    · exact ⟨0, 0, fun i => (a i).1, fun i => (a i).2, fun h => absurd h h0, fun j hj => absurd hj (by omega), fun j hj => absurd hj (by omega), fun j hj => absurd hj (by omega)⟩

set_option maxRecDepth 10000 in
theorem open_labels {H : Type} {enc : TypeId × Value → H} {w : World} {base : Nat} {spare : Nat → Bool} {held : Bool} {fuel : Nat} {x : DataW H × List MemPlace} {a0 : Option Addr} {len cap : Nat}
    (h : DataW.trod enc Yba.prog w base spare held fuel 23 [.slice a0 len cap] = some x) :
    ∃ (ob oo : Nat) (lk lw : Nat → ByteArray), (a0 = none ∧ len = 0 ∧ cap = 0 ∨ ∃ x, a0 = some x ∧ (0 < len → x = ⟨ob, oo, none⟩)) ∧ Lab w ob oo len lk lw ∧ ∀ i, i < len → (lk i).size ≤ maxLen ∧ (lw i).size ≤ maxLen := by
  rcases Deep.open_slice Yba.underlying23 h with ⟨h0, _⟩ | ⟨x0, l, c, m, n, Dd, Pl, hcs, hb, hl, hm, hmm, _, hx⟩
  · simp at h0
    obtain ⟨rfl, rfl, rfl⟩ := h0
    exact ⟨0, 0, fun _ => ⟨#[]⟩, fun _ => ⟨#[]⟩, .inl ⟨rfl, rfl, rfl⟩, fun j hj => absurd hj (by omega), fun j hj => absurd hj (by omega)⟩
  · simp at hcs
    obtain ⟨rfl, rfl, rfl⟩ := hcs
    have hlm : len ≤ m := by rw [hmm]; split <;> omega
    have each : ∀ i, i < len → ∃ g : ByteArray × ByteArray, w.cell? (x0.add (i * 2)) = some (.string g.1) ∧ w.cell? (x0.add (i * 2 + 1)) = some (.string g.2) ∧ g.1.size ≤ maxLen ∧ g.2.size ≤ maxLen := by
      intro i hi
      obtain ⟨cs', h1, h2⟩ := hx i (by omega)
      rw [cells33] at h1
      obtain ⟨_, hlen, hcell⟩ := World.cells?_some h1
      obtain ⟨xs, k, hk, hxy, _, hxl, hf⟩ := DataW.trod_struct Yba.underlying33 h2
      have hxl' : xs.length = 2 := hxl
      clear hxl
      match xs, hxl', cs', hlen with
      | [y0, y1], _, [v0, v1], _ =>
        have g0 := hf 0 _ rfl
        have g1 := hf 1 _ rfl
        simp [cells9] at g0 g1
        obtain ⟨s, e0, _, w0⟩ := DataW.trod_string Yba.underlying9 g0
        obtain ⟨n1, e1, _, w1⟩ := DataW.trod_string Yba.underlying9 g1
        simp at e0 e1
        subst e0 e1
        have q0 := hcell 0 (by omega)
        have q1 := hcell 1 (by omega)
        rw [Deep.add_add] at q0 q1
        exact ⟨(s, n1), by simpa using q0, by simpa using q1, w0, w1⟩
    obtain ⟨a, ha⟩ := Deep.choose_lt each
    obtain ⟨b, off, spot⟩ := x0
    by_cases h0 : 0 < len
    · have hspot : spot = none := by simpa [Addr.add] using World.cell?_spot (ha 0 h0).1
      subst hspot
      refine ⟨b, off, fun i => (a i).1, fun i => (a i).2, .inr ⟨_, rfl, fun _ => rfl⟩, fun j hj => ?_, fun i hi => (ha i hi).2.2⟩
      obtain ⟨h1, h2, _⟩ := ha j hj
      simp only [add_plain] at h1 h2
      exact ⟨h1, by simpa [Nat.add_assoc] using h2⟩
    · exact ⟨0, 0, fun i => (a i).1, fun i => (a i).2, .inr ⟨_, rfl, fun h => absurd h h0⟩, fun j hj => absurd hj (by omega), fun j hj => absurd hj (by omega)⟩

end Go.Proofs.Ybulkcako.Ex
