/-
  The law of the floors: its slices as they came in.
-/
import Derived.Test.YbulkcaikFloors
import Derived.Deep.Slices
import Derived.ChangeArms
namespace Go.Proofs.Ybulkcaik.Qu
open Go.RowKit Go.ChangeShapes Go.WideShapes
set_option linter.unusedVariables false

theorem cells101 : Yba.prog.cellsOf 101 = 2 := by kernel_rfl
theorem cells9 : Yba.prog.cellsOf 9 = 1 := by kernel_rfl
theorem cells22' : Yba.prog.cellsOf 22 = 1 := by kernel_rfl

set_option maxRecDepth 10000 in
theorem open_floors {H : Type} {enc : TypeId × Value → H} {w : World} {base : Nat} {spare : Nat → Bool} {held : Bool} {fuel : Nat} {x : DataW H × List MemPlace} {a0 : Option Addr} {len cap : Nat}
    (h : DataW.trod enc Yba.prog w base spare held fuel 100 [.slice a0 len cap] = some x) :
    ∃ (ob oo : Nat) (ss : Nat → ByteArray) (lv : Nat → Nat), (0 < len → a0 = some ⟨ob, oo, none⟩) ∧ Cells2 w ob oo len ss lv ∧ (∀ i, i < len → (ss i).size ≤ maxLen) ∧ ∀ i, i < len → lv i < 18446744073709551616 := by
  rcases Deep.open_slice Yba.underlying100 h with ⟨h0, _⟩ | ⟨x0, l, c, m, n, Dd, Pl, hcs, hb, hl, hm, hmm, _, hx⟩
  · simp at h0
    obtain ⟨rfl, rfl, rfl⟩ := h0
    exact ⟨0, 0, fun _ => ⟨#[]⟩, fun _ => 0, fun h => absurd h (by omega), fun j hj => absurd hj (by omega), fun j hj => absurd hj (by omega), fun j hj => absurd hj (by omega)⟩
  · simp at hcs
    obtain ⟨rfl, rfl, rfl⟩ := hcs
    have hlm : len ≤ m := by rw [hmm]; split <;> omega
    have each : ∀ i, i < len → ∃ g : ByteArray × Nat, w.cell? (x0.add (i * 2)) = some (.string g.1) ∧ w.cell? (x0.add (i * 2 + 1)) = some (.int .u64 (g.2 : Nat)) ∧ g.1.size ≤ maxLen ∧ g.2 < 18446744073709551616 := by
      intro i hi
      obtain ⟨cs', h1, h2⟩ := hx i (by omega)
      rw [cells101] at h1
      obtain ⟨_, hlen, hcell⟩ := World.cells?_some h1
      obtain ⟨xs, k, hk, hxy, _, hxl, hf⟩ := DataW.trod_struct Yba.underlying101 h2
      have hxl' : xs.length = 2 := hxl
      clear hxl
      match xs, hxl', cs', hlen with
      | [y0, y1], _, [v0, v1], _ =>
        have g0 := hf 0 _ rfl
        have g1 := hf 1 _ rfl
        simp [cells9, cells22'] at g0 g1
        obtain ⟨s, e0, _, w0⟩ := DataW.trod_string Yba.underlying9 g0
        obtain ⟨n1, e1, _, w1⟩ := DataW.trod_int Yba.underlying22 g1
        simp at e0 e1
        subst e0 e1
        have p1 := Past.u64_bounds w1
        have q0 := hcell 0 (by omega)
        have q1 := hcell 1 (by omega)
        rw [Deep.add_add] at q0 q1
        refine ⟨(s, n1.toNat), by simpa using q0, ?_, w0, by show n1.toNat < _; omega⟩
        rw [q1]; simp [Int.toNat_of_nonneg p1.1]
    obtain ⟨a, ha⟩ := Deep.choose_lt each
    obtain ⟨b, off, spot⟩ := x0
    by_cases h0 : 0 < len
    · have hspot : spot = none := by simpa [Addr.add] using World.cell?_spot (ha 0 h0).1
      subst hspot
      refine ⟨b, off, fun i => (a i).1, fun i => (a i).2, fun _ => rfl, fun j hj => ?_, fun i hi => (ha i hi).2.2.1, fun i hi => (ha i hi).2.2.2⟩
      obtain ⟨h1, h2, _⟩ := ha j hj
      simp only [add_plain] at h1 h2
      exact ⟨h1, by simpa [Nat.add_assoc] using h2⟩
    · exact ⟨0, 0, fun i => (a i).1, fun i => (a i).2, fun h => absurd h h0, fun j hj => absurd hj (by omega), fun j hj => absurd hj (by omega), fun j hj => absurd hj (by omega)⟩

set_option maxRecDepth 10000 in
theorem open_strs80 {H : Type} {enc : TypeId × Value → H} {w : World} {base : Nat} {spare : Nat → Bool} {held : Bool} {fuel : Nat} {x : DataW H × List MemPlace} {a0 : Option Addr} {len cap : Nat}
    (h : DataW.trod enc Yba.prog w base spare held fuel 80 [.slice a0 len cap] = some x) :
    ∃ (ob oo : Nat) (os : Nat → ByteArray), (0 < len → a0 = some ⟨ob, oo, none⟩) ∧ (∀ j, j < len → w.cell? ⟨ob, oo + j, none⟩ = some (.string (os j))) ∧ ∀ i, i < len → (os i).size ≤ maxLen := by
  rcases Deep.open_slice Yba.underlying80 h with ⟨h0, _⟩ | ⟨x0, l, c, m, n, Dd, Pl, hcs, hb, hl, hm, hmm, _, hx⟩
  · simp at h0
    obtain ⟨rfl, rfl, rfl⟩ := h0
    exact ⟨0, 0, fun _ => ⟨#[]⟩, fun h => absurd h (by omega), fun j hj => absurd hj (by omega), fun j hj => absurd hj (by omega)⟩
  · simp at hcs
    obtain ⟨rfl, rfl, rfl⟩ := hcs
    have hlm : len ≤ m := by rw [hmm]; split <;> omega
    have each : ∀ i, i < len → ∃ s : ByteArray, w.cell? (x0.add i) = some (.string s) ∧ s.size ≤ maxLen := by
      intro i hi
      obtain ⟨cs', h1, h2⟩ := hx i (by omega)
      rw [cells9, Nat.mul_one] at h1
      obtain ⟨_, hlen, hcell⟩ := World.cells?_some h1
      obtain ⟨s, e0, _, w0⟩ := DataW.trod_string Yba.underlying9 h2
      subst e0
      have q0 := hcell 0 (by omega)
      rw [Deep.add_add] at q0
      exact ⟨s, by simpa using q0, w0⟩
    obtain ⟨a, ha⟩ := Deep.choose_lt each
    obtain ⟨b, off, spot⟩ := x0
    by_cases h0 : 0 < len
    · have hspot : spot = none := by simpa [Addr.add] using World.cell?_spot (ha 0 h0).1
      subst hspot
      refine ⟨b, off, a, fun _ => rfl, fun j hj => ?_, fun i hi => (ha i hi).2⟩
      have := (ha j hj).1
      simpa only [add_plain] using this
    · exact ⟨0, 0, a, fun h => absurd h h0, fun j hj => absurd hj (by omega), fun j hj => absurd hj (by omega)⟩

end Go.Proofs.Ybulkcaik.Qu
