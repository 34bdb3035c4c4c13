/-
  A slice of the law's own peers (five cells each) that came in, opened.
-/
import Derived.Test.YbulkcaikRaise
import Derived.Deep.Slices
import Derived.ChangeArms
namespace Go.Proofs.Ybulkcaik.Qu
open Go.RowKit Go.ChangeShapes Go.WideShapes
set_option linter.unusedVariables false

theorem cells84 : Yba.prog.cellsOf 84 = 5 := by kernel_rfl
theorem cells4 : Yba.prog.cellsOf 4 = 1 := by kernel_rfl
theorem cells22 : Yba.prog.cellsOf 22 = 1 := by kernel_rfl

instance : Inhabited Giv := ⟨⟨false, false, 0, 0, 0⟩⟩

set_option maxRecDepth 10000 in
theorem open_givs {H : Type} {enc : TypeId × Value → H} {w : World} {base : Nat} {spare : Nat → Bool} {held : Bool} {fuel : Nat} {x : DataW H × List MemPlace} {a0 : Option Addr} {len cap : Nat}
    (h : DataW.trod enc Yba.prog w base spare held fuel 79 [.slice a0 len cap] = some x) :
    ∃ (ob oo : Nat) (a : Nat → Giv), (0 < len → a0 = some ⟨ob, oo, none⟩) ∧ Cells5 w ob oo len a := by
  rcases Deep.open_slice Yba.underlying79 h with ⟨h0, _⟩ | ⟨x0, l, c, m, n, Dd, Pl, hcs, hb, hl, hm, hmm, _, hx⟩
  · simp at h0
    obtain ⟨rfl, rfl, rfl⟩ := h0
    exact ⟨0, 0, fun _ => default, fun h => absurd h (by omega), fun j hj => absurd hj (by omega)⟩
  · simp at hcs
    obtain ⟨rfl, rfl, rfl⟩ := hcs
    have hlm : len ≤ m := by rw [hmm]; split <;> omega
    have each : ∀ i, i < len → ∃ g : Giv, w.cell? (x0.add (i * 5)) = some (.bool g.aw) ∧ w.cell? (x0.add (i * 5 + 1)) = some (.bool g.bk) ∧ w.cell? (x0.add (i * 5 + 2)) = some (.int .u64 (g.lo : Nat)) ∧
        w.cell? (x0.add (i * 5 + 3)) = some (.int .u64 (g.be : Nat)) ∧ w.cell? (x0.add (i * 5 + 4)) = some (.int .u64 (g.fl : Nat)) := by
      intro i hi
      obtain ⟨cs', h1, h2⟩ := hx i (by omega)
      rw [cells84] at h1
      obtain ⟨_, hlen, hcell⟩ := World.cells?_some h1
      obtain ⟨xs, k, hk, hxy, _, hxl, hf⟩ := DataW.trod_struct Yba.underlying84 h2
      have hxl' : xs.length = 5 := hxl
      clear hxl
      match xs, hxl', cs', hlen with
      | [y0, y1, y2, y3, y4], _, [v0, v1, v2, v3, v4], _ =>
        have g0 := hf 0 _ rfl
        have g1 := hf 1 _ rfl
        have g2 := hf 2 _ rfl
        have g3 := hf 3 _ rfl
        have g4 := hf 4 _ rfl
        simp [cells4, cells22] at g0 g1 g2 g3 g4
        obtain ⟨b0, e0, _⟩ := DataW.trod_bool Yba.underlying4 g0
        obtain ⟨b1, e1, _⟩ := DataW.trod_bool Yba.underlying4 g1
        obtain ⟨n2, e2, _, w2⟩ := DataW.trod_int Yba.underlying22 g2
        obtain ⟨n3, e3, _, w3⟩ := DataW.trod_int Yba.underlying22 g3
        obtain ⟨n4, e4, _, w4⟩ := DataW.trod_int Yba.underlying22 g4
        simp at e0 e1 e2 e3 e4
        subst e0 e1 e2 e3 e4
        have p2 := (Past.u64_bounds w2).1
        have p3 := (Past.u64_bounds w3).1
        have p4 := (Past.u64_bounds w4).1
        have q0 := hcell 0 (by omega)
        have q1 := hcell 1 (by omega)
        have q2 := hcell 2 (by omega)
        have q3 := hcell 3 (by omega)
        have q4 := hcell 4 (by omega)
        rw [Deep.add_add] at q0 q1 q2 q3 q4
        refine ⟨⟨b0, b1, n2.toNat, n3.toNat, n4.toNat⟩, by simpa using q0, by simpa using q1, ?_, ?_, ?_⟩
        · rw [q2]; simp [Int.toNat_of_nonneg p2]
        · rw [q3]; simp [Int.toNat_of_nonneg p3]
        · rw [q4]; simp [Int.toNat_of_nonneg p4]
    obtain ⟨a, ha⟩ := Deep.choose_lt each
    obtain ⟨b, off, spot⟩ := x0
    by_cases h0 : 0 < len
    · have hspot : spot = none := by simpa [Addr.add] using World.cell?_spot (ha 0 h0).1
      subst hspot
      refine ⟨b, off, a, fun _ => rfl, fun j hj => ?_⟩
      have := ha j hj
      simp only [add_plain] at this
      simpa [Nat.add_assoc] using this
    · exact ⟨0, 0, a, fun h => absurd h h0, fun j hj => absurd hj (by omega)⟩

end Go.Proofs.Ybulkcaik.Qu
