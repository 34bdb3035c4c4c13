/-
  LawS3831AHandOver: its slices as they came in; the table.
-/
import Derived.Test.YbulkcahwDoorTop
import Derived.Deep.Slices
import Derived.ChangeArms
import Derived.OpenShut
import Derived.ChangeVars
import Derived.LaidMore
import Derived.ProofKit
import Derived.Stop.Joined
namespace Go.Proofs.YbulkcahwDoor.Ho
open Go.RowKit Go.ChangeShapes Go.WideShapes
set_option linter.unusedVariables false

theorem cells76 : Ybad.prog.cellsOf 76 = 2 := by kernel_rfl
theorem cells5 : Ybad.prog.cellsOf 5 = 1 := by kernel_rfl
theorem cells4 : Ybad.prog.cellsOf 4 = 1 := by kernel_rfl
theorem cells101 : Ybad.prog.cellsOf 101 = 6 := by kernel_rfl
theorem cells102 : Ybad.prog.cellsOf 102 = 36 := by kernel_rfl

theorem u8_nat {a : Int} (h : (Lit.int .u8 a).wf = true) : ∃ n : Nat, a = (n : Int) ∧ n < 256 := by
  have h0 : 0 ≤ a ∧ a ≤ 255 := by
    simp [Lit.wf, IntKind.min, IntKind.max, IntKind.signed, IntKind.bits] at h
    omega
  exact ⟨a.toNat, by omega, by omega⟩

theorem i8_bounds {a : Int} (h : (Lit.int .i8 a).wf = true) : -128 ≤ a ∧ a ≤ 127 := by
  simp [Lit.wf, IntKind.min, IntKind.max, IntKind.signed, IntKind.bits] at h
  omega

set_option maxRecDepth 10000 in
theorem open_ents {H : Type} {enc : TypeId × Value → H} {w : World} {base : Nat} {spare : Nat → Bool} {held : Bool} {fuel : Nat} {x : DataW H × List MemPlace} {a0 : Option Addr} {len cap : Nat}
    (h : DataW.trod enc Ybad.prog w base spare held fuel 22 [.slice a0 len cap] = some x) : ∃ (ob oo : Nat) (xs : Nat → Nat × Nat), In w a0 len ob oo xs := by
  rcases Deep.open_slice Ybad.underlying22 h with ⟨h0, _⟩ | ⟨x0, l, c, m, n, Dd, Pl, hcs, hb, hl, hm, hmm, _, hx⟩
  · simp at h0
    obtain ⟨rfl, rfl, rfl⟩ := h0
    exact ⟨0, 0, fun _ => (0, 0), fun h => absurd h (by omega), fun j hj => absurd hj (by omega), fun j hj => absurd hj (by omega), fun j hj => absurd hj (by omega)⟩
  · simp at hcs
    obtain ⟨rfl, rfl, rfl⟩ := hcs
    have hlm : len ≤ m := by rw [hmm]; split <;> omega
    have each : ∀ i, i < len → ∃ g : Nat × Nat, w.cell? (x0.add (i * 2)) = some (.int .u8 (g.1 : Nat)) ∧ w.cell? (x0.add (i * 2 + 1)) = some (.int .u8 (g.2 : Nat)) ∧ g.1 < 256 ∧ g.2 < 256 := by
      intro i hi
      obtain ⟨cs', h1, h2⟩ := hx i (by omega)
      rw [cells76] at h1
      obtain ⟨_, hlen, hcell⟩ := World.cells?_some h1
      obtain ⟨xs, k, hk, hxy, _, hxl, hf⟩ := DataW.trod_struct Ybad.underlying76 h2
      have hxl' : xs.length = 2 := hxl
      clear hxl
      match xs, hxl', cs', hlen with
      | [y0, y1], _, [v0, v1], _ =>
        have g0 := hf 0 _ rfl
        have g1 := hf 1 _ rfl
        simp [cells5] at g0 g1
        obtain ⟨n0, e0, _, w0⟩ := DataW.trod_int Ybad.underlying5 g0
        obtain ⟨n1, e1, _, w1⟩ := DataW.trod_int Ybad.underlying5 g1
        simp at e0 e1
        subst e0 e1
        obtain ⟨m0, rfl, p0⟩ := u8_nat w0
        obtain ⟨m1, rfl, p1⟩ := u8_nat w1
        have q0 := hcell 0 (by omega)
        have q1 := hcell 1 (by omega)
        rw [Deep.add_add] at q0 q1
        exact ⟨(m0, m1), by simpa using q0, by simpa using q1, p0, p1⟩
    obtain ⟨a, ha⟩ := Deep.choose_lt each
    obtain ⟨b, off, spot⟩ := x0
    by_cases h0 : 0 < len
    · have hspot : spot = none := by simpa [Addr.add] using World.cell?_spot (ha 0 h0).1
      subst hspot
      refine ⟨b, off, a, fun _ => rfl, fun j hj => ?_, fun j hj => ?_, fun i hi => (ha i hi).2.2⟩
      · have h1 := (ha j hj).1
        simp only [add_plain] at h1
        exact h1
      · have h1 := (ha j hj).2.1
        simp only [add_plain] at h1
        simpa [Nat.add_assoc] using h1
    · exact ⟨0, 0, a, fun h => absurd h h0, fun j hj => absurd hj (by omega), fun j hj => absurd hj (by omega), fun j hj => absurd hj (by omega)⟩

set_option maxRecDepth 10000 in
theorem open_bools {H : Type} {enc : TypeId × Value → H} {w : World} {base : Nat} {spare : Nat → Bool} {held : Bool} {fuel : Nat} {x : DataW H × List MemPlace} {a0 : Option Addr} {len cap : Nat}
    (h : DataW.trod enc Ybad.prog w base spare held fuel 23 [.slice a0 len cap] = some x) :
    ∃ (ob oo : Nat) (pv : Nat → Bool), (0 < len → a0 = some ⟨ob, oo, none⟩) ∧ ∀ i, i < len → w.cell? ⟨ob, oo + i, none⟩ = some (.bool (pv i)) := by
  rcases Deep.open_slice Ybad.underlying23 h with ⟨h0, _⟩ | ⟨x0, l, c, m, n, Dd, Pl, hcs, hb, hl, hm, hmm, _, hx⟩
  · simp at h0
    obtain ⟨rfl, rfl, rfl⟩ := h0
    exact ⟨0, 0, fun _ => false, fun h => absurd h (by omega), fun j hj => absurd hj (by omega)⟩
  · simp at hcs
    obtain ⟨rfl, rfl, rfl⟩ := hcs
    have hlm : len ≤ m := by rw [hmm]; split <;> omega
    have each : ∀ i, i < len → ∃ b : Bool, w.cell? (x0.add i) = some (.bool b) := by
      intro i hi
      obtain ⟨cs', h1, h2⟩ := hx i (by omega)
      rw [cells4, Nat.mul_one] at h1
      obtain ⟨_, hlen, hcell⟩ := World.cells?_some h1
      obtain ⟨s, e0, _⟩ := DataW.trod_bool Ybad.underlying4 h2
      subst e0
      have q0 := hcell 0 (by omega)
      rw [Deep.add_add] at q0
      exact ⟨s, by simpa using q0⟩
    obtain ⟨a, ha⟩ := Deep.choose_lt each
    obtain ⟨b, off, spot⟩ := x0
    by_cases h0 : 0 < len
    · have hspot : spot = none := by simpa [Addr.add] using World.cell?_spot (ha 0 h0)
      subst hspot
      refine ⟨b, off, a, fun _ => rfl, fun j hj => ?_⟩
      have := ha j hj
      simpa only [add_plain] using this
    · exact ⟨0, 0, a, fun h => absurd h h0, fun j hj => absurd hj (by omega)⟩

/-! ### The table of lock compatibility -/
theorem gTab : Ybad.prog.globalNamed "example.com/holdfast/holdfast.compatible" = some 0 := by kernel_rfl
theorem tTab : (Ybad.prog.globals[0]?).map (·.type) = some 102 := by kernel_rfl

/-- One row of the listed datum. -/
def drow {H : Type} (i : Nat) : DataW H := .agg ((List.range 6).map fun j => .lit (.bool (cmp i j)))
theorem laid_rows {H : Type} : Rows.laid_example_com_holdfast_holdfast_compatible (H := H) = .agg ((List.range 6).map drow) := rfl

theorem table_cells {H : Type} {enc : TypeId × Value → H} {w : World} {base : Nat} {spare : Nat → Bool} {held : Bool} {fuel : Nat} {cs : List Value} {p : List MemPlace}
    (h : DataW.trod enc Ybad.prog w base spare held fuel 102 cs = some (Rows.laid_example_com_holdfast_holdfast_compatible, p)) :
    cs.length = 36 ∧ ∀ i j, i < 6 → j < 6 → cs[i * 6 + j]? = some (.bool (cmp i j)) := by
  obtain ⟨xs, m, _, hx, hlen, hn, hel⟩ := DataW.trod_array Ybad.underlying102 h
  rw [cells102] at hlen
  refine ⟨hlen, fun i j hi hj => ?_⟩
  have h1 := hel i hi
  rw [cells101] at h1
  have hxi : xs[i]? = some xs[i] := List.getElem?_eq_getElem (by omega)
  have hd : xs[i].1 = drow i := by
    rw [laid_rows] at hx
    simp only [Prod.mk.injEq, DataW.agg.injEq] at hx
    have h2 := congrArg (fun l => l[i]?) hx.1
    simp only [List.getElem?_map, hxi, Option.map_some] at h2
    rw [List.getElem?_range hi] at h2
    simpa using h2.symm
  rw [hxi] at h1
  obtain ⟨ys, m2, _, hy, hlen2, hn2, hel2⟩ := DataW.trod_array Ybad.underlying101 h1
  have h3 := hel2 j hj
  rw [cells4, Nat.mul_one] at h3
  have hyj : ys[j]? = some ys[j] := List.getElem?_eq_getElem (by omega)
  have hd2 : ys[j].1 = .lit (.bool (cmp i j)) := by
    have h4 := congrArg Prod.fst hy
    simp only at h4
    rw [hd, drow] at h4
    simp only [DataW.agg.injEq] at h4
    have h5 := congrArg (fun l => l[j]?) h4
    simp only [List.getElem?_map, hyj, Option.map_some] at h5
    rw [List.getElem?_range hj] at h5
    simpa using h5.symm
  rw [hyj] at h3
  obtain ⟨b, e0, e1⟩ := DataW.trod_bool Ybad.underlying4 h3
  rw [e1] at hd2
  simp only [DataW.lit.injEq, Lit.bool.injEq] at hd2
  subst hd2
  have h6 := congrArg (fun l => l[0]?) e0
  simp only [List.getElem?_take, List.getElem?_drop] at h6
  simpa [hj] using h6

theorem of_laid {W : World} (h : laidMetH Ybad.prog [("example.com/holdfast/holdfast.compatible", Rows.laid_example_com_holdfast_holdfast_compatible)] W) : ∀ i j, i < 6 → j < 6 → W.cell? ⟨0, i * 6 + j, none⟩ = some (.bool (cmp i j)) := by
  rw [MakeChecks.laidMetH_plain _ _ _ (by kernel_rfl)] at h
  obtain ⟨ps, ⟨g, t, cs, fuel, p, q, hg, ht, hvar, hd, _, _⟩, _⟩ := h
  obtain rfl := Option.some.inj (gTab.symm.trans hg)
  obtain rfl := Option.some.inj (tTab.symm.trans ht)
  obtain ⟨_, hc⟩ := table_cells hd
  intro i j hi hj
  rw [World.var?_cell hg hvar (i * 6 + j)]
  have := hc i j hi hj
  simpa using this

end Go.Proofs.YbulkcahwDoor.Ho
