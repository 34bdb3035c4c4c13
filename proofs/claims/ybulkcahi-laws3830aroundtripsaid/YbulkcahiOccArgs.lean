/-
  A slice of uint32 that came in, as the walks want it.
-/
import Derived.Test.YbulkcahiOccOk
namespace Go.Proofs.Ybulkcahi.Occ
open Go.RowKit
set_option linter.unusedVariables false

theorem u32_bounds {n : Int} (h : (Lit.int .u32 n).wf = true) : 0 ≤ n ∧ n ≤ 4294967295 := by
  simp [Lit.wf, IntKind.min, IntKind.max, IntKind.signed, IntKind.bits] at h
  omega

theorem u16_bounds {n : Int} (h : (Lit.int .u16 n).wf = true) : 0 ≤ n ∧ n ≤ 65535 := by
  simp [Lit.wf, IntKind.min, IntKind.max, IntKind.signed, IntKind.bits] at h
  omega

theorem row_open {w : World} {a : Option Addr} {len cap : Nat} {zs : List Int} (h : (a = none ∧ len = 0 ∧ cap = 0 ∧ zs = []) ∨
    ∃ x, a = some x ∧ len ≤ cap ∧ cap ≤ maxLen ∧ zs.length = cap ∧ (∀ i, i < zs.length → w.cell? (x.add i) = some (.int .u32 (zs.getD i 0))) ∧ ∀ n ∈ zs, (Lit.int .u32 n).wf = true) :
    ∃ (ob oo : Nat) (z : Nat → Nat), (0 < len → a = some ⟨ob, oo, none⟩) ∧ (∀ i, i < len → w.cell? ⟨ob, oo + i, none⟩ = some (.int .u32 (z i : Nat))) ∧ (∀ i, i < len → z i < 4294967296) ∧ len ≤ maxLen := by
  rcases h with ⟨rfl, rfl, rfl, rfl⟩ | ⟨x, rfl, hl, hm, hz, hcell, hwf⟩
  · exact ⟨0, 0, fun _ => 0, fun h => absurd h (by omega), fun i hi => absurd hi (by omega), fun i hi => absurd hi (by omega), Nat.zero_le _⟩
  · obtain ⟨b, off, spot⟩ := x
    have hb : ∀ i, i < len → 0 ≤ zs.getD i 0 ∧ zs.getD i 0 ≤ 4294967295 := fun i hi => by
      have hi' : i < zs.length := by omega
      rw [List.getD_eq_getElem?_getD, List.getElem?_eq_getElem hi', Option.getD_some]
      exact u32_bounds (hwf _ (List.getElem_mem hi'))
    by_cases h0 : 0 < len
    · have hspot : spot = none := by simpa [Addr.add] using World.cell?_spot (hcell 0 (by omega))
      subst hspot
      refine ⟨b, off, fun i => (zs.getD i 0).toNat, fun _ => rfl, fun i hi => ?_, fun i hi => ?_, by omega⟩
      · have := hcell i (by omega)
        rw [Addr.add_lit] at this
        rw [this, Int.toNat_of_nonneg (hb i hi).1]
      · have := hb i hi
        show (zs.getD i 0).toNat < _
        omega
    · exact ⟨0, 0, fun _ => 0, fun h => absurd h h0, fun i hi => absurd hi (by omega), fun i hi => absurd hi (by omega), by omega⟩

end Go.Proofs.Ybulkcahi.Occ
