/-
  'Rows.LawS3832BFloorsSaid' PROVED. The frame (the row's step) is turned from the kit's skeleton.
-/
import Derived.Test.YbulkcaikFloorsArgs
import Derived.WalkKit
import Derived.ProofKit
import Derived.OpenShut
import Derived.ShutString
import Derived.ChangeOld
import Derived.Below
namespace Go.Proofs.Ybulkcaik.lawS3832BFloors
open Go.ChangeShapes Go.WideShapes Go.ChangeAt Go.RowKit
open Go.ChangeMaps (open_string shut_string)
set_option linter.unusedVariables false

theorem own : ownKnob Yba.prog.godebug = none := by kernel_rfl
theorem laidOut : laidOutB Yba.prog = true := by kernel_rfl

theorem walk (a0 a1 a2 : Int) (b3 : Option Addr) (len3 cap3 : Nat) (b4 : Option Addr) (len4 cap4 : Nat) (w : World) (w0 : (Lit.int .u8 a0).wf = true) (w1 : (Lit.int .u8 a1).wf = true) (w2 : (Lit.int .u64 a2).wf = true)
    (w3 : ∃ (ob oo : Nat) (ss : Nat → ByteArray) (lv : Nat → Nat), (0 < len3 → b3 = some ⟨ob, oo, none⟩) ∧ Qu.Cells2 w ob oo len3 ss lv ∧ (∀ i, i < len3 → (ss i).size ≤ maxLen) ∧ ∀ i, i < len3 → lv i < 18446744073709551616)
    (w4 : ∃ (ob oo : Nat) (os : Nat → ByteArray), (0 < len4 → b4 = some ⟨ob, oo, none⟩) ∧ (∀ j, j < len4 → w.cell? ⟨ob, oo + j, none⟩ = some (.string (os j))) ∧ ∀ i, i < len4 → (os i).size ≤ maxLen) :
    Calls Yba.prog 5 #[.int .u8 a0, .int .u8 a1, .int .u64 a2, .slice b3 len3 cap3, .slice b4 len4 cap4] w fun e w' => e = .returned (.bool true) ∧ Below w.heap.size w w' := by
  have h0 : 0 ≤ a0 ∧ a0 ≤ 255 := by
    simp [Lit.wf, IntKind.min, IntKind.max, IntKind.signed, IntKind.bits] at w0
    omega
  have h1 : 0 ≤ a1 ∧ a1 ≤ 255 := by
    simp [Lit.wf, IntKind.min, IntKind.max, IntKind.signed, IntKind.bits] at w1
    omega
  have h2 := Past.u64_bounds w2
  obtain ⟨n, rfl⟩ : ∃ n : Nat, a0 = n := ⟨a0.toNat, by omega⟩
  obtain ⟨pick, rfl⟩ : ∃ n : Nat, a1 = n := ⟨a1.toNat, by omega⟩
  obtain ⟨clock, rfl⟩ : ∃ n : Nat, a2 = n := ⟨a2.toNat, by omega⟩
  by_cases hl : 1024 < len3 ∨ (len3 ≤ 1024 ∧ 1024 < len4)
  · exact Qu.floors_out w n pick clock b3 b4 len3 cap3 len4 cap4 hl
  · obtain ⟨fb, fo, ss, lv, ha3, h3, hss, hlv⟩ := w3
    obtain ⟨sb, so, os, ha4, h4, hos⟩ := w4
    exact Qu.floors_any w n pick clock b3 b4 len3 cap3 len4 cap4 fb fo sb so ss os lv (by omega) (by omega) (by omega) (by omega) ha3 h3 hss hlv ha4 h4 hos

/-! ### THE ROW's STEP -/
set_option maxRecDepth 100000 in
theorem lifted (os : Os) (started : os.Started) (H : Type) (enc : TypeId × Value → H) :
    ReturnsInHanded {} Yba.checked os 5 .any (Rows.lawS3832BFloorsSpec.pre6 enc Yba.prog Yba.f5 Rows.lawS3832BFloorsRow.domain false) (Rows.lawS3832BFloorsSpec.post enc Yba.prog Yba.f5 false true false false) := by
  refine returnsInHanded_of_change (C := Yba.checked) own started (by kernel_rfl) Yba.func5
    (ChangeSpec.witness6 (enc := enc) (C := Yba.checked) false ⟨#[], #[.int .u8 0, .int .u8 0, .int .u64 0, .slice none 0 0, .slice none 0 0], []⟩ 8 (by kernel_rfl) (by kernel_rfl) (by kernel_rfl) (by kernel_rfl)) ?_
  intro W base args ds gs before hval0 hW hcnd _
  have hval : ∀ (j : Nat) t v, Yba.f5.params[j]? = some t → args[j]? = some v → Value.okWide Yba.prog W .any base t v := hval0
  have hW' := hW
  obtain ⟨p, q, hA0, hV, rfl, hfz, hnd⟩ := hW
  have hA : DataW.TrodAll enc Yba.prog W 0 (fun _ => true) true Yba.f5.params.toList args.toList ds p := hA0
  rw [Yba.params5] at hA hval
  obtain ⟨v0, vs0, d0, ds0, p0, q0, hargs, rfl, rfl, h0, r0⟩ := trodAll_cons hA
  obtain ⟨v1, vs1, d1, ds1, p1, q1, rfl, rfl, rfl, h1, r1⟩ := trodAll_cons r0
  obtain ⟨v2, vs2, d2, ds2, p2, q2, rfl, rfl, rfl, h2, r2⟩ := trodAll_cons r1
  obtain ⟨v3, vs3, d3, ds3, p3, q3, rfl, rfl, rfl, h3, r3⟩ := trodAll_cons r2
  obtain ⟨v4, vs4, d4, ds4, p4, q4, rfl, rfl, rfl, h4, r4⟩ := trodAll_cons r3
  obtain ⟨rfl, rfl, rfl⟩ := trodAll_nil r4
  obtain rfl : args = #[v0, v1, v2, v3, v4] := by cases args; simp_all
  obtain ⟨rfl, rfl⟩ := trodVars_none hV
  obtain ⟨a0, rfl, rfl, rfl, w0⟩ := open_int Yba.underlying5 (hval 0 5 v0 rfl rfl) h0
  obtain ⟨a1, rfl, rfl, rfl, w1⟩ := open_int Yba.underlying5 (hval 1 5 v1 rfl rfl) h1
  obtain ⟨a2, rfl, rfl, rfl, w2⟩ := open_int Yba.underlying22 (hval 2 22 v2 rfl rfl) h2
  obtain ⟨b3, len3, cap3, rfl⟩ := okWide_slice Yba.underlying100 (hval 3 100 v3 rfl rfl)
  obtain ⟨b4, len4, cap4, rfl⟩ := okWide_slice Yba.underlying80 (hval 4 80 v4 rfl rfl)
  have k3 := h3
  have k4 := h4
  have lt3 : ∀ x ∈ p3, x.block < W.heap.size := by obtain ⟨m, hm⟩ := k3; exact DataW.trod_lt m _ _ _ hm
  have lt4 : ∀ x ∈ p4, x.block < W.heap.size := by obtain ⟨m, hm⟩ := k4; exact DataW.trod_lt m _ _ _ hm
  have w3 : ∃ (ob oo : Nat) (ss : Nat → ByteArray) (lv : Nat → Nat), (0 < len3 → b3 = some ⟨ob, oo, none⟩) ∧ Qu.Cells2 W ob oo len3 ss lv ∧ (∀ i, i < len3 → (ss i).size ≤ maxLen) ∧ ∀ i, i < len3 → lv i < 18446744073709551616 := by
    obtain ⟨fuel, hf⟩ := h3
    exact Qu.open_floors (a0 := b3) (len := len3) (cap := cap3) (by simpa [Value.cells] using hf)
  have w4 : ∃ (ob oo : Nat) (os : Nat → ByteArray), (0 < len4 → b4 = some ⟨ob, oo, none⟩) ∧ (∀ j, j < len4 → W.cell? ⟨ob, oo + j, none⟩ = some (.string (os j))) ∧ ∀ i, i < len4 → (os i).size ≤ maxLen := by
    obtain ⟨fuel, hf⟩ := h4
    exact Qu.open_strs80 (a0 := b4) (len := len4) (cap := cap4) (by simpa [Value.cells] using hf)
  clear hA0 hval0
  refine (walk a0 a1 a2 b3 len3 cap3 b4 len4 cap4 W w0 w1 w2 w3 w4).mono fun e W' ⟨he, bel⟩ => ?_
  subst he
  exact ⟨_, rfl, _, _, _, [], _, [], hW', trodAll_mk1 (shut_bool Yba.underlying4 _), (trodAll_cons_mk (shut_int Yba.underlying5 w0) (trodAll_cons_mk (shut_int Yba.underlying5 w1) (trodAll_cons_mk (shut_int Yba.underlying22 w2) (trodAll_cons_mk (Below.trod laidOut (by kernel_rfl) (of_decide_eq_true (by kernel_rfl)) k3 bel lt3) (trodAll_cons_mk (Below.trod laidOut (by kernel_rfl) (of_decide_eq_true (by kernel_rfl)) k4 bel lt4) trodAll_mk0))))), rfl, bel.frame _, fun h => by cases h⟩

theorem over : Rows.lawS3832BFloorsRow.holds Yba.pinned (OpenSpec.ofChange Rows.lawS3832BFloorsSpec) :=
  OpenClaim.holds_of_wide 5 Yba.f5 rfl rfl rfl rfl rfl rfl rfl ⟨rfl, rfl, rfl, rfl, rfl⟩ rfl rfl rfl rfl rfl (by kernel_rfl) Yba.func5 (by kernel_rfl)
    (of_decide_eq_true (by kernel_rfl)) (by unfold Func.isWrapper; first | (rw [if_pos (by decide +kernel)]; kernel_rfl) | (rw [if_neg (by decide +kernel)]; exact ⟨rfl, rfl⟩))
    (fun os started H enc _ => lifted os started H enc)

end Go.Proofs.Ybulkcaik.lawS3832BFloors

namespace Go.Proofs.Ybulkcaik
/-- THE STATEMENT. -/
theorem lawS3832BFloors_holds : Rows.LawS3832BFloorsSaid := lawS3832BFloors.over
end Go.Proofs.Ybulkcaik
