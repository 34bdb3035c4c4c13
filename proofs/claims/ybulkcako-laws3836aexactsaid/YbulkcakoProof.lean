/-
  'Rows.LawS3836AExactSaid' PROVED. The frame (the row's step) is turned from the kit's skeleton.
-/
import Derived.Test.YbulkcakoArgs
import Derived.Test.YbulkcakoLaw
import Derived.WalkKit
import Derived.ProofKit
import Derived.OpenShut
import Derived.ShutString
import Derived.ChangeOld
import Derived.Below
namespace Go.Proofs.Ybulkcako.lawS3836AExact
open Go.ChangeShapes Go.WideShapes Go.ChangeAt Go.RowKit
open Go.ChangeMaps (open_string shut_string)
set_option linter.unusedVariables false

theorem own : ownKnob Yba.prog.godebug = none := by kernel_rfl
theorem laidOut : laidOutB Yba.prog = true := by kernel_rfl

theorem walk (b0 : Option Addr) (len0 cap0 : Nat) (metric : ByteArray) (b2 : Option Addr) (len2 cap2 : Nat) (w : World) (hmet : metric.size ≤ maxLen)
    (w0 : ∃ (ob oo : Nat) (ss : Nat → ByteArray) (lv : Nat → Int), (0 < len0 → b0 = some ⟨ob, oo, none⟩) ∧ Ex.Pre w ob oo len0 ss lv ∧ (∀ i, i < len0 → (ss i).size ≤ maxLen) ∧ ∀ i, i < len0 → (Lit.int .i64 (lv i)).wf = true)
    (w2 : ∃ (ob oo : Nat) (lk lw : Nat → ByteArray), (b2 = none ∧ len2 = 0 ∧ cap2 = 0 ∨ ∃ x, b2 = some x ∧ (0 < len2 → x = ⟨ob, oo, none⟩)) ∧ Ex.Lab w ob oo len2 lk lw ∧ ∀ i, i < len2 → (lk i).size ≤ maxLen ∧ (lw i).size ≤ maxLen) :
    Calls Yba.prog 3 #[.slice b0 len0 cap0, .string metric, .slice b2 len2 cap2] w fun e w' => e = .returned (.bool true) ∧ Below w.heap.size w w' := by
  by_cases hl : 300 < len0 ∨ (len0 ≤ 300 ∧ 300 < len2)
  · exact Ex.law_out w b0 b2 len0 cap0 len2 cap2 metric hl
  · obtain ⟨pb, po, ks, vs, ha0, h0, hks, hvs⟩ := w0
    obtain ⟨lb, lo, lk, lw, ha2, h2, hlk⟩ := w2
    exact Ex.law_any w b0 b2 len0 cap0 len2 cap2 pb po lb lo metric ks lk lw vs (by omega) (by omega) hmet ha0 h0 hks hvs ha2 h2 hlk

/-! ### THE ROW's STEP -/
set_option maxRecDepth 100000 in
theorem lifted (os : Os) (started : os.Started) (H : Type) (enc : TypeId × Value → H) :
    ReturnsInHanded {} Yba.checked os 3 .any (Rows.lawS3836AExactSpec.pre6 enc Yba.prog Yba.f3 Rows.lawS3836AExactRow.domain false) (Rows.lawS3836AExactSpec.post enc Yba.prog Yba.f3 false true false false) := by
  refine returnsInHanded_of_change (C := Yba.checked) own started (by kernel_rfl) Yba.func3
    (ChangeSpec.witness6 (enc := enc) (C := Yba.checked) false ⟨#[], #[.slice none 0 0, .string ⟨#[]⟩, .slice none 0 0], []⟩ 8 (by kernel_rfl) (by kernel_rfl) (by kernel_rfl) (by kernel_rfl)) ?_
  intro W base args ds gs before hval0 hW hcnd _
  have hval : ∀ (j : Nat) t v, Yba.f3.params[j]? = some t → args[j]? = some v → Value.okWide Yba.prog W .any base t v := hval0
  have hW' := hW
  obtain ⟨p, q, hA0, hV, rfl, hfz, hnd⟩ := hW
  have hA : DataW.TrodAll enc Yba.prog W 0 (fun _ => true) true Yba.f3.params.toList args.toList ds p := hA0
  rw [Yba.params3] at hA hval
  obtain ⟨v0, vs0, d0, ds0, p0, q0, hargs, rfl, rfl, h0, r0⟩ := trodAll_cons hA
  obtain ⟨v1, vs1, d1, ds1, p1, q1, rfl, rfl, rfl, h1, r1⟩ := trodAll_cons r0
  obtain ⟨v2, vs2, d2, ds2, p2, q2, rfl, rfl, rfl, h2, r2⟩ := trodAll_cons r1
  obtain ⟨rfl, rfl, rfl⟩ := trodAll_nil r2
  obtain rfl : args = #[v0, v1, v2] := by cases args; simp_all
  obtain ⟨rfl, rfl⟩ := trodVars_none hV
  obtain ⟨b0, len0, cap0, rfl⟩ := okWide_slice Yba.underlying22 (hval 0 22 v0 rfl rfl)
  obtain ⟨metric, rfl, rfl, rfl, w1⟩ := open_string Yba.underlying9 (hval 1 9 v1 rfl rfl) h1
  obtain ⟨b2, len2, cap2, rfl⟩ := okWide_slice Yba.underlying23 (hval 2 23 v2 rfl rfl)
  have k0 := h0
  have k2 := h2
  have lt0 : ∀ x ∈ p0, x.block < W.heap.size := by obtain ⟨m, hm⟩ := k0; exact DataW.trod_lt m _ _ _ hm
  have lt2 : ∀ x ∈ p2, x.block < W.heap.size := by obtain ⟨m, hm⟩ := k2; exact DataW.trod_lt m _ _ _ hm
  have w0 := Ex.open_pre (a0 := b0) (len := len0) (cap := cap0) (by simpa [Value.cells] using h0.choose_spec)
  have w2 := Ex.open_labels (a0 := b2) (len := len2) (cap := cap2) (by simpa [Value.cells] using h2.choose_spec)
  clear hA0 hval0
  refine (walk b0 len0 cap0 metric b2 len2 cap2 W w1 w0 w2).mono fun e W' ⟨he, bel⟩ => ?_
  subst he
  exact ⟨_, rfl, _, _, _, [], _, [], hW', trodAll_mk1 (shut_bool Yba.underlying4 _), (trodAll_cons_mk (Below.trod laidOut (by kernel_rfl) (of_decide_eq_true (by kernel_rfl)) k0 bel lt0) (trodAll_cons_mk (shut_string Yba.underlying9 w1) (trodAll_cons_mk (Below.trod laidOut (by kernel_rfl) (of_decide_eq_true (by kernel_rfl)) k2 bel lt2) trodAll_mk0))), rfl, bel.frame _, fun h => by cases h⟩

theorem over : Rows.lawS3836AExactRow.holds Yba.pinned (OpenSpec.ofChange Rows.lawS3836AExactSpec) :=
  OpenClaim.holds_of_wide 3 Yba.f3 rfl rfl rfl rfl rfl rfl rfl ⟨rfl, rfl, rfl, rfl, rfl⟩ rfl rfl rfl rfl rfl (by kernel_rfl) Yba.func3 (by kernel_rfl)
    (of_decide_eq_true (by kernel_rfl)) (by unfold Func.isWrapper; first | (rw [if_pos (by decide +kernel)]; kernel_rfl) | (rw [if_neg (by decide +kernel)]; exact ⟨rfl, rfl⟩))
    (fun os started H enc _ => lifted os started H enc)

end Go.Proofs.Ybulkcako.lawS3836AExact

namespace Go.Proofs.Ybulkcako
/-- THE STATEMENT. -/
theorem lawS3836AExact_holds : Rows.LawS3836AExactSaid := lawS3836AExact.over
end Go.Proofs.Ybulkcako
