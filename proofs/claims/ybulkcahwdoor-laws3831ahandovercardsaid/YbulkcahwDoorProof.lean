/-
  'Rows.LawS3831AHandOverSaid' PROVED, AND THE TIED CARD. The frame (the row's step) is turned from the kit's worked examples (Mapy, Tab6, Toyas).
-/
import Derived.Test.YbulkcahwDoorArgs
import Derived.Test.YbulkcahwDoorTie
import Derived.Test.YbulkcahwDoorCards
import Derived.SevenTiedAt
import Derived.ShutString
import Derived.ChangeOld
import Derived.Below
namespace Go.Proofs.YbulkcahwDoor.lawS3831AHandOver
open Go.ChangeShapes Go.WideShapes Go.ChangeAt Go.RowKit
set_option linter.unusedVariables false

theorem own : ownKnob Ybad.prog.godebug = none := by kernel_rfl
theorem laidOut : laidOutB Ybad.prog = true := by kernel_rfl

/-- The row's list. -/
abbrev laid1 : List (String × DataW Unit) := [("example.com/holdfast/holdfast.compatible", Rows.laid_example_com_holdfast_holdfast_compatible)]

theorem door_met (os : Os) (args : Array Value) : laidMetH Ybad.prog laid1 ((World.doorLaid Ybad.prog 19 os).forCall (fun _ _ => 0) ⟨#[], args, []⟩).memory :=
  laidMetH_of_parts3 (fuel := 8) (laidMet_of_run' 8 (by kernel_rfl) (by kernel_rfl)) (by kernel_rfl) (by kernel_rfl)

theorem walk (b0 : Option Addr) (len0 cap0 : Nat) (b1 : Option Addr) (len1 cap1 : Nat) (a2 a3 a4 : Int) (b5 : Option Addr) (len5 cap5 : Nat) (tt fresh : Bool) (a8 a9 a10 : Int) (w : World)
    (w2 : (Lit.int .u8 a2).wf = true) (w3 : (Lit.int .u8 a3).wf = true) (w4 : (Lit.int .u8 a4).wf = true) (w8 : (Lit.int .u8 a8).wf = true) (w9 : (Lit.int .u8 a9).wf = true) (w10 : (Lit.int .i8 a10).wf = true)
    (h0 : ∃ (ob oo : Nat) (xs : Nat → Nat × Nat), Ho.In w b0 len0 ob oo xs) (h1 : ∃ (ob oo : Nat) (xs : Nat → Nat × Nat), Ho.In w b1 len1 ob oo xs)
    (h5 : ∃ (ob oo : Nat) (pv : Nat → Bool), (0 < len5 → b5 = some ⟨ob, oo, none⟩) ∧ ∀ i, i < len5 → w.cell? ⟨ob, oo + i, none⟩ = some (.bool (pv i)))
    (tab : ∀ i j, i < 6 → j < 6 → w.cell? ⟨0, i * 6 + j, none⟩ = some (.bool (Ho.cmp i j))) :
    Calls Ybad.prog 3 #[.slice b0 len0 cap0, .slice b1 len1 cap1, .int .u8 a2, .int .u8 a3, .int .u8 a4, .slice b5 len5 cap5, .bool tt, .bool fresh, .int .u8 a8, .int .u8 a9, .int .i8 a10] w fun e w' => e = .returned (.bool true) ∧ Below w.heap.size w w' := by
  by_cases hl : 1024 < len0 ∨ (len0 ≤ 1024 ∧ 1024 < len1)
  · exact Ho.top_out w b0 b1 b5 len0 cap0 len1 cap1 len5 cap5 a2 a3 a4 a8 a9 a10 tt fresh hl
  · obtain ⟨n2, rfl, l2⟩ := Ho.u8_nat w2
    obtain ⟨n3, rfl, l3⟩ := Ho.u8_nat w3
    obtain ⟨n4, rfl, l4⟩ := Ho.u8_nat w4
    obtain ⟨n8, rfl, l8⟩ := Ho.u8_nat w8
    obtain ⟨n9, rfl, l9⟩ := Ho.u8_nat w9
    obtain ⟨hb, ho, hx, hH⟩ := h0
    obtain ⟨qb, qo, qx, hQ⟩ := h1
    obtain ⟨pb, po, pv, hpa, hpc⟩ := h5
    exact Ho.top_any w b0 b1 b5 len0 cap0 len1 cap1 len5 cap5 hb ho qb qo pb po n2 n3 n4 n8 n9 a10 tt fresh hx qx pv (by omega) (by omega) hH hQ hpa hpc l2 l3 l4 l8 l9 (Ho.i8_bounds w10) tab

/-! ### THE ROW's STEP -/
set_option maxRecDepth 100000 in
theorem lifted (os : Os) (started : os.Started) (H : Type) (enc : TypeId × Value → H) :
    ReturnsInHanded {} Ybad.checked os 3 .any (fun w args => (Rows.lawS3831AHandOverSpec.pre enc Ybad.prog Ybad.f3 [] false w args ∧ laidMetH Ybad.prog laid1 w) ∧ sizedMet enc Ybad.prog Ybad.f3 (OpenSpec.ofChange Rows.lawS3831AHandOverSpec) false w args)
      (Rows.lawS3831AHandOverSpec.post enc Ybad.prog Ybad.f3 false true false false) := by
  refine returnsInHanded_of_change_and (C := Ybad.checked) (X := fun w _ => laidMetH Ybad.prog laid1 w) (fun _ _ _ hh h => h.of_heap hh) own started (by kernel_rfl) Ybad.func3
    (ChangeSpec.witness_shaped (enc := enc) (C := Ybad.checked) (os := os) (X := fun w _ => laidMetH Ybad.prog laid1 w) false (World.doorLaid Ybad.prog 19 os) #[.slice none 0 0, .slice none 0 0, .int .u8 0, .int .u8 0, .int .u8 0, .slice none 0 0, .bool false, .bool false, .int .u8 0, .int .u8 0, .int .i8 0] 8 rfl (World.shaped_of_RefB (by kernel_rfl) (by kernel_rfl)) (by kernel_rfl) (by kernel_rfl) (by kernel_rfl) (door_met os _)) ?_
  intro W base args ds gs before hval0 hW _ _ hL _
  have hval : ∀ (j : Nat) t v, Ybad.f3.params[j]? = some t → args[j]? = some v → Value.okWide Ybad.prog W .any base t v := hval0
  have hW' := hW
  obtain ⟨p, q, hA0, hV0, rfl, hfz, hnd⟩ := hW
  have hA : DataW.TrodAll enc Ybad.prog W 0 (fun _ => true) true Ybad.f3.params.toList args.toList ds p := hA0
  have hV : DataW.TrodVars enc Ybad.prog W (fun _ => true) ["example.com/holdfast/holdfast.compatible"] gs q := hV0
  rw [Ybad.params3] at hA hval
  obtain ⟨v0, vs0, d0, ds0, p0, q0, hargs, rfl, rfl, h0, r0⟩ := trodAll_cons hA
  obtain ⟨v1, vs1, d1, ds1, p1, q1, rfl, rfl, rfl, h1, r1⟩ := trodAll_cons r0
  obtain ⟨v2, vs2, d2, ds2, p2, q2, rfl, rfl, rfl, h2, r2⟩ := trodAll_cons r1
  obtain ⟨v3, vs3, d3, ds3, p3, q3, rfl, rfl, rfl, h3, r3⟩ := trodAll_cons r2
  obtain ⟨v4, vs4, d4, ds4, p4, q4, rfl, rfl, rfl, h4, r4⟩ := trodAll_cons r3
  obtain ⟨v5, vs5, d5, ds5, p5, q5, rfl, rfl, rfl, h5, r5⟩ := trodAll_cons r4
  obtain ⟨v6, vs6, d6, ds6, p6, q6, rfl, rfl, rfl, h6, r6⟩ := trodAll_cons r5
  obtain ⟨v7, vs7, d7, ds7, p7, q7, rfl, rfl, rfl, h7, r7⟩ := trodAll_cons r6
  obtain ⟨v8, vs8, d8, ds8, p8, q8, rfl, rfl, rfl, h8, r8⟩ := trodAll_cons r7
  obtain ⟨v9, vs9, d9, ds9, p9, q9, rfl, rfl, rfl, h9, r9⟩ := trodAll_cons r8
  obtain ⟨v10, vs10, d10, ds10, p10, q10, rfl, rfl, rfl, h10, r10⟩ := trodAll_cons r9
  obtain ⟨rfl, rfl, rfl⟩ := trodAll_nil r10
  obtain rfl : args = #[v0, v1, v2, v3, v4, v5, v6, v7, v8, v9, v10] := by cases args; simp_all
  obtain ⟨g, t, cs, fuel, d, p', rfl, hg, ht, hvar, hd, rfl⟩ := trodVars_one hV
  obtain ⟨b0, len0, cap0, rfl⟩ := okWide_slice Ybad.underlying22 (hval 0 22 v0 rfl rfl)
  obtain ⟨b1, len1, cap1, rfl⟩ := okWide_slice Ybad.underlying22 (hval 1 22 v1 rfl rfl)
  obtain ⟨a2, rfl, rfl, rfl, w2⟩ := open_int Ybad.underlying5 (hval 2 5 v2 rfl rfl) h2
  obtain ⟨a3, rfl, rfl, rfl, w3⟩ := open_int Ybad.underlying5 (hval 3 5 v3 rfl rfl) h3
  obtain ⟨a4, rfl, rfl, rfl, w4⟩ := open_int Ybad.underlying5 (hval 4 5 v4 rfl rfl) h4
  obtain ⟨b5, len5, cap5, rfl⟩ := okWide_slice Ybad.underlying23 (hval 5 23 v5 rfl rfl)
  obtain ⟨tt, rfl, rfl, rfl⟩ := open_bool Ybad.underlying4 (hval 6 4 v6 rfl rfl) h6
  obtain ⟨fresh, rfl, rfl, rfl⟩ := open_bool Ybad.underlying4 (hval 7 4 v7 rfl rfl) h7
  obtain ⟨a8, rfl, rfl, rfl, w8⟩ := open_int Ybad.underlying5 (hval 8 5 v8 rfl rfl) h8
  obtain ⟨a9, rfl, rfl, rfl, w9⟩ := open_int Ybad.underlying5 (hval 9 5 v9 rfl rfl) h9
  obtain ⟨a10, rfl, rfl, rfl, w10⟩ := open_int Ybad.underlying24 (hval 10 24 v10 rfl rfl) h10
  have k0 := h0
  have k1 := h1
  have k5 := h5
  have lt0 : ∀ x ∈ p0, x.block < W.heap.size := by obtain ⟨m, hm⟩ := k0; exact DataW.trod_lt m _ _ _ hm
  have lt1 : ∀ x ∈ p1, x.block < W.heap.size := by obtain ⟨m, hm⟩ := k1; exact DataW.trod_lt m _ _ _ hm
  have lt5 : ∀ x ∈ p5, x.block < W.heap.size := by obtain ⟨m, hm⟩ := k5; exact DataW.trod_lt m _ _ _ hm
  have ltv : ∀ x ∈ p', x.block < W.heap.size := DataW.trod_lt fuel _ _ _ hd
  have e0 := Ho.open_ents (a0 := b0) (len := len0) (cap := cap0) (by simpa [Value.cells] using h0.choose_spec)
  have e1 := Ho.open_ents (a0 := b1) (len := len1) (cap := cap1) (by simpa [Value.cells] using h1.choose_spec)
  have e5 := Ho.open_bools (a0 := b5) (len := len5) (cap := cap5) (by simpa [Value.cells] using h5.choose_spec)
  have tab := Ho.of_laid hL
  have hg0 : (0 : Nat) < W.heap.size := World.block_lt_of_cell? _ _ (tab 0 0 (by omega) (by omega))
  obtain rfl := Option.some.inj (Ho.gTab.symm.trans hg)
  obtain rfl := Option.some.inj (Ho.tTab.symm.trans ht)
  have kv : DataW.Trod enc Ybad.prog W 0 (fun _ => true) true 102 (.agg cs) d p' := ⟨fuel, by simpa [Value.cells] using hd⟩
  clear hA0 hval0 hV0
  refine (walk b0 len0 cap0 b1 len1 cap1 a2 a3 a4 b5 len5 cap5 tt fresh a8 a9 a10 W w2 w3 w4 w8 w9 w10 e0 e1 e5 tab).mono fun e W' ⟨he, bel⟩ => ?_
  subst he
  have kv' := Below.trod laidOut (by kernel_rfl) (of_decide_eq_true (by kernel_rfl)) kv bel ltv
  obtain ⟨fuel', hd'⟩ := kv'
  have hd2 : DataW.trod enc Ybad.prog W' 0 (fun b => decide (b < W.heap.size)) true fuel' 102 cs.toList = some (d, p') := by simpa [Value.cells] using hd'
  exact ⟨_, rfl, _, _, _, [], _, _, hW', trodAll_mk1 (shut_bool Ybad.underlying4 _),
    (trodAll_cons_mk (Below.trod laidOut (by kernel_rfl) (of_decide_eq_true (by kernel_rfl)) k0 bel lt0) (trodAll_cons_mk (Below.trod laidOut (by kernel_rfl) (of_decide_eq_true (by kernel_rfl)) k1 bel lt1)
      (trodAll_cons_mk (shut_int Ybad.underlying5 w2) (trodAll_cons_mk (shut_int Ybad.underlying5 w3) (trodAll_cons_mk (shut_int Ybad.underlying5 w4)
        (trodAll_cons_mk (Below.trod laidOut (by kernel_rfl) (of_decide_eq_true (by kernel_rfl)) k5 bel lt5) (trodAll_cons_mk (shut_bool Ybad.underlying4 _) (trodAll_cons_mk (shut_bool Ybad.underlying4 _)
          (trodAll_cons_mk (shut_int Ybad.underlying5 w8) (trodAll_cons_mk (shut_int Ybad.underlying5 w9) (trodAll_cons_mk (shut_int Ybad.underlying24 w10) trodAll_mk0))))))))))),
    trodVars_mk1 hg ht (var?_below bel hg hg0 hvar) hd2, bel.frame _, fun h => by cases h⟩

theorem over : Rows.lawS3831AHandOverRow.holds Ybad.pinned (OpenSpec.ofChange Rows.lawS3831AHandOverSpec) :=
  OpenClaim.holds_of_wide 3 Ybad.f3 rfl rfl rfl rfl rfl rfl rfl ⟨rfl, rfl, rfl, rfl, rfl⟩ rfl rfl rfl rfl rfl (by kernel_rfl) Ybad.func3 (by kernel_rfl)
    (of_decide_eq_true (by kernel_rfl)) (by unfold Func.isWrapper; first | (rw [if_pos (by decide +kernel)]; kernel_rfl) | (rw [if_neg (by decide +kernel)]; exact ⟨rfl, rfl⟩))
    (fun os started H enc _ => lifted os started H enc)

end Go.Proofs.YbulkcahwDoor.lawS3831AHandOver

namespace Go.Proofs.YbulkcahwDoor
/-- The bare row. -/
theorem lawS3831AHandOver_row : Rows.LawS3831AHandOverSaid := lawS3831AHandOver.over

/-- THE STATEMENT: the tied card. -/
theorem lawS3831AHandOverCard_holds : Rows.LawS3831AHandOverCardSaid :=
  Claim7.holds_tied_plain_at .later [] [.data] true (true, "6e467661cd23374a7710a4ee101ca85f833a1d77020162d67d2521669f21129e") false
    lawS3831AHandOver_row (fun _ h => by cases h) (by kernel_rfl) (fun _ h => by cases h) lawS3831AHandOver_row_tie rfl ⟨rfl, rfl⟩ (by kernel_rfl) rfl
    (fun f fn hf hfn => by
      obtain rfl : f = 3 := Option.some.inj ((show Ybad.prog.funcNamed "example.com/holdfast/holdfast.LawS3831AHandOver" = some 3 by kernel_rfl).symm.trans hf) |>.symm
      obtain rfl : fn = Ybad.f3 := (Option.some.inj (Ybad.func3.symm.trans hfn)).symm
      exact ⟨by kernel_rfl, fun j t ht => by
        rw [Ybad.params3] at ht
        have h3 : t = 22 ∨ t = 5 ∨ t = 23 ∨ t = 4 ∨ t = 24 := by
          rcases j with _ | _ | _ | _ | _ | _ | _ | _ | _ | _ | _ | j <;> simp at ht <;> subst ht <;> simp
        rcases h3 with rfl | rfl | rfl | rfl | rfl
        · exact (show Ybad.prog.wantsStandIn 22 = false by kernel_rfl)
        · exact (show Ybad.prog.wantsStandIn 5 = false by kernel_rfl)
        · exact (show Ybad.prog.wantsStandIn 23 = false by kernel_rfl)
        · exact (show Ybad.prog.wantsStandIn 4 = false by kernel_rfl)
        · exact (show Ybad.prog.wantsStandIn 24 = false by kernel_rfl)⟩)
    (by kernel_rfl)

end Go.Proofs.YbulkcahwDoor
