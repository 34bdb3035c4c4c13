/-
  THE WALK of sendsPast, and the rows of integers that came in.
-/
import Derived.Test.YbulkcaikRows
import Derived.WalkKit
import Derived.ProofKit
import Derived.Below
import Derived.Deep.OwnRows
import Derived.Deep.QuietTactic
import Derived.Deep.LoopGhost
import Derived.Deep.Light
import Derived.BigQuiet
import Derived.WalkSmall
namespace Go.Proofs.Ybulkcaik.Past
open Go.RowKit
set_option linter.unusedVariables false

theorem u64_bounds {n : Int} (h : (Lit.int .u64 n).wf = true) : 0 ≤ n ∧ n ≤ 18446744073709551615 := by
  simp [Lit.wf, IntKind.min, IntKind.max, IntKind.signed, IntKind.bits] at h
  omega

theorem row_open {w : World} {a : Option Addr} {len cap : Nat} {zs : List Int} (h : (a = none ∧ len = 0 ∧ cap = 0 ∧ zs = []) ∨
    ∃ x, a = some x ∧ len ≤ cap ∧ cap ≤ maxLen ∧ zs.length = cap ∧ (∀ i, i < zs.length → w.cell? (x.add i) = some (.int .u64 (zs.getD i 0))) ∧ ∀ n ∈ zs, (Lit.int .u64 n).wf = true) :
    ∃ (ob oo : Nat) (z : Nat → Nat), (0 < len → a = some ⟨ob, oo, none⟩) ∧ (∀ i, i < len → w.cell? ⟨ob, oo + i, none⟩ = some (.int .u64 (z i : Nat))) ∧ (∀ i, i < len → z i < 18446744073709551616) ∧ len ≤ maxLen := by
  rcases h with ⟨rfl, rfl, rfl, rfl⟩ | ⟨x, rfl, hl, hm, hz, hcell, hwf⟩
  · exact ⟨0, 0, fun _ => 0, fun h => absurd h (by omega), fun i hi => absurd hi (by omega), fun i hi => absurd hi (by omega), Nat.zero_le _⟩
  · obtain ⟨b, off, spot⟩ := x
    have hb : ∀ i, i < len → 0 ≤ zs.getD i 0 ∧ zs.getD i 0 ≤ 18446744073709551615 := fun i hi => by
      have hi' : i < zs.length := by omega
      rw [List.getD_eq_getElem?_getD, List.getElem?_eq_getElem hi', Option.getD_some]
      exact u64_bounds (hwf _ (List.getElem_mem hi'))
    by_cases h0 : 0 < len
    · have hspot : spot = none := by simpa [Addr.add] using World.cell?_spot (hcell 0 (by omega))
      subst hspot
      refine ⟨b, off, fun i => (zs.getD i 0).toNat, fun _ => rfl, fun i hi => ?_, fun i hi => ?_, by omega⟩
      · have := hcell i (by omega)
        rw [Addr.add_lit] at this
        rw [this, Int.toNat_of_nonneg (hb i hi).1]
      · have := hb i hi
        show (zs.getD i 0).toNat < _
        omega
    · exact ⟨0, 0, fun _ => 0, fun h => absurd h h0, fun i hi => absurd hi (by omega), fun i hi => absurd hi (by omega), by omega⟩

theorem send0 (w : World) (S P c : Nat) (b : Option Addr) (acc : Int) (c13 : w.cell? ⟨S, 13, none⟩ = some (.int .u64 acc)) (c17 : w.cell? ⟨S, 17, none⟩ = some (.slice b 0 c)) :
    Calls Yba.prog 10 #[.pointer (some ⟨S, 0, none⟩), .pointer (some ⟨P, 0, none⟩)] w fun e w' => e = .returned (.int .u64 acc) ∧ ∃ m, w' = w.drewN m := by
  go_enter Yba.func10, Yba.ntmps10
  go_wp2
  go_ret
  exact ⟨rfl, 0, rfl⟩

theorem send1 (w : World) (S P mb n c : Nat) (clr bf z r : Nat) (hn : 0 < n) (c17 : w.cell? ⟨S, 17, none⟩ = some (.slice (some ⟨mb, 0, none⟩) n c)) (d : w.cell? ⟨P, 31, none⟩ = some (.int .u64 (clr : Nat)))
    (x : w.cell? ⟨mb, 1, none⟩ = some (.int .u64 (z : Nat))) (hb : (bf : Int) = ((z : Int) - 1) % 18446744073709551616) (hr : r = if bf < clr then clr else bf) :
    Calls Yba.prog 10 #[.pointer (some ⟨S, 0, none⟩), .pointer (some ⟨P, 0, none⟩)] w fun e w' => e = .returned (.int .u64 (r : Nat)) ∧ ∃ m, w' = w.drewN m := by
  have h0 : ((n : Int) == 0) = false := by simp; omega
  have hmax : (if (clr : Int) < IntKind.u64.wrap ((z : Int) - 1) then IntKind.u64.wrap ((z : Int) - 1) else (clr : Int)) = (r : Int) := by
    rw [IntKind.wrap_u64, hr]
    by_cases hlt : bf < clr
    · rw [if_neg (by omega), if_pos hlt]
    · rw [if_neg hlt]
      by_cases e : (clr : Int) < ((z : Int) - 1) % 18446744073709551616
      · rw [if_pos e, hb]
      · rw [if_neg e]; omega
  clear hb hr
  go_enter Yba.func10, Yba.ntmps10
  go_wp2_with fail
  go_quiet (fail)
  clear hmax
  go_wp2
  go_ret
  exact ⟨rfl, nq, rfl⟩

theorem info91 : (Yba.prog.info? 91).map (fun i => (i.zero, i.size, i.bytes)) = some (some (.agg #[.string ⟨#[]⟩, .int .u64 0, .int .u64 0, .int .i64 0, .string ⟨#[]⟩, .string ⟨#[]⟩]), 6, 72) := by kernel_rfl

/-- What make lays for a row of n messages. -/
theorem make91 (n : Nat) (hn : n ≤ 1024) (w : World) : (Instr.makeSlice 45 (.int .i64 (n : Int)) (.int .i64 (n : Int))).run Yba.prog w = .ok (.slice (some ⟨w.heap.size, 0, none⟩) n n)
    (w.alloc (.cells (madeCells #[.string ⟨#[]⟩, .int .u64 0, .int .u64 0, .int .i64 0, .string ⟨#[]⟩, .string ⟨#[]⟩] (n * 6)) 91)) := by
  obtain ⟨i0, hi, hz0, hz1, hz2⟩ := info_parts info91
  have := run_make (P := Yba.prog) w 45 91 i0 _ Yba.underlying45 hi hz0 .i64 .i64 n n (by omega) (Int.le_refl _) (by rw [hz2]; omega) (by omega)
  simpa [hz1, Value.cells] using this

/-- The outbox as far as it is laid. -/
structure Laid (w wr : World) (mb n k : Nat) (z : Nat → Nat) (f : Nat → Value) : Prop where
  bel : Below w.heap.size w wr
  row : wr.rowIs mb 91 (n * 6) f
  base : w.heap.size ≤ mb
  fst : ∀ j, j < k → f (j * 6) = .string ⟨#[97]⟩
  snd : ∀ j, j < k → f (j * 6 + 1) = .int .u64 (z j : Nat)

theorem laid_start (w : World) (n : Nat) (z : Nat → Nat) (zs : Array Value) : ∃ f, Laid w (w.alloc (.cells (madeCells zs (n * 6)) 91)) w.heap.size n 0 z f := by
  have hrow := World.rowIs_alloc w (madeCells zs (n * 6)) 91 (fun i => (madeCells zs (n * 6)).getD i (.bool false)) (fun i hi => by simp [hi])
  rw [size_madeCells] at hrow
  exact ⟨_, (Below.refl _ _).alloc (Nat.le_refl _) _, hrow, Nat.le_refl _, fun j hj => absurd hj (by omega), fun j hj => absurd hj (by omega)⟩

theorem laid_step {w wr : World} {mb n k : Nat} {z : Nat → Nat} {f : Nat → Value} (h : Laid w wr mb n k z f) (hk : k < n) :
    ∃ f', Laid w ((wr.setCell ⟨mb, k * 6 + 1, none⟩ (.int .u64 (z k : Nat))).setCell ⟨mb, k * 6, none⟩ (.string ⟨#[97]⟩)) mb n (k + 1) z f' := by
  refine ⟨_, (h.bel.setCell h.base _).setCell h.base _, (h.row.set _ _).set _ _, h.base, fun j hj => ?_, fun j hj => ?_⟩
  · by_cases e : j = k
    · subst e; simp
    · have := h.fst j (by omega)
      simp [show j * 6 ≠ k * 6 by omega, show j * 6 ≠ k * 6 + 1 by omega, this]
  · by_cases e : j = k
    · subst e; simp
    · have := h.snd j (by omega)
      simp [show j * 6 + 1 ≠ k * 6 by omega, show j * 6 ≠ k * 6 by omega, this]

end Go.Proofs.Ybulkcaik.Past
