/-
  What holds when the law compares.
-/
import Derived.Test.YbulkcahwDoorCode
namespace Go.Proofs.YbulkcahwDoor.Ho
open Go.RowKit
set_option linter.unusedVariables false

structure Fin4 (w0 w : World) (B n0 N qi mode : Nat) (tt : Bool) (s : St) (up : Nat) : Prop where
  gos : GoS w B n0 (8 + mode * 4) 7 tt s up
  md : MdS w (B + 1) N tt qi s
  q7 : w.cell? ⟨n0, 7, none⟩ = some (.int .u64 7)
  txs : ∀ j, j < 4 → w.cell? ⟨B, j, none⟩ = some (.pointer (some ⟨B + 2 + j, 0, none⟩))
  bel : Below B w0 w
  small : Small s
  len : s.stk.length ≤ 100000

theorem Fin4.drewN {w0 w : World} {B n0 N qi mode : Nat} {tt : Bool} {s : St} {up : Nat} (h : Fin4 w0 w B n0 N qi mode tt s up) (d : Nat) : Fin4 w0 (w.drewN d) B n0 N qi mode tt s up :=
  ⟨h.gos.drewN d, h.md.drewN d, h.q7, h.txs, below_drewN h.bel d, h.small, h.len⟩

theorem ptr_same {w : World} {a : Nat} (h : Free w a) : (binOp .eql 25 (.pointer (some ⟨a, 0, none⟩)) (.pointer (some ⟨a, 0, none⟩))).run Ybad.prog w = .ok (.bool true) w := by
  simpa using run_ptr_eq h h

theorem ptr_same_ne {w : World} {a : Nat} (h : Free w a) : (binOp .neq 25 (.pointer (some ⟨a, 0, none⟩)) (.pointer (some ⟨a, 0, none⟩))).run Ybad.prog w = .ok (.bool false) w := by
  simpa using run_ptr_ne h h

theorem nil_same {w : World} : (binOp .eql 25 (.pointer none) (.pointer none)).run Ybad.prog w = .ok (.bool true) w := by
  have h := run_eql_pointer_nil (P := Ybad.prog) w 25 none under25
  simpa using h

end Go.Proofs.YbulkcahwDoor.Ho
