/-
  'copy' where an element takes two cells.
-/
import Derived.Test.YbulkcakoAdd
import Derived.Laws.CopyRow
import Derived.Laws.CopyOwn
import Derived.OwnWalk
namespace Go.Proofs.Ybulkcako.Ex
open Go.RowKit
set_option linter.unusedVariables false

theorem run_copy2 {P : Program} (w : World) (dT sT ty elem : TypeId) (g dLen dCap : Nat) (a : Addr) (sLen sCap : Nat) (cur : Array Value) (t : TypeId) (cs : List Value)
    (hu : P.underlying dT = some (.slice elem)) (hs : (P.info? elem).map (·.size) = some 2)
    (hg : w.heap[g]? = some (.cells cur t (0, 0))) (hn : cs.length = Nat.min sLen dLen * 2)
    (hsrc : ∀ j v, cs[j]? = some v → w.cell? (a.add j) = some v) (hfit : cs.length ≤ cur.size) (h1 : ∀ v ∈ cs, v.oneCell' = true) :
    (Builtin.copy_ #[dT, sT] ty #[.slice (some ⟨g, 0, none⟩) dLen dCap, .slice (some a) sLen sCap]).run P w =
      .ok (goInt (Nat.min sLen dLen)) (w.setRow g (cs ++ cur.toList.drop cs.length).toArray) := by
  have hl := run_loadCells_list (P := P) w a cs hsrc
  have hst := run_storeCells_at P g 0 t cs 0 cur w hg (by simpa using hfit) h1
  cases hq : P.info? elem with
  | none => simp [hq] at hs
  | some i =>
    have hi : i.size = 2 := by simpa [hq] using hs
    simp [Builtin.copy_, run_underlying hu, Builtin.lenOf, Builtin.firstCells, sizeOf, typeInfo, hq, hi, ← hn, hl, hst]

theorem info33 : (Yba.prog.info? 33).map (fun i => (i.zero, i.size, i.bytes)) = some (some (.agg #[.string ⟨#[]⟩, .string ⟨#[]⟩]), 2, 32) := by kernel_rfl

theorem make33 (n : Nat) (hn : n ≤ 300) (w : World) : (Instr.makeSlice 23 (.int .i64 (n : Int)) (.int .i64 (n : Int))).run Yba.prog w = .ok (.slice (some ⟨w.heap.size, 0, none⟩) n n)
    (w.alloc (.cells (madeCells #[.string ⟨#[]⟩, .string ⟨#[]⟩] (n * 2)) 33)) := by
  obtain ⟨i0, hi, hz0, hz1, hz2⟩ := info_parts info33
  have := run_make (P := Yba.prog) w 23 33 i0 _ Yba.underlying23 hi hz0 .i64 .i64 n n (by omega) (Int.le_refl _) (by rw [hz2]; omega) (by omega)
  simpa [hz1, Value.cells] using this

/-- The cells of the labels in a row. -/
def cellsOf (lk lw : Nat → ByteArray) (q : Nat) : List Value := (List.range (q * 2)).map fun i => .string (if i % 2 = 0 then lk (i / 2) else lw (i / 2))

theorem lab_copied (w : World) (la : Option Addr) (lb lo q lc : Nat) (lk lw : Nat → ByteArray) (hq : q ≤ 300) (hla : la = none ∧ q = 0 ∧ lc = 0 ∨ ∃ x, la = some x ∧ (0 < q → x = ⟨lb, lo, none⟩)) (hl : Lab w lb lo q lk lw) (zs : Array Value) :
    ∃ w2, (∀ ty, (Builtin.copy_ #[23, 23] ty #[.slice (some ⟨w.heap.size, 0, none⟩) q q, .slice la q lc]).run Yba.prog (w.alloc (.cells (madeCells zs (q * 2)) 33)) = .ok (.int .i64 (q : Nat)) w2) ∧
      Below w.heap.size w w2 ∧ w2.heap.size = w.heap.size + 1 ∧ Lab w2 w.heap.size 0 q lk lw := by
  have hb : Below w.heap.size w (w.alloc (.cells (madeCells zs (q * 2)) 33)) := (Below.refl _ _).alloc (Nat.le_refl _) _
  rcases hla with ⟨rfl, rfl, rfl⟩ | ⟨x, rfl, hx⟩
  · refine ⟨_, fun ty => run_copy_nil Yba.prog _ 23 23 ty 33 ⟨w.heap.size, 0, none⟩ 0 0 Yba.underlying23 (by kernel_rfl), hb, by simp, fun j hj => absurd hj (by omega)⟩
  · have hlen : (cellsOf lk lw q).length = q * 2 := by simp [cellsOf]
    have hgr : (w.alloc (.cells (madeCells zs (q * 2)) 33)).heap[w.heap.size]? = some (.cells (madeCells zs (q * 2)) 33) := by
      show (w.heap.push _)[w.heap.size]? = _
      simp
    have hcell : ∀ j, j < q * 2 → (cellsOf lk lw q)[j]? = some (.string (if j % 2 = 0 then lk (j / 2) else lw (j / 2))) := fun j hj => by simp [cellsOf, hj]
    have hrun := fun ty => run_copy2 (P := Yba.prog) (w.alloc (.cells (madeCells zs (q * 2)) 33)) 23 23 ty 33 w.heap.size q q x q lc (madeCells zs (q * 2)) 33 (cellsOf lk lw q) Yba.underlying23 (by kernel_rfl) hgr (by rw [hlen]; simp) (fun j v hj => by
      have hj' : j < q * 2 := by rw [← hlen]; exact (List.getElem?_eq_some_iff.1 hj).1
      rw [hcell j hj'] at hj
      injection hj with hj
      subst hj
      obtain rfl := hx (by omega)
      obtain ⟨h1, h2⟩ := hl (j / 2) (by omega)
      have hlo : lb < w.heap.size := World.block_lt_of_cell? _ _ h1
      rw [Addr.add_lit, World.cell?_alloc_lt _ _ _ hlo]
      by_cases e : j % 2 = 0
      · rw [if_pos e, show lo + j = lo + j / 2 * 2 by omega]; exact h1
      · rw [if_neg e, show lo + j = lo + j / 2 * 2 + 1 by omega]; exact h2) (by rw [hlen, size_madeCells]; exact Nat.le_refl _) (fun v hv => by
      simp only [cellsOf, List.mem_map] at hv
      obtain ⟨i, _, rfl⟩ := hv
      rfl)
    have hmin : goInt (Nat.min q q) = .int .i64 (q : Nat) := by simp [goInt]
    simp only [hmin] at hrun
    refine ⟨_, hrun, below_setRow hb (Nat.le_refl _) _, by simp, fun j hj => ?_⟩
    have hs : ∀ i, i < q * 2 → ((w.alloc (.cells (madeCells zs (q * 2)) 33)).setRow w.heap.size (cellsOf lk lw q ++ (madeCells zs (q * 2)).toList.drop (cellsOf lk lw q).length).toArray).cell? ⟨w.heap.size, i, none⟩ = some (.string (if i % 2 = 0 then lk (i / 2) else lw (i / 2))) := fun i hi => by
      rw [cell_setRow_same _ _ _ _ _ _ _ hgr]
      rw [List.getElem?_toArray, List.getElem?_append_left (by rw [hlen]; exact hi), hcell i hi]
    constructor
    · rw [show 0 + j * 2 = j * 2 by omega, hs _ (by omega), if_pos (by omega), show j * 2 / 2 = j by omega]
    · rw [show 0 + j * 2 + 1 = j * 2 + 1 by omega, hs _ (by omega), if_neg (by omega), show (j * 2 + 1) / 2 = j by omega]

end Go.Proofs.Ybulkcako.Ex
