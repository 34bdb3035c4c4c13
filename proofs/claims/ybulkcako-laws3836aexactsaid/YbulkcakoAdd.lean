/-
  THE WALK of symbolTable.add.
-/
import Derived.Test.YbulkcakoIn
import Derived.Test.YbulkcakoOrder
namespace Go.Proofs.Ybulkcako.Ex
open Go.RowKit
set_option linter.unusedVariables false
set_option linter.unusedSimpArgs false

/-- A map of the call's own. -/
abbrev MapAt (w : World) (b n : Nat) (D : DataW Unit) : Prop := w.ownsMap Yba.prog 9 (plainElem Yba.prog 3) b n D

theorem MapAt.of_block {w w' : World} {b n : Nat} {D : DataW Unit} (h : MapAt w b n D) (e : w'.heap[b]? = w.heap[b]?) : MapAt w' b n D := by
  obtain ⟨es, clock, hb, F, hs, hD⟩ := h
  exact ⟨es, clock, e.trans hb, F, hs, hD⟩

theorem MapAt.ne_cell {w : World} {b n a i : Nat} {D : DataW Unit} {v : Value} (h : MapAt w b n D) (hc : w.cell? ⟨a, i, none⟩ = some v) : a ≠ b := by
  rintro rfl
  obtain ⟨es, clock, hb, _⟩ := h
  simp [World.cell?, hb] at hc

/-- Of the blocks that there were only T may have turned; T holds f. -/
structure Tab (w w' : World) (T n : Nat) (f : ByteArray → Option Int) : Prop where
  map : ∃ D, MapAt w' T n D ∧ Rep D f
  os : w'.os = w.os
  tape : w'.tape = w.tape
  output : w'.output = w.output
  size : w.heap.size ≤ w'.heap.size
  block : ∀ b, b < w.heap.size → b ≠ T → w'.heap[b]? = w.heap[b]?

namespace Tab
variable {w w' : World} {T n : Nat} {f : ByteArray → Option Int}
theorem alloc (h : Tab w w' T n f) (o : Obj) : Tab w (w'.alloc o) T n f := by
  obtain ⟨D, hm, hr⟩ := h.map
  exact ⟨⟨D, hm.of_block (Below.heap_alloc _ _ _ hm.lt), hr⟩, h.os, h.tape, h.output, by have := h.size; simp; omega, fun b hb hT => (Below.heap_alloc _ _ _ (Nat.lt_of_lt_of_le hb h.size)).trans (h.block b hb hT)⟩
theorem drewN (h : Tab w w' T n f) (m : Nat) : Tab w (w'.drewN m) T n f := by
  obtain ⟨D, hm, hr⟩ := h.map
  exact ⟨⟨D, hm.of_block rfl, hr⟩, h.os, h.tape, h.output, h.size, h.block⟩
theorem store (h : Tab w w' T n f) (hn : n < 100000) (s : ByteArray) (hs : s.size ≤ maxLen) (v : Int) (hv : (Lit.int .i64 v).wf = true) :
    ∃ w3, (Instr.mapUpdate 25 (.map (some T)) (.string s) (.int .i64 v)).run Yba.prog w' = .ok () w3 ∧ Tab w w3 T (n + 1) (upd f s v) := by
  obtain ⟨D, hm, hr⟩ := h.map
  obtain ⟨w3, hrun, hmap, hg⟩ := hm.update (Maps.string_keyed Yba.underlying9) Yba.underlying25 (by unfold maxLen; omega) (WideMaps.keyOf_string_mk Yba.underlying9 hs) (plainElem_int (H := Unit) Yba.underlying3 (a := v) hv)
  exact ⟨w3, hrun, ⟨_, hmap, hr.put s v⟩, hg.os.trans h.os, hg.tape.trans h.tape, hg.output.trans h.output, Nat.le_trans h.size hg.size,
    fun b hb hT => (hg.block b (Nat.lt_of_lt_of_le hb h.size) (fun e => hT (by simpa using e))).trans (h.block b hb hT)⟩
theorem cell (h : Tab w w' T n f) {a : Addr} (ha : a.block < w.heap.size) (hT : a.block ≠ T) : w'.cell? a = w.cell? a := World.cell?_of_block (w := w) (h.block _ ha hT)
theorem trans {w1 : World} {n1 : Nat} {f1 : ByteArray → Option Int} (h : Tab w w1 T n1 f1) (h2 : Tab w1 w' T n f) : Tab w w' T n f :=
  ⟨h2.map, h2.os.trans h.os, h2.tape.trans h.tape, h2.output.trans h.output, Nat.le_trans h.size h2.size, fun b hb hT => (h2.block b (Nat.lt_of_lt_of_le hb h.size) hT).trans (h.block b hb hT)⟩
theorem self (h : Tab w w' T n f) : Tab w' w' T n f := ⟨h.map, rfl, rfl, rfl, Nat.le_refl _, fun _ _ _ => rfl⟩
theorem below {B : Nat} (h : Tab w w' T n f) (hT : B ≤ T) (hB : B ≤ w.heap.size) : Below B w w' := ⟨h.os, h.tape, h.output, h.size, fun b hb => h.block b (by omega) (by omega)⟩
end Tab

/-- What add lays. -/
def addF (f : ByteArray → Option Int) (metric : ByteArray) (lk lw : Nat → ByteArray) : Nat → ByteArray → Option Int
  | 0 => upd f metric 0
  | j + 1 => upd (upd (addF f metric lk lw j) (lk j) 0) (lw j) 0

/-- The labels' cells. -/
def Lab (w : World) (lb lo q : Nat) (lk lw : Nat → ByteArray) : Prop := ∀ j, j < q → w.cell? ⟨lb, lo + j * 2, none⟩ = some (.string (lk j)) ∧ w.cell? ⟨lb, lo + j * 2 + 1, none⟩ = some (.string (lw j))

theorem cell_last (w : World) (c : Array Value) (t b i : Nat) (hb : b = w.heap.size) : (w.alloc (.cells c t)).cell? ⟨b, i, none⟩ = c[i]? := by
  subst hb
  have h : (w.alloc (.cells c t)).heap[w.heap.size]? = some (.cells c t) := by
    show (w.heap.push _)[w.heap.size]? = _
    simp
  simp only [World.cell?]
  rw [h]
  simp

set_option maxRecDepth 100000 in
set_option maxHeartbeats 1000000 in
theorem add_any (w : World) (T n : Nat) (f : ByteArray → Option Int) (metric ex : ByteArray) (la : Option Addr) (lb lo q lc : Nat) (lk lw : Nat → ByteArray) (hT : Tab w w T n f) (hn : n ≤ 1000) (hq : q ≤ 300) (hmet : metric.size ≤ maxLen)
    (hla : 0 < q → la = some ⟨lb, lo, none⟩) (hl : Lab w lb lo q lk lw) (hk : ∀ j, j < q → (lk j).size ≤ maxLen ∧ (lw j).size ≤ maxLen) :
    Calls Yba.prog 4 #[.map (some T), .agg #[.string metric, .slice la q lc, .string ex]] w fun e w' => e = .returned (.tuple #[]) ∧ Tab w w' T (n + 1 + 2 * q) (addF f metric lk lw q) := by
  have hz : (Lit.int .i64 0).wf = true := by decide
  obtain ⟨w3, hrun, hT3⟩ := (hT.alloc (.cells #[.string metric, .slice la q lc, .string ex] 29)).self.store (by omega) metric hmet 0 hz
  have hTl : T < w.heap.size := by obtain ⟨D, hm, _⟩ := hT.map; exact hm.lt
  have x1 : w3.cell? ⟨w.heap.size, 1, none⟩ = some (.slice la q lc) := by
    rw [hT3.cell (a := ⟨w.heap.size, 1, none⟩) (by simp) (by show w.heap.size ≠ T; omega)]
    exact cell_last _ _ _ _ 1 rfl
  have HT3 : Hid (Tab w w3 T (n + 1) (upd f metric 0)) := (hT.alloc _).trans hT3
  clear hT3
  go_enter Yba.func4, Yba.ntmps4
  go_wp2_with fail
  clear hrun x1
  go_loopg [12] q (fun g s12 wr => ∃ j, j ≤ q ∧ g = q - j ∧ s12 = .int .i64 (j : Nat) ∧ Tab w wr T (n + 1 + 2 * j) (addF f metric lk lw j))
  case atStart => exact ⟨0, Nat.zero_le _, rfl, rfl, HT3.out⟩
  case round =>
    obtain ⟨j, hj, rfl, rfl, hR⟩ := hrel
    clear HT3
    by_cases hlt : j < q
    · have hd : decide ((j : Int) < (q : Int)) = true := decide_eq_true (by omega)
      obtain rfl := hla (by omega)
      obtain ⟨y0, y1⟩ := hl j hlt
      have hlo : lb < w.heap.size := World.block_lt_of_cell? _ _ y0
      have hne : lb ≠ T := by obtain ⟨D, hm, _⟩ := hT.map; exact hm.ne_cell y0
      have z0 := (hR.cell (a := ⟨lb, lo + j * 2, none⟩) hlo hne).trans y0
      have z1 := (hR.cell (a := ⟨lb, lo + j * 2 + 1, none⟩) hlo hne).trans y1
      obtain ⟨k1, k2⟩ := hk j hlt
      have hR1 : Tab w (wr.alloc (.cells #[.string (lk j), .string (lw j)] 33)).drew T (n + 1 + 2 * j) (addF f metric lk lw j) := (hR.alloc _).drewN 1
      obtain ⟨w5, hrun5, hT5⟩ := hR1.store (by omega) (lk j) k1 0 hz
      obtain ⟨w6, hrun6, hT6⟩ := hT5.store (by omega) (lw j) k2 0 hz
      have hTw : T < w.heap.size := hTl
      have hwr := hR.size
      have hS0 : (wr.alloc (.cells #[.string (lk j), .string (lw j)] 33)).drew.cell? ⟨wr.heap.size, 0, none⟩ = some (.string (lk j)) ∧ (wr.alloc (.cells #[.string (lk j), .string (lw j)] 33)).drew.cell? ⟨wr.heap.size, 1, none⟩ = some (.string (lw j)) := ⟨cell_last _ _ _ _ 0 rfl, cell_last _ _ _ _ 1 rfl⟩
      obtain ⟨w5', hrun5', hT5'⟩ := hR1.self.store (by omega) (lk j) k1 0 hz
      obtain rfl : w5' = w5 := by rw [hrun5] at hrun5'; injection hrun5' with _ e; exact e.symm
      have hS1 : w5'.cell? ⟨wr.heap.size, 0, none⟩ = some (.string (lk j)) ∧ w5'.cell? ⟨wr.heap.size, 1, none⟩ = some (.string (lw j)) :=
        ⟨(hT5'.cell (a := ⟨wr.heap.size, 0, none⟩) (by show wr.heap.size < (wr.alloc _).heap.size; simp) (by show wr.heap.size ≠ T; omega)).trans hS0.1, (hT5'.cell (a := ⟨wr.heap.size, 1, none⟩) (by show wr.heap.size < (wr.alloc _).heap.size; simp) (by show wr.heap.size ≠ T; omega)).trans hS0.2⟩
      clear hrun5' hT5'
      have HT6 : Hid (Tab w w6 T (n + 1 + 2 * (j + 1)) (addF f metric lk lw (j + 1))) := hT6
      clear hT5 hT6 hR1 hR y0 y1 hl hk hla k1 k2
      go_wp2_with fail
      refine region_E (S := fun w' => w'.cell? ⟨wr.heap.size, 0, none⟩ = some (.string (lk j)) ∧ w'.cell? ⟨wr.heap.size, 1, none⟩ = some (.string (lw j))) (f := 7) (by kernel_rfl) ?_
      show AnyE _ _ _ _ _ _ 8 (Array.replicate 8 false) _ _
      refine anyE_take (i := 0) (oi := _) (v := ?_) rfl (by kernel_rfl) (fun _ _ _ h => h) (by rfl) ?_ hS0 ?_
      case refine_2 => rintro w' ⟨e0, e1⟩; go_simp; with_reducible rfl
      simp only [Act.put, List.setIfInBounds_toArray, List.set_cons_zero, List.set_cons_succ]
      refine anyE_take (i := 1) (oi := _) (v := ?_) rfl (by kernel_rfl) (fun _ _ _ h => h) (by rfl) ?_ hS0 ?_
      case refine_2 => rintro w' ⟨e0, e1⟩; go_simp; with_reducible rfl
      simp only [Act.put, List.setIfInBounds_toArray, List.set_cons_zero, List.set_cons_succ]
      refine anyE_take (i := 2) (oi := _) (v := ?_) rfl (by kernel_rfl) (fun _ _ _ h => h) (by rfl) ?_ hS0 ?_
      case refine_2 => rintro w' ⟨e0, e1⟩; go_simp; with_reducible rfl
      simp only [Act.put, List.setIfInBounds_toArray, List.set_cons_zero, List.set_cons_succ]
      refine anyE_take (i := 3) (oi := _) (v := ?_) rfl (by kernel_rfl) (fun _ _ _ h => h) (by rfl) ?_ hS0 ?_
      case refine_2 => rintro w' ⟨e0, e1⟩; go_simp; with_reducible rfl
      simp only [Act.put, List.setIfInBounds_toArray, List.set_cons_zero, List.set_cons_succ]
      refine anyE_take (i := 4) (oi := _) (v := ?_) rfl (by kernel_rfl) (fun _ _ _ h => h) (by rfl) ?_ hS0 ?_
      case refine_2 => rintro w' ⟨e0, e1⟩; go_simp; with_reducible rfl
      simp only [Act.put, List.setIfInBounds_toArray, List.set_cons_zero, List.set_cons_succ]
      refine anyE_take (i := 5) (oi := _) (v := ?_) rfl (by kernel_rfl) (fun _ _ _ h => h) (by rfl) ?_ hS0 ?_
      case refine_2 => rintro w' ⟨e0, e1⟩; go_simp; with_reducible rfl
      simp only [Act.put, List.setIfInBounds_toArray, List.set_cons_zero, List.set_cons_succ]
      refine anyE_only (i := 6) rfl (by kernel_rfl) rfl fun K hK => ?_
      go_simp
      refine hK _ _ (.inr hS1) ?_
      clear hK K
      refine anyE_only (i := 7) rfl (by kernel_rfl) rfl fun K hK => ?_
      go_simp
      refine hK _ _ (.inl (by kernel_rfl)) (anyE_done (by kernel_rfl) ?_)
      clear hK K hrun5 hrun6
      go_wp2
      go_roundg (q - (j + 1))
      case measure => go_light; omega
      case rel => go_light; exact ⟨j + 1, by omega, rfl, by go_num, HT6.out⟩
    · have hd : decide ((j : Int) < (q : Int)) = false := decide_eq_false (by omega)
      obtain rfl : j = q := by omega
      go_wp2
      refine bodyPost_end (results_none rfl _ _ _) rfl ?_
      exact ⟨rfl, hR⟩

end Go.Proofs.Ybulkcako.Ex
