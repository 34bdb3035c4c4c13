/-
  THE WALK of takeRelaying at a stop, and the slice of frames that the law of the stop tells.
-/
import Derived.Test.YbulkcaikPast
import Derived.LaidEql
import Derived.OwnWalk
namespace Go.Proofs.Ybulkcaik.Stop
open Go.RowKit
set_option linter.unusedVariables false

theorem take0 (w : World) (S C R : Nat) (b : Bool) (c20 : w.cell? ⟨C, 20, none⟩ = some (.bool b)) (fz : w.frozen? ⟨C, 20, none⟩ = false) (r0 : w.cell? ⟨R, 0, none⟩ = some (.bool true)) :
    Calls Yba.prog 7 #[.pointer (some ⟨S, 0, none⟩), .pointer (some ⟨C, 0, none⟩), .pointer (some ⟨R, 0, none⟩)] w fun e w' => e = .returned (.tuple #[]) ∧ w' = w.setCell ⟨C, 20, none⟩ (.bool false) := by
  go_enter Yba.func7, Yba.ntmps7
  go_wp2
  refine bodyPost_end (results_none rfl _ _ _) rfl ?_
  exact ⟨rfl, rfl⟩

theorem info76 : (Yba.prog.info? 76).map (fun i => (i.zero, i.size, i.bytes)) = some (some .nilIface, 1, 16) := by kernel_rfl
theorem info25 : (Yba.prog.info? 25).map (fun i => i.comparable) = some true := by kernel_rfl
theorem info27 : (Yba.prog.info? 27).map (fun i => i.size) = some 2 := by kernel_rfl

theorem same_frame (w : World) (a : Nat) : (binOp .neq 76 (.iface 25 (.pointer (some ⟨a, 0, none⟩))) (.iface 25 (.pointer (some ⟨a, 0, none⟩)))).run Yba.prog w = .ok (.bool false) w := by
  obtain ⟨i, hi, hc⟩ := Option.map_eq_some_iff.1 info25
  obtain ⟨j, hj, hs⟩ := Option.map_eq_some_iff.1 info27
  have h := run_eql_iface_ptr_same w ⟨a, 0, none⟩ Yba.underlying76 Yba.underlying25 hi hc hj
  simp only [binOp] at h ⊢
  simp only [Sem.run_bind] at h ⊢
  cases hr : (Op.equal 76 (.iface 25 (.pointer (some ⟨a, 0, none⟩))) (.iface 25 (.pointer (some ⟨a, 0, none⟩)))).run Yba.prog w with
  | ok x w' => rw [hr] at h; simp at h ⊢; simp [h]
  | halt x w' => rw [hr] at h; simp at h

/-- The frame number j, and all of them. -/
def head (bl : Nat → Nat) (j : Nat) : Value := .iface 25 (.pointer (some ⟨bl j, 0, none⟩))
def heads (bl : Nat → Nat) (l : Nat) : List Value := (List.range l).map (head bl)
def fl (z : Nat) : Nat → Value := fun i => if i = 0 then .string ⟨#[97]⟩ else .int .u64 (z : Nat)

structure Tell (w0 w : World) (l : Nat) (v : Value) (bl z : Nat → Nat) : Prop where
  bel : Below w0.heap.size w0 w
  own : w.ownsRow w0.heap.size 76 1 v l (heads bl l)
  row : ∀ j, j < l → w.rowIs (bl j) 27 2 (fl (z j))
  base : ∀ j, j < l → w0.heap.size ≤ bl j

theorem own_type {w : World} {base e size n : Nat} {v : Value} {xs : List Value} (h : w.ownsRow base e size v n xs) {b t m : Nat} {f : Nat → Value} (hr : w.rowIs b t m f) (hne : e ≠ t) : some b ≠ v.ownBlock := by
  intro hb
  obtain ⟨c, hc, _⟩ := hr
  rcases h.2 with ⟨rfl, _⟩ | ⟨g, cap, cur, rfl, _, hg, _⟩
  · simp [Value.ownBlock] at hb
  · simp only [Value.ownBlock, Option.some.injEq] at hb
    subst hb
    rw [hg] at hc
    simp at hc
    exact hne hc.2

theorem tell_start (w : World) (bl z : Nat → Nat) : Tell w w 0 (.slice none 0 0) bl z :=
  ⟨Below.refl _ _, by simpa [heads] using World.ownsRow_nil w w.heap.size 76 1, fun j hj => absurd hj (by omega), fun j hj => absurd hj (by omega)⟩

theorem fl_row (w : World) (z : Nat) : (w.alloc (.cells #[.string ⟨#[97]⟩, .int .u64 (z : Nat)] 27)).rowIs w.heap.size 27 2 (fl z) := by
  refine World.rowIs_alloc w #[.string ⟨#[97]⟩, .int .u64 (z : Nat)] 27 (fl z) fun i hi => ?_
  match i, hi with
  | 0, _ => rfl
  | 1, _ => rfl

theorem tell_next {w wr w1 : World} {l : Nat} {v v' : Value} {bl z : Nat → Nat} {o : Obj} (hM : Tell w wr l v bl z)
    (hown : w1.ownsRow w.heap.size 76 1 v' (l + 1) (heads bl l ++ [.iface 25 (.pointer (some ⟨wr.heap.size, 0, none⟩))]))
    (hg : ((wr.alloc (.cells #[.string ⟨#[97]⟩, .int .u64 (z l : Nat)] 27)).alloc o).grownBy w1 v.ownBlock) :
    Tell w w1 (l + 1) v' (fun j => if j = l then wr.heap.size else bl j) z := by
  have hlt : ∀ k, v.ownBlock = some k → w.heap.size ≤ k ∧ k < wr.heap.size := hM.own.lt
  have hsz := hM.bel.size
  have eh : heads bl l ++ [Value.iface 25 (.pointer (some ⟨wr.heap.size, 0, none⟩))] = heads (fun j => if j = l then wr.heap.size else bl j) (l + 1) := by
    simp only [heads, List.range_succ, List.map_append, List.map_cons, List.map_nil]
    congr 1
    · refine List.map_congr_left fun j hj => ?_
      have : j < l := List.mem_range.1 hj
      simp [head, show j ≠ l by omega]
    · simp [head]
  refine ⟨?_, eh ▸ hown, fun j hj => ?_, fun j hj => ?_⟩
  · exact ((hM.bel.alloc hsz _).alloc (by simp; omega) _).grown hg (by simp; omega) (fun k hk => (hlt k hk).1)
  · by_cases e : j = l
    · subst e
      simp only [if_true]
      refine ((fl_row wr (z j)).alloc o).of_block (hg.block _ (by simp; omega) ?_)
      intro e; have := (hlt _ e.symm).2; omega
    · simp only [e, if_false]
      have hr := hM.row j (by omega)
      have hl := hr.lt
      exact ((hr.alloc _).alloc o).of_block (hg.block _ (by simp; omega) (own_type hM.own hr (by omega)))
  · by_cases e : j = l
    · subst e; simpa using hsz
    · simp only [e, if_false]; exact hM.base j (by omega)

/-- The slice as it stands at last. -/
theorem tell_end {w w1 : World} {l : Nat} {v : Value} {bl z : Nat → Nat} (h : Tell w w1 l v bl z) :
    ∃ (g cap : Nat) (ga : Option Addr), v = .slice ga l cap ∧ (0 < l → ga = some ⟨g, 0, none⟩) ∧ (∀ j, j < l → w1.cell? ⟨g, j, none⟩ = some (head bl j)) ∧ (0 < l → w.heap.size ≤ g ∧ g < w1.heap.size) ∧
      (∀ j, j < l → w1.cell? ⟨bl j, 1, none⟩ = some (.int .u64 (z j : Nat)) ∧ bl j < w1.heap.size) := by
  have hown := h.own
  have hb : ∀ j, j < l → w1.cell? ⟨bl j, 1, none⟩ = some (.int .u64 (z j : Nat)) ∧ bl j < w1.heap.size := fun j hj => ⟨by rw [(h.row j hj).cell (i := 1) (by omega)]; rfl, (h.row j hj).lt⟩
  rcases hown.2 with ⟨rfl, h0⟩ | ⟨g, cap, cur, rfl, hbg, hg, _⟩
  · refine ⟨0, 0, none, ?_, fun h => absurd h (by omega), fun j hj => absurd hj (by omega), fun h => absurd h (by omega), hb⟩
    have := h0
    simp_all
  · refine ⟨g, cap, _, rfl, fun _ => rfl, fun j hj => ?_, fun _ => ⟨hbg, (hown.lt g rfl).2⟩, hb⟩
    rw [hown.cellAt j (by omega)]
    simp [heads, hj]

end Go.Proofs.Ybulkcaik.Stop
