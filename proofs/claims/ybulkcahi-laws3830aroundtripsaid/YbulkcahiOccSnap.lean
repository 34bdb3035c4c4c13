/-
  THE SNAPSHOT of LawS3830ARoundTrip: what it lies in, and the step 'copy(snap[l], o[l])'.
-/
import Derived.Test.YbulkcahiOccArgs
import Derived.Laws.CopyOwn
import Derived.WalkSmall
namespace Go.Proofs.Ybulkcahi.Occ
open Go.RowKit
set_option linter.unusedVariables false

/-- k levels have been copied: block sb holds the slices, the blocks behind it the words Y. -/
structure Snap (w w' : World) (n hb L : Nat) (bl : Nat → Nat) (mb : Nat) (p : Nat → Bool) (X Y : Nat → Nat → Nat) (sb k : Nat) : Prop where
  built : Built w w' n hb L bl mb p X
  size : w'.heap.size = sb + 1 + k
  top : w'.rowIs sb 33 L (fun j => if j < k then .slice (some ⟨sb + 1 + j, 0, none⟩) (M n (j + 1)) (M n (j + 1)) else .slice none 0 0)
  rows : ∀ j, j < k → w'.rowIs (sb + 1 + j) 35 (M n (j + 1)) (fun i => .int .u64 (Y j i : Nat))
  hlt : hb < sb
  mlt : mb < sb
  blt : ∀ l, l < L → bl l < sb
  base : w.heap.size ≤ sb

theorem Built.of_blocks {w w1 w2 : World} {n hb L mb : Nat} {bl : Nat → Nat} {p : Nat → Bool} {X : Nat → Nat → Nat} (h : Built w w1 n hb L bl mb p X) (B : Nat) (hh : hb < B) (hm : mb < B) (hbl : ∀ l, l < L → bl l < B) (hw : w.heap.size ≤ B) (hB : Below B w1 w2) :
    Built w w2 n hb L bl mb p X :=
  ⟨h.pos, h.le, h.top, h.many, ⟨h.occ.bhb, by have := h.occ.lt; have := hB.size; omega, fun l hl => (hB.cell (p := ⟨_, l, none⟩) hh).trans (h.occ.hd l hl), fun l hl => (h.occ.row l hl).of_block (hB.block _ (hbl l hl)), h.occ.inj, h.occ.off, h.occ.base, h.occ.small⟩,
    h.good, h.out, h.row.of_block (hB.block _ hm), h.mhb, h.mbl, h.base, h.bel.trans (hB.mono hw)⟩

theorem snap_start {w w1 : World} {n hb L mb : Nat} {bl : Nat → Nat} {p : Nat → Bool} {X : Nat → Nat → Nat} (h : Built w w1 n hb L bl mb p X) :
    Snap w (w1.alloc (.cells (madeCells #[.slice none 0 0] L) 33)) n hb L bl mb p X X w1.heap.size 0 := by
  have h1 := h.occ.lt
  have h2 := h.row.lt
  have h3 : ∀ l, l < L → bl l < w1.heap.size := fun l hl => (h.occ.row l hl).lt
  exact ⟨h.of_blocks _ h1 h2 h3 h.bel.size ((Below.refl _ _).alloc (Nat.le_refl _) _), by simp, (World.rowIs_made w1 _ L 33).congr (fun j _ => by simp), fun j hj => absurd hj (by omega), h1, h2, h3, h.bel.size⟩

/-- The words of level k, as cells. -/
def words (n : Nat) (X : Nat → Nat → Nat) (k : Nat) : List Value := (List.range (M n (k + 1))).map fun i => .int .u64 (X k i : Nat)

theorem words_length (n : Nat) (X : Nat → Nat → Nat) (k : Nat) : (words n X k).length = M n (k + 1) := by simp [words]

theorem words_oneCell (n : Nat) (X : Nat → Nat → Nat) (k : Nat) : ∀ v ∈ words n X k, v.oneCell' = true := by
  intro v hv
  obtain ⟨i, _, rfl⟩ := List.mem_map.1 hv
  rfl

theorem words_at (n : Nat) (X : Nat → Nat → Nat) (k j : Nat) (v : Value) (h : (words n X k)[j]? = some v) : j < M n (k + 1) ∧ v = .int .u64 (X k j : Nat) := by
  have hj : j < M n (k + 1) := by
    have := (List.getElem?_eq_some_iff.1 h).1
    rwa [words_length] at this
  simp [words, hj] at h
  exact ⟨hj, h.symm⟩

/-- The world at the copy of level k. -/
def atCopy (wr : World) (n : Nat) (sb k : Nat) : World :=
  ((wr.alloc (.cells (madeCells #[.int .u64 0] (M n (k + 1))) 35)).setCell ⟨sb, k, none⟩ (.slice (some ⟨sb + 1 + k, 0, none⟩) (M n (k + 1)) (M n (k + 1)))).drew

section
variable {w wr : World} {n hb L mb sb k : Nat} {bl : Nat → Nat} {p : Nat → Bool} {X : Nat → Nat → Nat}

theorem atCopy_old (h : Snap w wr n hb L bl mb p X X sb k) (b : Nat) (hb' : b < wr.heap.size) (hne : b ≠ sb) : (atCopy wr n sb k).heap[b]? = wr.heap[b]? := by
  show ((wr.alloc _).setCell _ _).heap[b]? = _
  rw [Below.heap_setCell _ _ _ _ hne, Below.heap_alloc _ _ _ hb']

theorem atCopy_new (h : Snap w wr n hb L bl mb p X X sb k) : ∃ cur : Array Value, cur.size = M n (k + 1) ∧ (atCopy wr n sb k).heap[sb + 1 + k]? = some (.cells cur 35 (0, 0)) := by
  have hs := h.size
  have hrow := World.rowIs_made wr (.int .u64 0) (M n (k + 1)) 35
  rw [hs] at hrow
  obtain ⟨c, hc, hc2, _⟩ := (hrow.setOther (a := ⟨sb, k, none⟩) (by show sb + 1 + k ≠ sb; omega) (.slice (some ⟨sb + 1 + k, 0, none⟩) (M n (k + 1)) (M n (k + 1)))).drew
  exact ⟨c, hc2, hc⟩

theorem atCopy_src (h : Snap w wr n hb L bl mb p X X sb k) (hk : k < L) : ∀ j v, (words n X k)[j]? = some v → (atCopy wr n sb k).cell? ((⟨bl k, 0, none⟩ : Addr).add j) = some v := by
  intro j v hv
  obtain ⟨hj, rfl⟩ := words_at _ _ _ _ _ hv
  rw [Addr.add_lit, Nat.zero_add]
  have hr := h.built.occ.row k hk
  have hlt := h.blt k hk
  exact (hr.of_block (atCopy_old h _ hr.lt (by omega))).cell hj

theorem snap_next (h : Snap w wr n hb L bl mb p X X sb k) (hk : k < L) :
    Snap w ((atCopy wr n sb k).setRow (sb + 1 + k) (words n X k).toArray) n hb L bl mb p X X sb (k + 1) := by
  have hs := h.size
  have hsb := h.top.lt
  have e0 : ∀ (b : Nat), b < wr.heap.size → b ≠ sb → ((atCopy wr n sb k).setRow (sb + 1 + k) (words n X k).toArray).heap[b]? = wr.heap[b]? := by
    intro b hb' hne
    rw [setRow_other _ _ _ _ (by omega)]
    exact atCopy_old h b hb' hne
  have e1 : ((atCopy wr n sb k).setRow (sb + 1 + k) (words n X k).toArray).heap.size = sb + 1 + (k + 1) := by
    simp [World.setRow, atCopy, hs]
    omega
  obtain ⟨c, _, hc⟩ := atCopy_new h
  have hbel : Below sb wr ((atCopy wr n sb k).setRow (sb + 1 + k) (words n X k).toArray) := ⟨rfl, rfl, rfl, by rw [e1]; omega, fun b hb' => e0 b (by omega) (by omega)⟩
  refine ⟨h.built.of_blocks sb h.hlt h.mlt h.blt h.base hbel, e1, ?_, fun j hj => ?_, h.hlt, h.mlt, h.blt, h.base⟩
  · have ht := ((h.top.alloc (.cells (madeCells #[.int .u64 0] (M n (k + 1))) 35)).set k (.slice (some ⟨sb + 1 + k, 0, none⟩) (M n (k + 1)) (M n (k + 1)))).drew
    have ht2 : ((atCopy wr n sb k).setRow (sb + 1 + k) (words n X k).toArray).rowIs sb 33 L _ := ht.of_block (setRow_other _ _ _ _ (by omega))
    refine ht2.congr fun j hj => ?_
    by_cases e : j = k
    · subst e; simp
    · rw [if_neg e]
      by_cases hlt : j < k
      · rw [if_pos hlt, if_pos (by omega)]
      · rw [if_neg hlt, if_neg (by omega)]
  · by_cases e : j = k
    · subst e
      exact ⟨(words n X j).toArray, setRow_heap _ _ _ _ _ _ hc, by simp [words_length], fun i hi => by simp [words, hi]⟩
    · have hr := h.rows j (by omega)
      exact hr.of_block (e0 _ hr.lt (by omega))
end

/-- 'copy(dst, src)' as one step of a region that draws, the whole row going over: the world behind it told outright. -/
theorem step_copy_whole {P : Program} {ops : Array Oper} {o : Oper} {a : Act} {w : World} {K : Act → World → Prop} {Q : Exit → Act → World → Prop} {E : Prop} (hgd : o.guard = none) (d s : Operand) (dT sT : TypeId)
    (ho : o.op = .call { callee := .builtin .copy, args := #[d, s], argTypes := #[dT, sT] }) (elem : TypeId) (hu : P.underlying dT = some (.slice elem)) (hsz : (P.info? elem).map (·.size) = some 1)
    (g m : Nat) (ad : Addr) (hd : a.eval d = .slice (some ⟨g, 0, none⟩) m m) (hs : a.eval s = .slice (some ad) m m)
    (cs : List Value) (hn : cs.length = m) (t : TypeId) (hg : ∃ cur : Array Value, cur.size = m ∧ w.heap[g]? = some (.cells cur t (0, 0)))
    (hsrc : ∀ j v, cs[j]? = some v → w.cell? (ad.add j) = some v) (h1 : ∀ v ∈ cs, v.oneCell' = true)
    (h : K (a.put o.dst (goInt m)) (w.setRow g cs.toArray)) :
    if Region.wanted o (yielded ops a.tmps) = true then Oper.wp P o a w K Q else E := by
  obtain ⟨cur, hcur, hg⟩ := hg
  have hw : Region.wanted o (yielded ops a.tmps) = true := by simp [Region.wanted, hgd]
  rw [if_pos hw]
  have hrun := run_copy_row (P := P) w dT sT o.type elem g 0 m m ad m m cur t cs hu hsz hg (by simp [hn]) hsrc (by omega) h1
  have e : (cur.toList.take 0 ++ cs ++ cur.toList.drop (0 + cs.length)) = cs := by
    have : cur.toList.drop (0 + cs.length) = [] := List.drop_eq_nil_of_le (by simp; omega)
    rw [this]; simp
  rw [e, hn] at hrun
  unfold Oper.wp
  simp [execOp, ho, resolve, invoke, builtin, hd, hs, hrun, Result.andThen]
  exact h

end Go.Proofs.Ybulkcahi.Occ
