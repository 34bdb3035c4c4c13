/-
  THE WALK of newOccupancy.
-/
import Derived.Test.YbulkcahiOccAdd
namespace Go.Proofs.Ybulkcahi.Occ
open Go.RowKit
set_option linter.unusedVariables false

theorem info33 : (Yba.prog.info? 33).map (fun i => (i.zero, i.size, i.bytes)) = some (some (.slice none 0 0), 1, 24) := by kernel_rfl
theorem info35 : (Yba.prog.info? 35).map (fun i => (i.zero, i.size, i.bytes)) = some (some (.int .u64 0), 1, 8) := by kernel_rfl

/-- The header of level j. -/
def head (n : Nat) (bl : Nat → Nat) (j : Nat) : Value := .slice (some ⟨bl j, 0, none⟩) (M n (j + 1)) (M n (j + 1))
def heads (n : Nat) (bl : Nat → Nat) (l : Nat) : List Value := (List.range l).map (head n bl)

/-- While it is being made. -/
structure Making (w0 w : World) (n l : Nat) (v : Value) (bl : Nat → Nat) : Prop where
  bel : Below w0.heap.size w0 w
  own : w.ownsRow w0.heap.size 33 1 v l (heads n bl l)
  row : ∀ j, j < l → w.rowIs (bl j) 35 (M n (j + 1)) (fun _ => .int .u64 0)
  base : ∀ j, j < l → w0.heap.size ≤ bl j
  inc : ∀ j j', j < j' → j' < l → bl j < bl j'

theorem own_type {w : World} {base e size n : Nat} {v : Value} {xs : List Value} (h : w.ownsRow base e size v n xs) {b t m : Nat} {f : Nat → Value} (hr : w.rowIs b t m f) (hne : e ≠ t) : some b ≠ v.ownBlock := by
  intro hb
  obtain ⟨c, hc, _⟩ := hr
  rcases h.2 with ⟨rfl, _⟩ | ⟨g, cap, cur, rfl, _, hg, _⟩
  · simp [Value.ownBlock] at hb
  · simp only [Value.ownBlock, Option.some.injEq] at hb
    subst hb
    rw [hg] at hc
    simp at hc
    exact hne hc.2

theorem making_start (w : World) (n : Nat) (bl : Nat → Nat) : Making w w n 0 (.slice none 0 0) bl :=
  ⟨Below.refl _ _, by simpa [heads] using World.ownsRow_nil w w.heap.size 33 1, fun j hj => absurd hj (by omega), fun j hj => absurd hj (by omega), fun j j' _ hj => absurd hj (by omega)⟩

theorem making_next {w wr w1 : World} {n l : Nat} {v v' : Value} {bl : Nat → Nat} {o : Obj} (hM : Making w wr n l v bl)
    (hown : w1.ownsRow w.heap.size 33 1 v' (l + 1) (heads n bl l ++ [.slice (some ⟨wr.heap.size, 0, none⟩) (M n (l + 1)) (M n (l + 1))]))
    (hg : ((wr.alloc (.cells (madeCells #[.int .u64 0] (M n (l + 1))) 35)).alloc o).grownBy w1 v.ownBlock) :
    Making w w1 n (l + 1) v' (fun j => if j = l then wr.heap.size else bl j) := by
  have hlt : ∀ k, v.ownBlock = some k → w.heap.size ≤ k ∧ k < wr.heap.size := hM.own.lt
  have hsz := hM.bel.size
  have eh : heads n bl l ++ [Value.slice (some ⟨wr.heap.size, 0, none⟩) (M n (l + 1)) (M n (l + 1))] = heads n (fun j => if j = l then wr.heap.size else bl j) (l + 1) := by
    simp only [heads, List.range_succ, List.map_append, List.map_cons, List.map_nil]
    congr 1
    · refine List.map_congr_left fun j hj => ?_
      have : j < l := List.mem_range.1 hj
      simp [head, show j ≠ l by omega]
    · simp [head]
  refine ⟨?_, eh ▸ hown, fun j hj => ?_, fun j hj => ?_, fun j j' hjj hj' => ?_⟩
  · exact ((hM.bel.alloc hsz _).alloc (by simp; omega) _).grown hg (by simp; omega) (fun k hk => (hlt k hk).1)
  · by_cases e : j = l
    · subst e
      simp only [if_true]
      refine ((World.rowIs_made wr (.int .u64 0) (M n (j + 1)) 35).alloc o).of_block (hg.block _ (by simp; omega) ?_)
      intro e; have := (hlt _ e.symm).2; omega
    · simp only [e, if_false]
      have hr := hM.row j (by omega)
      have hl := hr.lt
      exact ((hr.alloc _).alloc o).of_block (hg.block _ (by simp; omega) (own_type hM.own hr (by omega)))
  · by_cases e : j = l
    · subst e; simpa using hsz
    · simp only [e, if_false]; exact hM.base j (by omega)
  · have e1 : j ≠ l := by omega
    by_cases e : j' = l
    · subst e; simp only [e1, if_true, if_false]; exact (hM.row j (by omega)).lt
    · simp only [e, e1, if_false]; exact hM.inc j j' hjj (by omega)

theorem making_occ {w w1 : World} {n L : Nat} {v : Value} {bl : Nat → Nat} (hM : Making w w1 n L v bl) (hL : 0 < L) :
    ∃ hb cap, v = .slice (some ⟨hb, 0, none⟩) L cap ∧ Occ w1 w.heap.size hb L n bl (fun _ _ => 0) := by
  have hown := hM.own
  rcases hown.2 with ⟨_, h0⟩ | ⟨g, cap, cur, rfl, hbg, hg, _⟩
  · omega
  · refine ⟨g, cap, rfl, hbg, (hown.lt g rfl).2, fun l hl => ?_, fun l hl => ?_, fun l l' hl hl' e => ?_, fun l hl e => ?_, hM.base, fun m _ i _ => by omega⟩
    · rw [hown.cellAt l (by omega)]
      simp [heads, hl, head]
    · exact hM.row l hl
    · rcases Nat.lt_trichotomy l l' with h | h | h
      · have := hM.inc l l' h hl'; omega
      · exact h
      · have := hM.inc l' l h hl; omega
    · exact own_type hown (hM.row l hl) (by omega) (by rw [e]; rfl)

set_option maxHeartbeats 400000 in
theorem new_any (w : World) (n : Nat) (h0 : 0 < n) (hn : n ≤ 8192) :
    Calls Yba.prog 9 #[.int .u64 (n : Nat)] w fun e w' => ∃ hb L cap bl, e = .returned (.slice (some ⟨hb, 0, none⟩) L cap) ∧
      0 < L ∧ L ≤ 8192 ∧ M n L = 1 ∧ (∀ j, j + 1 < L → 1 < M n (j + 1)) ∧ Occ w' w.heap.size hb L n bl (fun _ _ => 0) ∧ Below w.heap.size w w' := by
  obtain ⟨i0, hi, hz0, hz1, hz2⟩ := info_parts info33
  go_enter Yba.func9, Yba.ntmps9
  go_wp2
  go_loopg [0, 3] n (fun g s0 s3 wr => ∃ (l : Nat) (bl : Nat → Nat), g = M n l ∧ s0 = .int .u64 (M n l : Nat) ∧ (∀ j, j < l → 1 < M n (j + 1)) ∧ Making w wr n l s3 bl)
  case atStart => exact ⟨0, fun _ => 0, rfl, rfl, fun j hj => absurd hj (by omega), making_start w n _⟩
  case round =>
    obtain ⟨l, bl, rfl, rfl, hmany, hM⟩ := hrel
    have hb1 := M_le n hn l
    have hb2 := M_le n hn (l + 1)
    have hpos := M_pos n h0 (l + 1)
    have hdown := M_down n l hmany h0
    have e1 : (M n l + 63) / 64 = M n (l + 1) := rfl
    have e2 : ((M n l : Int) + 63) / 64 = ((M n (l + 1) : Nat) : Int) := by omega
    have hmk := run_make_row' (P := Yba.prog) 33 35 (.int .u64 0) 8 Yba.underlying33 info35 rfl .u64 .u64 (M n (l + 1)) (by omega) (by omega)
    have hsz := hM.bel.size
    have Hm : Hid (∀ j, j < l → 1 < M n (j + 1)) := hmany
    clear hmany
    go_wp2_with (at_builtin; refine wpList_append_own _ rfl _ _ 26 rfl w.heap.size 33 i0 (.slice none 0 0) 1 24 Yba.underlying26 hi hz0 hz1 hz2 rfl (by decide) _ _ _ rfl ((hM.own.alloc _).alloc _) ⟨wr.heap.size + 1, 0, none⟩ 1 1 [.slice (some ⟨wr.heap.size, 0, none⟩) (M n (l + 1)) (M n (l + 1))] rfl rfl ?c1 ?c2 ?c3 ?c4 ?c5 ?_)
    case c1 =>
      intro j u hj
      match j, hj with
      | 0, hj => simp at hj; subst hj; simp [Addr.add]
    case c2 => intro u hu; simp at hu; subst hu; rfl
    case c3 => unfold maxLen; omega
    case c4 => omega
    case c5 => simp; omega
    intro v' w1 hown' hgrow _
    have hM1 := making_next hM hown' hgrow
    clear hown' hgrow hmk
    by_cases hone : M n (l + 1) = 1
    · have hone' : ((M n (l + 1) : Int) == 1) = true := by simp; omega
      obtain ⟨hb, cap, rfl, hO⟩ := making_occ hM1 (by omega)
      have Hone : Hid (M n (l + 1) = 1) := hone
      clear hone
      go_wp2
      go_ret
      exact ⟨hb, l + 1, cap, _, rfl, by omega, by omega, Hone.out, fun j hj => Hm.out j (by omega), hO, hM1.bel⟩
    · have hone' : ((M n (l + 1) : Int) == 1) = false := by simp; omega
      go_wp2
      go_roundg (M n (l + 1))
      case measure => go_light; omega
      case rel =>
        go_light
        refine ⟨l + 1, _, rfl, rfl, fun j hj => ?_, hM1⟩
        by_cases e : j = l
        · subst e; omega
        · exact Hm.out j (by omega)

end Go.Proofs.Ybulkcahi.Occ
