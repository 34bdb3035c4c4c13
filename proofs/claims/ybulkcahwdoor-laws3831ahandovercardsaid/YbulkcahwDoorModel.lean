/-
  THE MODEL's SIDE: where it lies (one block, mb), and the walks of its reach and conflicts.
-/
import Derived.Test.YbulkcahwDoorHandR
namespace Go.Proofs.YbulkcahwDoor.Ho
open Go.RowKit
set_option linter.unusedVariables false

theorem info3 : (Ybad.prog.info? 3).map (fun i => (i.zero, i.size, i.bytes)) = some (some (.int .i64 0), 1, 8) := by kernel_rfl

def skipI : Option Nat → Int
  | some u => (u : Int)
  | none => -1

/-- What the model's side has left alone: all below N but the block mb. -/
structure FrM (mb N : Nat) (w w' : World) : Prop where
  os : w'.os = w.os
  tape : w'.tape = w.tape
  output : w'.output = w.output
  size : w.heap.size ≤ w'.heap.size
  block : ∀ k, k < N → k ≠ mb → w'.heap[k]? = w.heap[k]?

theorem FrM.refl (mb N : Nat) (w : World) : FrM mb N w w := ⟨rfl, rfl, rfl, Nat.le_refl _, fun _ _ _ => rfl⟩
theorem FrM.trans {mb N : Nat} {a b c : World} (h : FrM mb N a b) (k : FrM mb N b c) : FrM mb N a c :=
  ⟨k.os.trans h.os, k.tape.trans h.tape, k.output.trans h.output, Nat.le_trans h.size k.size, fun i h1 h2 => (k.block i h1 h2).trans (h.block i h1 h2)⟩
theorem FrM.set {mb N : Nat} {a w : World} (h : FrM mb N a w) (o : Nat) (v : Value) : FrM mb N a (w.setCell ⟨mb, o, none⟩ v) :=
  h.trans ⟨rfl, rfl, rfl, by simp, fun k _ hk => Below.heap_setCell _ _ _ _ hk⟩
theorem FrM.alloc {mb N : Nat} {a w : World} (h : FrM mb N a w) (hn : N ≤ w.heap.size) (o : Obj) : FrM mb N a (w.alloc o) :=
  h.trans ⟨rfl, rfl, rfl, by simp, fun k hk _ => Below.heap_alloc _ _ _ (by omega)⟩
theorem FrM.drewN {mb N : Nat} {a w : World} (h : FrM mb N a w) (m : Nat) : FrM mb N a (w.drewN m) := ⟨h.os, h.tape, h.output, h.size, h.block⟩
theorem FrM.grown {mb N : Nat} {a w w' : World} {row : Option Nat} (h : FrM mb N a w) (hg : w.grownBy w' row) (hn : N ≤ w.heap.size) (hr : ∀ k, row = some k → N ≤ k) : FrM mb N a w' :=
  h.trans ⟨hg.os, hg.tape, hg.output, hg.size, fun k hk _ => hg.block k (by omega) (fun e => by have := hr k e.symm; omega)⟩
theorem FrM.cell {mb N : Nat} {a w : World} (h : FrM mb N a w) {b o : Nat} {v : Value} (hb : b < N) (hm : b ≠ mb) (hc : a.cell? ⟨b, o, none⟩ = some v) : w.cell? ⟨b, o, none⟩ = some v := ckeep hc (h.block b hb hm)

structure MdS (w : World) (mb N : Nat) (tt : Bool) (qi : Nat) (s : St) : Prop where
  lt : mb < N
  size : N ≤ w.heap.size
  free : Free w mb
  seen : ∀ i, i < 4 → w.cell? ⟨mb, i, none⟩ = some (.bool (s.seen i))
  s4 : ∃ v, w.cell? ⟨mb, 4, none⟩ = some v ∧ w.ownsRow N 3 1 v s.stk.length (s.stk.map fun (u : Nat) => .int .i64 (u : Int))
  s5 : w.cell? ⟨mb, 5, none⟩ = some (.bool s.back)
  s6 : w.cell? ⟨mb, 6, none⟩ = some (.bool tt)
  s7 : w.cell? ⟨mb, 7, none⟩ = some (.int .i64 (qi : Nat))
  s8 : w.cell? ⟨mb, 8, none⟩ = some (.int .i64 (skipI s.skip))
  s9 : w.cell? ⟨mb, 9, none⟩ = some (.int .i64 s.skAt)

section
variable {w : World} {mb N qi : Nat} {tt : Bool} {s : St}

theorem MdS.drewN (h : MdS w mb N tt qi s) (m : Nat) : MdS (w.drewN m) mb N tt qi s := ⟨h.lt, h.size, h.free, h.seen, h.s4, h.s5, h.s6, h.s7, h.s8, h.s9⟩

theorem MdS.alloc (h : MdS w mb N tt qi s) (o : Obj) : MdS (w.alloc o) mb N tt qi s := by
  obtain ⟨v, h4, hown⟩ := h.s4
  exact ⟨h.lt, by have := h.size; simp; omega, h.free.alloc o, fun i hi => calloc (h.seen i hi) o, ⟨v, calloc h4 o, hown.alloc o⟩, calloc h.s5 o, calloc h.s6 o, calloc h.s7 o, calloc h.s8 o, calloc h.s9 o⟩

theorem MdS.setBack (h : MdS w mb N tt qi s) (b : Bool) : MdS (w.setCell ⟨mb, 5, none⟩ (.bool b)) mb N tt qi { s with back := b } := by
  obtain ⟨v, h4, hown⟩ := h.s4
  exact ⟨h.lt, by have := h.size; simpa using this, h.free.set _ _ _, fun i hi => cset (h.seen i hi) (by omega), ⟨v, cset h4 (by omega), own_set hown h.lt _⟩, csame h.s5, cset h.s6 (by omega), cset h.s7 (by omega), cset h.s8 (by omega), cset h.s9 (by omega)⟩

theorem MdS.setSeen (h : MdS w mb N tt qi s) {u : Nat} (hu : u < 4) : MdS (w.setCell ⟨mb, u, none⟩ (.bool true)) mb N tt qi { s with seen := fun i => if i = u then true else s.seen i } := by
  obtain ⟨v, h4, hown⟩ := h.s4
  refine ⟨h.lt, by have := h.size; simpa using this, h.free.set _ _ _, fun i hi => ?_, ⟨v, cset h4 (by omega), own_set hown h.lt _⟩, cset h.s5 (by omega), cset h.s6 (by omega), cset h.s7 (by omega), cset h.s8 (by omega), cset h.s9 (by omega)⟩
  by_cases e : i = u
  · subst e
    simpa using csame (h.seen i hi)
  · simpa [e] using cset (h.seen i hi) (u := .bool true) (b' := mb) (o' := u) (by omega)

theorem MdS.push {w1 : World} {v' v : Value} {u : Nat} (h : MdS w mb N tt qi s) (h4 : w.cell? ⟨mb, 4, none⟩ = some v) (hv : ∀ k, v.ownBlock = some k → N ≤ k) (hown : w1.ownsRow N 3 1 v' (s.stk.length + 1) ((s.stk.map fun (u : Nat) => .int .i64 (u : Int)) ++ [.int .i64 (u : Int)]))
    (hg : w.grownBy w1 v.ownBlock) : MdS (w1.setCell ⟨mb, 4, none⟩ v') mb N tt qi { s with stk := s.stk ++ [u] } := by
  have hl := h.lt
  have hsz := h.size
  have keep : w1.heap[mb]? = w.heap[mb]? := hg.block mb (by omega) (fun e => by have := hv mb e.symm; omega)
  have hc : ∀ {o : Nat} {x : Value}, w.cell? ⟨mb, o, none⟩ = some x → o ≠ 4 → (w1.setCell ⟨mb, 4, none⟩ v').cell? ⟨mb, o, none⟩ = some x := fun hx hne => cset (ckeep hx keep) (.inr hne)
  refine ⟨h.lt, by have := hg.size; simp; omega, (h.free.of_block keep).set _ _ _, fun i hi => hc (h.seen i hi) (by omega), ⟨v', csame (ckeep h4 keep), ?_⟩, hc h.s5 (by omega), hc h.s6 (by omega), hc h.s7 (by omega), hc h.s8 (by omega), hc h.s9 (by omega)⟩
  have := own_set hown (b := mb) (o := 4) hl v'
  simpa using this

theorem MdS.setSkip (h : MdS w mb N tt qi s) (x : Option Nat) : MdS (w.setCell ⟨mb, 8, none⟩ (.int .i64 (skipI x))) mb N tt qi { s with skip := x } := by
  obtain ⟨v, h4, hown⟩ := h.s4
  exact ⟨h.lt, by have := h.size; simpa using this, h.free.set _ _ _, fun i hi => cset (h.seen i hi) (by omega), ⟨v, cset h4 (by omega), own_set hown h.lt _⟩, cset h.s5 (by omega), cset h.s6 (by omega), cset h.s7 (by omega), csame h.s8, cset h.s9 (by omega)⟩

theorem MdS.setSkAt (h : MdS w mb N tt qi s) (x : Int) : MdS (w.setCell ⟨mb, 9, none⟩ (.int .i64 x)) mb N tt qi { s with skAt := x } := by
  obtain ⟨v, h4, hown⟩ := h.s4
  exact ⟨h.lt, by have := h.size; simpa using this, h.free.set _ _ _, fun i hi => cset (h.seen i hi) (by omega), ⟨v, cset h4 (by omega), own_set hown h.lt _⟩, cset h.s5 (by omega), cset h.s6 (by omega), cset h.s7 (by omega), cset h.s8 (by omega), csame h.s9⟩
end

set_option maxHeartbeats 400000 in
set_option maxRecDepth 100000 in
theorem mreach_any (w : World) (mb N qi : Nat) (tt : Bool) (s : St) (u : Nat) (hu : u < 4) (hG : MdS w mb N tt qi s) (hlen : s.stk.length ≤ 100000) :
    Calls Ybad.prog 7 #[.pointer (some ⟨mb, 0, none⟩), .int .i64 (u : Nat)] w fun e w' => e = .returned (.bool (reach tt u s).1) ∧ MdS w' mb N tt qi (reach tt u s).2 ∧ FrM mb N w w' := by
  have c0 := hG.seen u hu
  have c5 := hG.s5
  have c6 := hG.s6
  have ff := hG.free.frozen
  have bu : (u : Int) < 4 := by omega
  by_cases h0 : u = 0
  · subst h0
    have b0 : ((0 : Int) == 0) = true := rfl
    go_enter Ybad.func7, Ybad.ntmps7
    go_wp2
    go_ret
    exact ⟨rfl, hG.setBack tt, (FrM.refl _ _ _).set _ _⟩
  · have b0 : ((u : Int) == 0) = false := by simp; omega
    by_cases hs : s.seen u = true
    · rw [hs] at c0
      go_enter Ybad.func7, Ybad.ntmps7
      go_wp2
      go_ret
      have er : reach tt u s = (false, s) := by simp [reach, h0, hs]
      rw [er]
      exact ⟨rfl, hG, FrM.refl _ _ _⟩
    · rw [Bool.not_eq_true] at hs
      rw [hs] at c0
      have er : reach tt u s = (false, markS s u) := by simp [reach, h0, hs]
      rw [er]
      obtain ⟨v, c4, hown⟩ := hG.s4
      obtain ⟨i0, hi, hz0, hz1, hz2⟩ := info_parts info3
      have hlt := hG.lt
      have hsz := hG.size
      have hv : ∀ k, v.ownBlock = some k → N ≤ k := fun k hk => (hown.lt k hk).1
      have hG2 := hide (hG.setSeen hu)
      have hown2 := hide (own_set (b := mb) (o := u) hown hlt (.bool true))
      have HG := hide hG
      clear hown hG er
      go_enter Ybad.func7, Ybad.ntmps7
      go_wp2_with (at_builtin; refine wpList_append_own _ rfl _ _ 29 rfl N 3 i0 (.int .i64 0) 1 8 Ybad.underlying29 hi hz0 hz1 hz2 rfl (by decide) _ _ _ rfl (hown2.out.alloc _) ⟨w.heap.size, 0, none⟩ 1 1 [.int .i64 (u : Nat)] rfl rfl ?c1 ?c2 ?c3 ?c4 ?c5 ?_)
      case c1 => exact one_new (by simp) _ _
      case c2 => intro u hu; simp at hu; subst hu; rfl
      case c3 => unfold maxLen; omega
      case c4 => omega
      case c5 => simp; omega
      intro v' w1 hown' hgrow _
      have hG3 := hG2.out.alloc (.cells #[.int .i64 (u : Nat)] 3)
      have d4 : ((w.setCell ⟨mb, u, none⟩ (.bool true)).alloc (.cells #[.int .i64 (u : Nat)] 3)).cell? ⟨mb, 4, none⟩ = some v := calloc (cset c4 (by omega)) _
      have hG4 := hide (hG3.push d4 hv hown' hgrow)
      have hF := hide (((((FrM.refl mb N w).set u (.bool true)).alloc (by simp; omega) (.cells #[.int .i64 (u : Nat)] 3)).grown hgrow (by simp; omega) hv).set 4 v')
      have keep : w1.heap[mb]? = ((w.setCell ⟨mb, u, none⟩ (.bool true)).alloc (.cells #[.int .i64 (u : Nat)] 3)).heap[mb]? := hgrow.block _ (by simp; omega) (fun e => by have := hv _ e.symm; omega)
      have g1 := ckeep d4 keep
      have g2 := (hG3.free.of_block keep).frozen 4
      have hex : ∃ a n c, v' = .slice a n c := by
        rcases hown'.2 with ⟨h, _⟩ | ⟨g, cap, cur, h, _⟩ <;> exact ⟨_, _, _, h⟩
      obtain ⟨va, vn, vc, rfl⟩ := hex
      clear hown' hgrow hG3 d4 keep hG2 hown2 HG
      go_wp2
      go_ret
      exact ⟨rfl, hG4.out, hF.out⟩

set_option maxHeartbeats 400000 in
set_option maxRecDepth 100000 in
theorem mconfl_any (w : World) (mb N qi : Nat) (tt : Bool) (s : St) (u : Nat) (a : Int) (hu : u < 4) (hq : qi < 4) (hG : MdS w mb N tt qi s) (hlen : s.stk.length ≤ 100000) (hS : Small s) :
    Calls Ybad.prog 6 #[.pointer (some ⟨mb, 0, none⟩), .int .i64 (u : Nat), .int .i64 a] w fun e w' => e = .returned (.bool (confl tt qi u a s).1) ∧ MdS w' mb N tt qi (confl tt qi u a s).2 ∧ FrM mb N w w' := by
  have c7 := hG.s7
  have c8 := hG.s8
  have c9 := hG.s9
  have f8 := hG.free.frozen 8
  have f9 := hG.free.frozen 9
  by_cases h0 : u = qi
  · subst h0
    have b0 : ((u : Int) == (u : Int)) = true := by simp
    by_cases hs : s.skip = some u
    · have er : confl tt u u a s = (false, s) := by simp [confl, hs]
      rw [er]
      simp only [hs, skipI] at c8
      clear er hs
      go_enter Ybad.func6, Ybad.ntmps6
      go_wp2_with fail
      go_quiet (fail)
      go_wp2
      go_ret
      exact ⟨rfl, hG.drewN _, (FrM.refl _ _ _).drewN _⟩
    · have er : confl tt u u a s = (false, { { s with skip := some u } with skAt := a }) := by simp [confl, hs]
      rw [er]
      have hne : (skipI s.skip != (u : Int)) = true := by
        rw [bne_iff_ne]
        cases hk : s.skip with
        | none => simp [skipI]
        | some x =>
          rw [hk] at hs
          simp [skipI]
          intro e
          exact hs (by rw [show x = u by omega])
      obtain ⟨sv, hsv⟩ : ∃ sv, skipI s.skip = sv := ⟨_, rfl⟩
      rw [hsv] at c8 hne
      have hGG := hide hG
      clear hsv hG
      go_enter Ybad.func6, Ybad.ntmps6
      go_wp2_with fail
      go_quiet (fail)
      have hG2 := hide (((hGG.out.drewN nq).setSkip (some u)).setSkAt a)
      have hF := hide ((((FrM.refl mb N w).drewN nq).set 8 (.int .i64 (skipI (some u)))).set 9 (.int .i64 a))
      clear hGG
      go_wp2
      go_ret
      exact ⟨rfl, hG2.out, hF.out⟩
  · have b0 : ((u : Int) == (qi : Int)) = false := by simp; omega
    have er : confl tt qi u a s = reach tt u s := by simp [confl, h0]
    rw [er]
    clear er
    go_enter Ybad.func6, Ybad.ntmps6
    go_wp2_with fail
    refine (mreach_any w mb N qi tt s u hu hG hlen).mono ?_
    rintro e w1 ⟨rfl, hG1, hF1⟩
    go_wp2
    go_ret
    exact ⟨rfl, hG1, hF1⟩
end Go.Proofs.YbulkcahwDoor.Ho
