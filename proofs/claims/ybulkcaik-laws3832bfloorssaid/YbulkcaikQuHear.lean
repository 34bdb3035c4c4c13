/-
  THE WALK of HearReady.
-/
import Derived.Test.YbulkcaikQuCalls
import Derived.Test.YbulkcaikQuSetup
import Derived.Test.YbulkcaikOrder
namespace Go.Proofs.Ybulkcaik.Qu
open Go.RowKit
set_option linter.unusedVariables false
set_option linter.unusedSimpArgs false
variable {B qb gb n gc : Nat} {pb : Nat → Nat} {pv : Nat → PV} {ms : Nat → Nat} {D : Nat → DataW Unit}

/-- Of the blocks that there were only b1 and b2 may have turned. -/
structure Chg (w w' : World) (b1 b2 : Nat) : Prop where
  os : w'.os = w.os
  tape : w'.tape = w.tape
  output : w'.output = w.output
  size : w.heap.size ≤ w'.heap.size
  block : ∀ b, b < w.heap.size → b ≠ b1 → b ≠ b2 → w'.heap[b]? = w.heap[b]?

namespace Chg
variable {w w' : World} {b1 b2 : Nat}
theorem refl (w : World) (b1 b2 : Nat) : Chg w w b1 b2 := ⟨rfl, rfl, rfl, Nat.le_refl _, fun _ _ _ _ => rfl⟩
theorem drewN (h : Chg w w' b1 b2) (m : Nat) : Chg w (w'.drewN m) b1 b2 := ⟨h.os, h.tape, h.output, h.size, h.block⟩
theorem alloc (h : Chg w w' b1 b2) (o : Obj) : Chg w (w'.alloc o) b1 b2 :=
  ⟨h.os, h.tape, h.output, by have := h.size; simp; omega, fun b hb h1 h2 => (Below.heap_alloc _ _ _ (Nat.lt_of_lt_of_le hb h.size)).trans (h.block b hb h1 h2)⟩
theorem set (h : Chg w w' b1 b2) (i : Nat) (v : Value) : Chg w (w'.setCell ⟨b1, i, none⟩ v) b1 b2 :=
  ⟨h.os, h.tape, h.output, by have := h.size; simpa [World.setCell] using this, fun b hb h1 h2 => (Below.heap_setCell _ _ _ _ h1).trans (h.block b hb h1 h2)⟩
theorem grown {w2 : World} (h : Chg w w' b1 b2) (hg : w'.grownBy w2 (some b2)) : Chg w w2 b1 b2 :=
  ⟨hg.os.trans h.os, hg.tape.trans h.tape, hg.output.trans h.output, Nat.le_trans h.size hg.size, fun b hb h1 h2 => (hg.block b (Nat.lt_of_lt_of_le hb h.size) (fun e => h2 (by simpa using e))).trans (h.block b hb h1 h2)⟩
theorem below {B : Nat} (h : Chg w w' b1 b2) (h1 : B ≤ b1) (h2 : B ≤ b2) (hB : B ≤ w.heap.size) : Below B w w' :=
  ⟨h.os, h.tape, h.output, h.size, fun b hb => h.block b (by omega) (by omega) (by omega)⟩
end Chg

/-- The map turned, all else as it was. -/
theorem Qu.mapped {w w' : World} (h : Qu w B qb gb n gc pb pv ms D) {k m : Nat} {D' : DataW Unit} (hk : k < n) (hm : MapAt w' (pb k - 2) m D') (e : ∀ b, b < w.heap.size → b ≠ pb k - 2 → w'.heap[b]? = w.heap[b]?) :
    Qu w' B qb gb n gc pb pv (fun j => if j = k then m else ms j) (fun j => if j = k then D' else D j) := by
  obtain ⟨cq, hq⟩ := h.qt
  obtain ⟨cg, hg⟩ := h.gt
  have lq := (Array.getElem?_eq_some_iff.1 hq).1
  have lg := (Array.getElem?_eq_some_iff.1 hg).1
  have nq := (h.f k hk).ne hq
  have ng := (h.f k hk).ne hg
  refine ⟨(World.cell?_of_block (w := w) (e qb lq nq)).trans h.q0, ⟨cq, (e _ lq nq).trans hq⟩, ⟨cg, (e _ lg ng).trans hg⟩, fun j hj => (World.cell?_of_block (w := w) (e gb lg ng)).trans (h.g j hj), fun j hj => ?_, fun j hj => ?_, h.bq, h.bg, h.bp, h.inc⟩
  · obtain ⟨c, hc⟩ := (h.p j hj).blk
    exact (h.p j hj).of_block (e _ (h.p j hj).lt ((h.f k hk).ne hc))
  · by_cases ej : j = k
    · subst ej; simpa using hm
    · simp only [ej, if_false]
      refine (h.f j hj).of_block (e _ (h.f j hj).lt fun e1 => ej (h.inj hj hk ?_))
      have := h.bp j hj
      have := h.bp k hk
      omega

/-- clear(m). -/
theorem clear_run {w : World} {b m : Nat} {D0 : DataW Unit} (h : MapAt w b m D0) : ∃ w', (∀ ty, (Builtin.clear_ #[89] ty #[.map (some b)]).run Yba.prog w = .ok (.tuple #[]) w') ∧ MapAt w' b 0 (.map []) ∧ w.grownBy w' (some b) := by
  obtain ⟨es, clock, hb, _⟩ := h
  have lt := (Array.getElem?_eq_some_iff.1 hb).1
  refine ⟨{ w with heap := w.heap.setIfInBounds b (.map #[] clock) }, ?_, ⟨#[], clock, by simp [lt], ⟨by simp, MapKept.stamped_empty clock, by simp⟩, Nat.le_refl _, rfl⟩, ⟨rfl, rfl, rfl, by simp, fun i _ hi => ?_⟩⟩
  · intro ty
    simp [Builtin.clear_, run_underlying Yba.underlying89, MapKept.run_getObj_map hb, Result.andThen, MapKept.run_setObj_map _ hb]
  · have : b ≠ i := fun e => hi (by rw [e])
    simp [this]

/-- The map that the given floors lay. -/
def putAll (fs : Nat → ByteArray) (fv : Nat → Nat) : Nat → DataW Unit
  | 0 => .map []
  | i + 1 => (putAll fs fv i).put (.string (fs i).data.toList) (.lit (.int .u64 (fv i : Nat)))

/-- Whether the floor rises. -/
def rise (pv : Nat → PV) (n k unled : Nat) : Bool :=
  decide ((pv k).fl < unled) && !(pv k).bk && ((pv k).aw && decide (0 < (pv k).lo) && decide (0 < (pv k).fl)) && !accTo pv (pv k).lo n

def heardPv (pv : Nat → PV) (n k clock unled : Nat) (j : Nat) : PV :=
  if j = k then { pv k with fl := if rise pv n k unled then unled else (pv k).fl, rc := clock, bk := true } else pv j

/-- The floors' cells. -/
def Cells2 (w : World) (fb fo m : Nat) (fs : Nat → ByteArray) (fv : Nat → Nat) : Prop := ∀ i, i < m →
  w.cell? ⟨fb, fo + i * 2, none⟩ = some (.string (fs i)) ∧ w.cell? ⟨fb, fo + i * 2 + 1, none⟩ = some (.int .u64 (fv i : Nat))

theorem heard_ready {w W : World} {pv' pvF : Nat → PV} {k clock : Nat} (hQ : Qu W B qb gb n gc pb pv' ms D) (hk : k < n) (hC : Chg w W (pb k) (pb k - 2)) (he : ∀ j, j < n → (if j = k then { pv' k with rc := clock, bk := true } else pv' j) = pvF j) :
    ∃ w3, (∀ ty, (Builtin.clear_ #[89] ty #[.map (some (pb k - 2))]).run Yba.prog ((W.setCell ⟨pb k, 12, none⟩ (.int .u64 (clock : Nat))).setCell ⟨pb k, 11, none⟩ (.bool true)) = .ok (.tuple #[]) w3) ∧
      Hid (Qu w3 B qb gb n gc pb pvF (fun j => if j = k then 0 else ms j) (fun j => if j = k then .map [] else D j)) ∧ Hid (Chg w w3 (pb k) (pb k - 2)) := by
  have hp := hQ.p k hk
  have h1 := hQ.turn hk (hp.s12 clock)
  have p1 := hp.s12 clock
  have h2 := h1.turn hk (p1.s11 true)
  obtain ⟨w3, hrun, hmap, hg⟩ := clear_run (h2.f k hk)
  refine ⟨w3, hrun, (h2.mapped hk hmap fun b hb hne => hg.block b hb (by simpa using hne)).congr fun j hj => ?_, ((hC.set 12 _).set 11 _).grown hg⟩
  rw [← he j hj]
  by_cases e : j = k
  · subst e; simp
  · simp [e]

/-- One floor laid. -/
theorem floor_laid {w wr : World} {pv' : Nat → PV} {k i : Nat} {fs : Nat → ByteArray} {fv : Nat → Nat} (c : Array Value) (hk : k < n) (hi : i < 1024) (hC : Chg w wr (pb k) (pb k - 2))
    (hQ : Qu wr B qb gb n gc pb pv' (fun j => if j = k then i else ms j) (fun j => if j = k then putAll fs fv i else D j)) (hs : (fs i).size ≤ maxLen) (hv : fv i < 18446744073709551616) :
    ∃ w3, (Instr.mapUpdate 89 (.map (some (pb k - 2))) (.string (fs i)) (.int .u64 (fv i : Nat))).run Yba.prog (wr.alloc (.cells c 27)).drew = .ok () w3 ∧
      Hid (Qu w3 B qb gb n gc pb pv' (fun j => if j = k then i + 1 else ms j) (fun j => if j = k then putAll fs fv (i + 1) else D j)) ∧ Hid (Chg w w3 (pb k) (pb k - 2)) := by
  have hQ1 : Qu (wr.alloc (.cells c 27)).drew B qb gb n gc pb pv' (fun j => if j = k then i else ms j) (fun j => if j = k then putAll fs fv i else D j) := (hQ.alloc _).drewN 1
  have hm : MapAt (wr.alloc (.cells c 27)).drew (pb k - 2) i (putAll fs fv i) := by simpa using hQ1.f k hk
  obtain ⟨w3, hrun, hmap, hg⟩ := hm.update (Maps.string_keyed Yba.underlying9) Yba.underlying89 (by unfold maxLen; omega) (WideMaps.keyOf_string_mk Yba.underlying9 hs) (plainElem_int (H := Unit) Yba.underlying22 (a := (fv i : Int)) (by simp [Lit.wf, IntKind.min, IntKind.max, IntKind.signed, IntKind.bits]; omega))
  refine ⟨w3, hrun, ?_, ((hC.alloc _).drewN 1).grown hg⟩
  have h := hQ1.mapped hk hmap fun b hb hne => hg.block b hb (by simpa using hne)
  refine ⟨h.q0, h.qt, h.gt, h.g, h.p, fun j hj => ?_, h.bq, h.bg, h.bp, h.inc⟩
  have := h.f j hj
  by_cases e : j = k
  · subst e; simpa [putAll] using this
  · simpa [e] using this

set_option maxRecDepth 100000 in
set_option maxHeartbeats 2000000 in
theorem hear_any (w : World) (k clock unled : Nat) (fa : Option Addr) (m fc fb fo : Nat) (fs : Nat → ByteArray) (fv : Nat → Nat) (hk : k < n) (hn : n ≤ 300) (hm : m ≤ 1024) (hQ : Qu w B qb gb n gc pb pv ms D)
    (hnm : ∀ j, j < n → (pv j).nm = nm j) (hfa : 0 < m → fa = some ⟨fb, fo, none⟩) (hf : Cells2 w fb fo m fs fv) (hfp : 0 < m → fb ≠ pb k ∧ fb ≠ pb k - 2) (hfs : ∀ i, i < m → (fs i).size ≤ maxLen) (hfv : ∀ i, i < m → fv i < 18446744073709551616) :
    Calls Yba.prog 9 #[.pointer (some ⟨qb, 0, none⟩), .string (nm k), .int .u64 (clock : Nat), .int .u64 (unled : Nat), .slice fa m fc] w fun e w' =>
      e = .returned (.bool (rise pv n k unled)) ∧ Qu w' B qb gb n gc pb (heardPv pv n k clock unled) (fun j => if j = k then m else ms j) (fun j => if j = k then putAll fs fv m else D j) ∧ Chg w w' (pb k) (pb k - 2) := by
  have hp := hQ.p k hk
  have c7 := hp.c7
  have c11 := hp.c11
  have c12 := hp.c12
  have c19 := hp.c19
  have f0 := hp.fz
  go_enter Yba.func9, Yba.ntmps9
  go_wp2_with fail
  refine (named_any w k hk hn hQ hnm).mono ?_
  rintro e w1 ⟨rfl, hw1⟩
  obtain rfl := hw1.symm
  by_cases h1 : (pv k).fl < unled
  · have d1 : decide (((pv k).fl : Int) < (unled : Int)) = true := decide_eq_true (by omega)
    cases h2 : (pv k).bk with
    | true =>
      rw [h2] at c11
      have Hr : Hid (rise pv n k unled = false) := by show rise pv n k unled = false; simp [rise, h2]
      obtain ⟨w3, hclr, HQ3, HC3⟩ := heard_ready (clock := clock) hQ hk (Chg.refl w _ _) (pvF := heardPv pv n k clock unled) (fun j hj => by by_cases e : j = k <;> simp [heardPv, e, Hr.out])
      go_wp2_with fail
      clear c7 c11 c12 c19 f0 hclr hp hQ
      go_loopg [58] m (fun g s58 wr => ∃ i, i ≤ m ∧ g = m - i ∧ s58 = .int .i64 (i : Nat) ∧ Qu wr B qb gb n gc pb (heardPv pv n k clock unled) (fun j => if j = k then i else ms j) (fun j => if j = k then putAll fs fv i else D j) ∧ Chg w wr (pb k) (pb k - 2))
      case atStart => exact ⟨0, Nat.zero_le _, rfl, rfl, HQ3.out, HC3.out⟩
      case round =>
        obtain ⟨i, hi, rfl, rfl, hq, hc⟩ := hrel
        clear HQ3 HC3
        by_cases hlt : i < m
        · have hd : decide ((i : Int) < (m : Int)) = true := decide_eq_true (by omega)
          obtain rfl := hfa (by omega)
          obtain ⟨x0, x1⟩ := hf i hlt
          obtain ⟨np, nm2⟩ := hfp (by omega)
          have hfb : fb < w.heap.size := World.block_lt_of_cell? _ _ x0
          have y0 : wr.cell? ⟨fb, fo + i * 2, none⟩ = some (.string (fs i)) := (World.cell?_of_block (w := w) (a := ⟨fb, fo + i * 2, none⟩) (hc.block fb hfb np nm2)).trans x0
          have y1 : wr.cell? ⟨fb, fo + i * 2 + 1, none⟩ = some (.int .u64 (fv i : Nat)) := (World.cell?_of_block (w := w) (a := ⟨fb, fo + i * 2 + 1, none⟩) (hc.block fb hfb np nm2)).trans x1
          have e19 := (hq.p k hk).c19
          have lp := (hq.p k hk).lt
          obtain ⟨w5, hrun, HQ5, HC5⟩ := floor_laid #[.string (fs i), .int .u64 (fv i : Nat)] hk (by omega) hc hq (hfs i hlt) (hfv i hlt)
          clear x0 x1 hf hfa hfs hfv hnm hq hc hfp
          go_wp2_with fail
          refine region_E (S := fun w' => w' = (wr.alloc (.cells #[.string (fs i), .int .u64 (fv i : Nat)] 27)).drew) (f := 8) (by kernel_rfl) ?_
          show AnyE _ _ _ _ _ _ 9 (Array.replicate 9 false) _ _
          refine anyE_take (i := 0) (oi := _) (v := ?_) rfl (by kernel_rfl) (fun _ _ _ h => h) (by rfl) ?_ rfl ?_
          case refine_2 => rintro w' rfl; go_simp; with_reducible rfl
          simp only [Act.put, List.setIfInBounds_toArray, List.set_cons_zero, List.set_cons_succ]
          refine anyE_take (i := 1) (oi := _) (v := ?_) rfl (by kernel_rfl) (fun _ _ _ h => h) (by rfl) ?_ rfl ?_
          case refine_2 => rintro w' rfl; go_simp; with_reducible rfl
          simp only [Act.put, List.setIfInBounds_toArray, List.set_cons_zero, List.set_cons_succ]
          refine anyE_take (i := 2) (oi := _) (v := ?_) rfl (by kernel_rfl) (fun _ _ _ h => h) (by rfl) ?_ rfl ?_
          case refine_2 => rintro w' rfl; go_simp; with_reducible rfl
          simp only [Act.put, List.setIfInBounds_toArray, List.set_cons_zero, List.set_cons_succ]
          refine anyE_take (i := 3) (oi := _) (v := ?_) rfl (by kernel_rfl) (fun _ _ _ h => h) (by rfl) ?_ rfl ?_
          case refine_2 => rintro w' rfl; go_simp; with_reducible rfl
          simp only [Act.put, List.setIfInBounds_toArray, List.set_cons_zero, List.set_cons_succ]
          refine anyE_take (i := 4) (oi := _) (v := ?_) rfl (by kernel_rfl) (fun _ _ _ h => h) (by rfl) ?_ rfl ?_
          case refine_2 => rintro w' rfl; go_simp; with_reducible rfl
          simp only [Act.put, List.setIfInBounds_toArray, List.set_cons_zero, List.set_cons_succ]
          refine anyE_take (i := 5) (oi := _) (v := ?_) rfl (by kernel_rfl) (fun _ _ _ h => h) (by rfl) ?_ rfl ?_
          case refine_2 => rintro w' rfl; go_simp; with_reducible rfl
          simp only [Act.put, List.setIfInBounds_toArray, List.set_cons_zero, List.set_cons_succ]
          refine anyE_take (i := 6) (oi := _) (v := ?_) rfl (by kernel_rfl) (fun _ _ _ h => h) (by rfl) ?_ rfl ?_
          case refine_2 => rintro w' rfl; go_simp; with_reducible rfl
          simp only [Act.put, List.setIfInBounds_toArray, List.set_cons_zero, List.set_cons_succ]
          refine anyE_take (i := 7) (oi := _) (v := ?_) rfl (by kernel_rfl) (fun _ _ _ h => h) (by rfl) ?_ rfl ?_
          case refine_2 => rintro w' rfl; go_simp; with_reducible rfl
          simp only [Act.put, List.setIfInBounds_toArray, List.set_cons_zero, List.set_cons_succ]
          refine anyE_only (i := 8) rfl (by kernel_rfl) rfl fun K hK => ?_
          go_simp
          refine hK _ _ (.inl (by kernel_rfl)) (anyE_done (by kernel_rfl) ?_)
          clear hK K hrun
          go_wp2
          go_roundg (m - (i + 1))
          case measure => go_light; omega
          case rel => go_light; exact ⟨i + 1, by omega, rfl, by go_num, HQ5.out, HC5.out⟩
        · have hd : decide ((i : Int) < (m : Int)) = false := decide_eq_false (by omega)
          obtain rfl : i = m := by omega
          clear hf hfa hfs hfv hnm hfp
          go_wp2
          go_ret
          exact ⟨by rw [Hr.out]; rfl, hq, hc⟩
    | false =>
      rw [h2] at c11
      obtain ⟨r, hr⟩ : ∃ r : Nat, r = if (pv k).aw && decide (0 < (pv k).lo) then (pv k).fl else 0 := ⟨_, rfl⟩
      have HRr : Hid (r = if (pv k).aw && decide (0 < (pv k).lo) then (pv k).fl else 0) := hr
      clear hr
      go_wp2_with fail
      refine (returned_any w (pb k) _ r (pv k) hp HRr.out).mono ?_
      rintro e w2 ⟨rfl, hw2⟩
      obtain rfl := hw2.symm
      by_cases h3 : 0 < r
      · have d3 : decide ((0 : Int) < (r : Int)) = true := decide_eq_true (by omega)
        have hret : ((pv k).aw && decide (0 < (pv k).lo) && decide (0 < (pv k).fl)) = true := by
          have := HRr.out
          cases hx : ((pv k).aw && decide (0 < (pv k).lo)) with
          | false => rw [hx] at this; simp at this; omega
          | true => rw [hx] at this; simp at this; simp; omega
        have Hret : Hid (((pv k).aw && decide (0 < (pv k).lo) && decide (0 < (pv k).fl)) = true) := hret
        clear hret HRr
        go_wp2_with fail
        refine (accompanied_any w k _ hk hn hQ rfl).mono ?_
        rintro e w4 ⟨rfl, d, rfl⟩
        have hQd := hQ.drewN d
        have hpd := hQd.p k hk
        have c7 := hpd.c7
        have c11 := hpd.c11
        have c12 := hpd.c12
        have c19 := hpd.c19
        have f0 := hpd.fz
        cases h4 : accTo pv (pv k).lo n with
        | true =>
          have Hr : Hid (rise pv n k unled = false) := by show rise pv n k unled = false; simp [rise, h4]
          obtain ⟨w3, hclr, HQ3, HC3⟩ := heard_ready (clock := clock) hQd hk ((Chg.refl w _ _).drewN d) (pvF := heardPv pv n k clock unled) (fun j hj => by by_cases e : j = k <;> simp [heardPv, e, Hr.out])
          clear hQd hpd
          go_wp2_with fail
          clear c7 c11 c12 c19 f0 hclr hp hQ
          go_loopg [58] m (fun g s58 wr => ∃ i, i ≤ m ∧ g = m - i ∧ s58 = .int .i64 (i : Nat) ∧ Qu wr B qb gb n gc pb (heardPv pv n k clock unled) (fun j => if j = k then i else ms j) (fun j => if j = k then putAll fs fv i else D j) ∧ Chg w wr (pb k) (pb k - 2))
          case atStart => exact ⟨0, Nat.zero_le _, rfl, rfl, HQ3.out, HC3.out⟩
          case round =>
            obtain ⟨i, hi, rfl, rfl, hq, hc⟩ := hrel
            clear HQ3 HC3
            by_cases hlt : i < m
            · have hd : decide ((i : Int) < (m : Int)) = true := decide_eq_true (by omega)
              obtain rfl := hfa (by omega)
              obtain ⟨x0, x1⟩ := hf i hlt
              obtain ⟨np, nm2⟩ := hfp (by omega)
              have hfb : fb < w.heap.size := World.block_lt_of_cell? _ _ x0
              have y0 : wr.cell? ⟨fb, fo + i * 2, none⟩ = some (.string (fs i)) := (World.cell?_of_block (w := w) (a := ⟨fb, fo + i * 2, none⟩) (hc.block fb hfb np nm2)).trans x0
              have y1 : wr.cell? ⟨fb, fo + i * 2 + 1, none⟩ = some (.int .u64 (fv i : Nat)) := (World.cell?_of_block (w := w) (a := ⟨fb, fo + i * 2 + 1, none⟩) (hc.block fb hfb np nm2)).trans x1
              have e19 := (hq.p k hk).c19
              have lp := (hq.p k hk).lt
              obtain ⟨w5, hrun, HQ5, HC5⟩ := floor_laid #[.string (fs i), .int .u64 (fv i : Nat)] hk (by omega) hc hq (hfs i hlt) (hfv i hlt)
              clear x0 x1 hf hfa hfs hfv hnm hq hc hfp
              go_wp2_with fail
              refine region_E (S := fun w' => w' = (wr.alloc (.cells #[.string (fs i), .int .u64 (fv i : Nat)] 27)).drew) (f := 8) (by kernel_rfl) ?_
              show AnyE _ _ _ _ _ _ 9 (Array.replicate 9 false) _ _
              refine anyE_take (i := 0) (oi := _) (v := ?_) rfl (by kernel_rfl) (fun _ _ _ h => h) (by rfl) ?_ rfl ?_
              case refine_2 => rintro w' rfl; go_simp; with_reducible rfl
              simp only [Act.put, List.setIfInBounds_toArray, List.set_cons_zero, List.set_cons_succ]
              refine anyE_take (i := 1) (oi := _) (v := ?_) rfl (by kernel_rfl) (fun _ _ _ h => h) (by rfl) ?_ rfl ?_
              case refine_2 => rintro w' rfl; go_simp; with_reducible rfl
              simp only [Act.put, List.setIfInBounds_toArray, List.set_cons_zero, List.set_cons_succ]
              refine anyE_take (i := 2) (oi := _) (v := ?_) rfl (by kernel_rfl) (fun _ _ _ h => h) (by rfl) ?_ rfl ?_
              case refine_2 => rintro w' rfl; go_simp; with_reducible rfl
              simp only [Act.put, List.setIfInBounds_toArray, List.set_cons_zero, List.set_cons_succ]
              refine anyE_take (i := 3) (oi := _) (v := ?_) rfl (by kernel_rfl) (fun _ _ _ h => h) (by rfl) ?_ rfl ?_
              case refine_2 => rintro w' rfl; go_simp; with_reducible rfl
              simp only [Act.put, List.setIfInBounds_toArray, List.set_cons_zero, List.set_cons_succ]
              refine anyE_take (i := 4) (oi := _) (v := ?_) rfl (by kernel_rfl) (fun _ _ _ h => h) (by rfl) ?_ rfl ?_
              case refine_2 => rintro w' rfl; go_simp; with_reducible rfl
              simp only [Act.put, List.setIfInBounds_toArray, List.set_cons_zero, List.set_cons_succ]
              refine anyE_take (i := 5) (oi := _) (v := ?_) rfl (by kernel_rfl) (fun _ _ _ h => h) (by rfl) ?_ rfl ?_
              case refine_2 => rintro w' rfl; go_simp; with_reducible rfl
              simp only [Act.put, List.setIfInBounds_toArray, List.set_cons_zero, List.set_cons_succ]
              refine anyE_take (i := 6) (oi := _) (v := ?_) rfl (by kernel_rfl) (fun _ _ _ h => h) (by rfl) ?_ rfl ?_
              case refine_2 => rintro w' rfl; go_simp; with_reducible rfl
              simp only [Act.put, List.setIfInBounds_toArray, List.set_cons_zero, List.set_cons_succ]
              refine anyE_take (i := 7) (oi := _) (v := ?_) rfl (by kernel_rfl) (fun _ _ _ h => h) (by rfl) ?_ rfl ?_
              case refine_2 => rintro w' rfl; go_simp; with_reducible rfl
              simp only [Act.put, List.setIfInBounds_toArray, List.set_cons_zero, List.set_cons_succ]
              refine anyE_only (i := 8) rfl (by kernel_rfl) rfl fun K hK => ?_
              go_simp
              refine hK _ _ (.inl (by kernel_rfl)) (anyE_done (by kernel_rfl) ?_)
              clear hK K hrun
              go_wp2
              go_roundg (m - (i + 1))
              case measure => go_light; omega
              case rel => go_light; exact ⟨i + 1, by omega, rfl, by go_num, HQ5.out, HC5.out⟩
            · have hd : decide ((i : Int) < (m : Int)) = false := decide_eq_false (by omega)
              obtain rfl : i = m := by omega
              clear hf hfa hfs hfv hnm hfp
              go_wp2
              go_ret
              exact ⟨by rw [Hr.out]; rfl, hq, hc⟩
        | false =>
          have Hr : Hid (rise pv n k unled = true) := by show rise pv n k unled = true; simp only [rise, h4, h2, Hret.out]; simp [h1]
          obtain ⟨w3, hclr, HQ3, HC3⟩ := heard_ready (clock := clock) (hQd.turn hk (hpd.s7 unled)) hk (((Chg.refl w _ _).drewN d).set 7 _) (pvF := heardPv pv n k clock unled) (fun j hj => by by_cases e : j = k <;> simp [heardPv, e, Hr.out])
          clear hQd hpd
          go_wp2_with fail
          clear c7 c11 c12 c19 f0 hclr hp hQ
          go_loopg [58] m (fun g s58 wr => ∃ i, i ≤ m ∧ g = m - i ∧ s58 = .int .i64 (i : Nat) ∧ Qu wr B qb gb n gc pb (heardPv pv n k clock unled) (fun j => if j = k then i else ms j) (fun j => if j = k then putAll fs fv i else D j) ∧ Chg w wr (pb k) (pb k - 2))
          case atStart => exact ⟨0, Nat.zero_le _, rfl, rfl, HQ3.out, HC3.out⟩
          case round =>
            obtain ⟨i, hi, rfl, rfl, hq, hc⟩ := hrel
            clear HQ3 HC3
            by_cases hlt : i < m
            · have hd : decide ((i : Int) < (m : Int)) = true := decide_eq_true (by omega)
              obtain rfl := hfa (by omega)
              obtain ⟨x0, x1⟩ := hf i hlt
              obtain ⟨np, nm2⟩ := hfp (by omega)
              have hfb : fb < w.heap.size := World.block_lt_of_cell? _ _ x0
              have y0 : wr.cell? ⟨fb, fo + i * 2, none⟩ = some (.string (fs i)) := (World.cell?_of_block (w := w) (a := ⟨fb, fo + i * 2, none⟩) (hc.block fb hfb np nm2)).trans x0
              have y1 : wr.cell? ⟨fb, fo + i * 2 + 1, none⟩ = some (.int .u64 (fv i : Nat)) := (World.cell?_of_block (w := w) (a := ⟨fb, fo + i * 2 + 1, none⟩) (hc.block fb hfb np nm2)).trans x1
              have e19 := (hq.p k hk).c19
              have lp := (hq.p k hk).lt
              obtain ⟨w5, hrun, HQ5, HC5⟩ := floor_laid #[.string (fs i), .int .u64 (fv i : Nat)] hk (by omega) hc hq (hfs i hlt) (hfv i hlt)
              clear x0 x1 hf hfa hfs hfv hnm hq hc hfp
              go_wp2_with fail
              refine region_E (S := fun w' => w' = (wr.alloc (.cells #[.string (fs i), .int .u64 (fv i : Nat)] 27)).drew) (f := 8) (by kernel_rfl) ?_
              show AnyE _ _ _ _ _ _ 9 (Array.replicate 9 false) _ _
              refine anyE_take (i := 0) (oi := _) (v := ?_) rfl (by kernel_rfl) (fun _ _ _ h => h) (by rfl) ?_ rfl ?_
              case refine_2 => rintro w' rfl; go_simp; with_reducible rfl
              simp only [Act.put, List.setIfInBounds_toArray, List.set_cons_zero, List.set_cons_succ]
              refine anyE_take (i := 1) (oi := _) (v := ?_) rfl (by kernel_rfl) (fun _ _ _ h => h) (by rfl) ?_ rfl ?_
              case refine_2 => rintro w' rfl; go_simp; with_reducible rfl
              simp only [Act.put, List.setIfInBounds_toArray, List.set_cons_zero, List.set_cons_succ]
              refine anyE_take (i := 2) (oi := _) (v := ?_) rfl (by kernel_rfl) (fun _ _ _ h => h) (by rfl) ?_ rfl ?_
              case refine_2 => rintro w' rfl; go_simp; with_reducible rfl
              simp only [Act.put, List.setIfInBounds_toArray, List.set_cons_zero, List.set_cons_succ]
              refine anyE_take (i := 3) (oi := _) (v := ?_) rfl (by kernel_rfl) (fun _ _ _ h => h) (by rfl) ?_ rfl ?_
              case refine_2 => rintro w' rfl; go_simp; with_reducible rfl
              simp only [Act.put, List.setIfInBounds_toArray, List.set_cons_zero, List.set_cons_succ]
              refine anyE_take (i := 4) (oi := _) (v := ?_) rfl (by kernel_rfl) (fun _ _ _ h => h) (by rfl) ?_ rfl ?_
              case refine_2 => rintro w' rfl; go_simp; with_reducible rfl
              simp only [Act.put, List.setIfInBounds_toArray, List.set_cons_zero, List.set_cons_succ]
              refine anyE_take (i := 5) (oi := _) (v := ?_) rfl (by kernel_rfl) (fun _ _ _ h => h) (by rfl) ?_ rfl ?_
              case refine_2 => rintro w' rfl; go_simp; with_reducible rfl
              simp only [Act.put, List.setIfInBounds_toArray, List.set_cons_zero, List.set_cons_succ]
              refine anyE_take (i := 6) (oi := _) (v := ?_) rfl (by kernel_rfl) (fun _ _ _ h => h) (by rfl) ?_ rfl ?_
              case refine_2 => rintro w' rfl; go_simp; with_reducible rfl
              simp only [Act.put, List.setIfInBounds_toArray, List.set_cons_zero, List.set_cons_succ]
              refine anyE_take (i := 7) (oi := _) (v := ?_) rfl (by kernel_rfl) (fun _ _ _ h => h) (by rfl) ?_ rfl ?_
              case refine_2 => rintro w' rfl; go_simp; with_reducible rfl
              simp only [Act.put, List.setIfInBounds_toArray, List.set_cons_zero, List.set_cons_succ]
              refine anyE_only (i := 8) rfl (by kernel_rfl) rfl fun K hK => ?_
              go_simp
              refine hK _ _ (.inl (by kernel_rfl)) (anyE_done (by kernel_rfl) ?_)
              clear hK K hrun
              go_wp2
              go_roundg (m - (i + 1))
              case measure => go_light; omega
              case rel => go_light; exact ⟨i + 1, by omega, rfl, by go_num, HQ5.out, HC5.out⟩
            · have hd : decide ((i : Int) < (m : Int)) = false := decide_eq_false (by omega)
              obtain rfl : i = m := by omega
              clear hf hfa hfs hfv hnm hfp
              go_wp2
              go_ret
              exact ⟨by rw [Hr.out]; rfl, hq, hc⟩
      · have d3 : decide ((0 : Int) < (r : Int)) = false := decide_eq_false (by omega)
        have Hr : Hid (rise pv n k unled = false) := by
          have := HRr.out
          show rise pv n k unled = false
          cases hx : ((pv k).aw && decide (0 < (pv k).lo)) with
          | false => simp only [rise, hx]; simp
          | true =>
            rw [hx] at this
            simp at this
            have h0 : (pv k).fl = 0 := by omega
            simp [rise, h0]
        clear HRr
        obtain ⟨w3, hclr, HQ3, HC3⟩ := heard_ready (clock := clock) hQ hk (Chg.refl w _ _) (pvF := heardPv pv n k clock unled) (fun j hj => by by_cases e : j = k <;> simp [heardPv, e, Hr.out])
        go_wp2_with fail
        clear c7 c11 c12 c19 f0 hclr hp hQ
        go_loopg [58] m (fun g s58 wr => ∃ i, i ≤ m ∧ g = m - i ∧ s58 = .int .i64 (i : Nat) ∧ Qu wr B qb gb n gc pb (heardPv pv n k clock unled) (fun j => if j = k then i else ms j) (fun j => if j = k then putAll fs fv i else D j) ∧ Chg w wr (pb k) (pb k - 2))
        case atStart => exact ⟨0, Nat.zero_le _, rfl, rfl, HQ3.out, HC3.out⟩
        case round =>
          obtain ⟨i, hi, rfl, rfl, hq, hc⟩ := hrel
          clear HQ3 HC3
          by_cases hlt : i < m
          · have hd : decide ((i : Int) < (m : Int)) = true := decide_eq_true (by omega)
            obtain rfl := hfa (by omega)
            obtain ⟨x0, x1⟩ := hf i hlt
            obtain ⟨np, nm2⟩ := hfp (by omega)
            have hfb : fb < w.heap.size := World.block_lt_of_cell? _ _ x0
            have y0 : wr.cell? ⟨fb, fo + i * 2, none⟩ = some (.string (fs i)) := (World.cell?_of_block (w := w) (a := ⟨fb, fo + i * 2, none⟩) (hc.block fb hfb np nm2)).trans x0
            have y1 : wr.cell? ⟨fb, fo + i * 2 + 1, none⟩ = some (.int .u64 (fv i : Nat)) := (World.cell?_of_block (w := w) (a := ⟨fb, fo + i * 2 + 1, none⟩) (hc.block fb hfb np nm2)).trans x1
            have e19 := (hq.p k hk).c19
            have lp := (hq.p k hk).lt
            obtain ⟨w5, hrun, HQ5, HC5⟩ := floor_laid #[.string (fs i), .int .u64 (fv i : Nat)] hk (by omega) hc hq (hfs i hlt) (hfv i hlt)
            clear x0 x1 hf hfa hfs hfv hnm hq hc hfp
            go_wp2_with fail
            refine region_E (S := fun w' => w' = (wr.alloc (.cells #[.string (fs i), .int .u64 (fv i : Nat)] 27)).drew) (f := 8) (by kernel_rfl) ?_
            show AnyE _ _ _ _ _ _ 9 (Array.replicate 9 false) _ _
            refine anyE_take (i := 0) (oi := _) (v := ?_) rfl (by kernel_rfl) (fun _ _ _ h => h) (by rfl) ?_ rfl ?_
            case refine_2 => rintro w' rfl; go_simp; with_reducible rfl
            simp only [Act.put, List.setIfInBounds_toArray, List.set_cons_zero, List.set_cons_succ]
            refine anyE_take (i := 1) (oi := _) (v := ?_) rfl (by kernel_rfl) (fun _ _ _ h => h) (by rfl) ?_ rfl ?_
            case refine_2 => rintro w' rfl; go_simp; with_reducible rfl
            simp only [Act.put, List.setIfInBounds_toArray, List.set_cons_zero, List.set_cons_succ]
            refine anyE_take (i := 2) (oi := _) (v := ?_) rfl (by kernel_rfl) (fun _ _ _ h => h) (by rfl) ?_ rfl ?_
            case refine_2 => rintro w' rfl; go_simp; with_reducible rfl
            simp only [Act.put, List.setIfInBounds_toArray, List.set_cons_zero, List.set_cons_succ]
            refine anyE_take (i := 3) (oi := _) (v := ?_) rfl (by kernel_rfl) (fun _ _ _ h => h) (by rfl) ?_ rfl ?_
            case refine_2 => rintro w' rfl; go_simp; with_reducible rfl
            simp only [Act.put, List.setIfInBounds_toArray, List.set_cons_zero, List.set_cons_succ]
            refine anyE_take (i := 4) (oi := _) (v := ?_) rfl (by kernel_rfl) (fun _ _ _ h => h) (by rfl) ?_ rfl ?_
            case refine_2 => rintro w' rfl; go_simp; with_reducible rfl
            simp only [Act.put, List.setIfInBounds_toArray, List.set_cons_zero, List.set_cons_succ]
            refine anyE_take (i := 5) (oi := _) (v := ?_) rfl (by kernel_rfl) (fun _ _ _ h => h) (by rfl) ?_ rfl ?_
            case refine_2 => rintro w' rfl; go_simp; with_reducible rfl
            simp only [Act.put, List.setIfInBounds_toArray, List.set_cons_zero, List.set_cons_succ]
            refine anyE_take (i := 6) (oi := _) (v := ?_) rfl (by kernel_rfl) (fun _ _ _ h => h) (by rfl) ?_ rfl ?_
            case refine_2 => rintro w' rfl; go_simp; with_reducible rfl
            simp only [Act.put, List.setIfInBounds_toArray, List.set_cons_zero, List.set_cons_succ]
            refine anyE_take (i := 7) (oi := _) (v := ?_) rfl (by kernel_rfl) (fun _ _ _ h => h) (by rfl) ?_ rfl ?_
            case refine_2 => rintro w' rfl; go_simp; with_reducible rfl
            simp only [Act.put, List.setIfInBounds_toArray, List.set_cons_zero, List.set_cons_succ]
            refine anyE_only (i := 8) rfl (by kernel_rfl) rfl fun K hK => ?_
            go_simp
            refine hK _ _ (.inl (by kernel_rfl)) (anyE_done (by kernel_rfl) ?_)
            clear hK K hrun
            go_wp2
            go_roundg (m - (i + 1))
            case measure => go_light; omega
            case rel => go_light; exact ⟨i + 1, by omega, rfl, by go_num, HQ5.out, HC5.out⟩
          · have hd : decide ((i : Int) < (m : Int)) = false := decide_eq_false (by omega)
            obtain rfl : i = m := by omega
            clear hf hfa hfs hfv hnm hfp
            go_wp2
            go_ret
            exact ⟨by rw [Hr.out]; rfl, hq, hc⟩
  · have d1 : decide (((pv k).fl : Int) < (unled : Int)) = false := decide_eq_false (by omega)
    have Hr : Hid (rise pv n k unled = false) := by show rise pv n k unled = false; simp [rise, h1]
    obtain ⟨w3, hclr, HQ3, HC3⟩ := heard_ready (clock := clock) hQ hk (Chg.refl w _ _) (pvF := heardPv pv n k clock unled) (fun j hj => by by_cases e : j = k <;> simp [heardPv, e, Hr.out])
    go_wp2_with fail
    clear c7 c11 c12 c19 f0 hclr hp hQ
    go_loopg [58] m (fun g s58 wr => ∃ i, i ≤ m ∧ g = m - i ∧ s58 = .int .i64 (i : Nat) ∧ Qu wr B qb gb n gc pb (heardPv pv n k clock unled) (fun j => if j = k then i else ms j) (fun j => if j = k then putAll fs fv i else D j) ∧ Chg w wr (pb k) (pb k - 2))
    case atStart => exact ⟨0, Nat.zero_le _, rfl, rfl, HQ3.out, HC3.out⟩
    case round =>
      obtain ⟨i, hi, rfl, rfl, hq, hc⟩ := hrel
      clear HQ3 HC3
      by_cases hlt : i < m
      · have hd : decide ((i : Int) < (m : Int)) = true := decide_eq_true (by omega)
        obtain rfl := hfa (by omega)
        obtain ⟨x0, x1⟩ := hf i hlt
        obtain ⟨np, nm2⟩ := hfp (by omega)
        have hfb : fb < w.heap.size := World.block_lt_of_cell? _ _ x0
        have y0 : wr.cell? ⟨fb, fo + i * 2, none⟩ = some (.string (fs i)) := (World.cell?_of_block (w := w) (a := ⟨fb, fo + i * 2, none⟩) (hc.block fb hfb np nm2)).trans x0
        have y1 : wr.cell? ⟨fb, fo + i * 2 + 1, none⟩ = some (.int .u64 (fv i : Nat)) := (World.cell?_of_block (w := w) (a := ⟨fb, fo + i * 2 + 1, none⟩) (hc.block fb hfb np nm2)).trans x1
        have e19 := (hq.p k hk).c19
        have lp := (hq.p k hk).lt
        obtain ⟨w5, hrun, HQ5, HC5⟩ := floor_laid #[.string (fs i), .int .u64 (fv i : Nat)] hk (by omega) hc hq (hfs i hlt) (hfv i hlt)
        clear x0 x1 hf hfa hfs hfv hnm hq hc hfp
        go_wp2_with fail
        refine region_E (S := fun w' => w' = (wr.alloc (.cells #[.string (fs i), .int .u64 (fv i : Nat)] 27)).drew) (f := 8) (by kernel_rfl) ?_
        show AnyE _ _ _ _ _ _ 9 (Array.replicate 9 false) _ _
        refine anyE_take (i := 0) (oi := _) (v := ?_) rfl (by kernel_rfl) (fun _ _ _ h => h) (by rfl) ?_ rfl ?_
        case refine_2 => rintro w' rfl; go_simp; with_reducible rfl
        simp only [Act.put, List.setIfInBounds_toArray, List.set_cons_zero, List.set_cons_succ]
        refine anyE_take (i := 1) (oi := _) (v := ?_) rfl (by kernel_rfl) (fun _ _ _ h => h) (by rfl) ?_ rfl ?_
        case refine_2 => rintro w' rfl; go_simp; with_reducible rfl
        simp only [Act.put, List.setIfInBounds_toArray, List.set_cons_zero, List.set_cons_succ]
        refine anyE_take (i := 2) (oi := _) (v := ?_) rfl (by kernel_rfl) (fun _ _ _ h => h) (by rfl) ?_ rfl ?_
        case refine_2 => rintro w' rfl; go_simp; with_reducible rfl
        simp only [Act.put, List.setIfInBounds_toArray, List.set_cons_zero, List.set_cons_succ]
        refine anyE_take (i := 3) (oi := _) (v := ?_) rfl (by kernel_rfl) (fun _ _ _ h => h) (by rfl) ?_ rfl ?_
        case refine_2 => rintro w' rfl; go_simp; with_reducible rfl
        simp only [Act.put, List.setIfInBounds_toArray, List.set_cons_zero, List.set_cons_succ]
        refine anyE_take (i := 4) (oi := _) (v := ?_) rfl (by kernel_rfl) (fun _ _ _ h => h) (by rfl) ?_ rfl ?_
        case refine_2 => rintro w' rfl; go_simp; with_reducible rfl
        simp only [Act.put, List.setIfInBounds_toArray, List.set_cons_zero, List.set_cons_succ]
        refine anyE_take (i := 5) (oi := _) (v := ?_) rfl (by kernel_rfl) (fun _ _ _ h => h) (by rfl) ?_ rfl ?_
        case refine_2 => rintro w' rfl; go_simp; with_reducible rfl
        simp only [Act.put, List.setIfInBounds_toArray, List.set_cons_zero, List.set_cons_succ]
        refine anyE_take (i := 6) (oi := _) (v := ?_) rfl (by kernel_rfl) (fun _ _ _ h => h) (by rfl) ?_ rfl ?_
        case refine_2 => rintro w' rfl; go_simp; with_reducible rfl
        simp only [Act.put, List.setIfInBounds_toArray, List.set_cons_zero, List.set_cons_succ]
        refine anyE_take (i := 7) (oi := _) (v := ?_) rfl (by kernel_rfl) (fun _ _ _ h => h) (by rfl) ?_ rfl ?_
        case refine_2 => rintro w' rfl; go_simp; with_reducible rfl
        simp only [Act.put, List.setIfInBounds_toArray, List.set_cons_zero, List.set_cons_succ]
        refine anyE_only (i := 8) rfl (by kernel_rfl) rfl fun K hK => ?_
        go_simp
        refine hK _ _ (.inl (by kernel_rfl)) (anyE_done (by kernel_rfl) ?_)
        clear hK K hrun
        go_wp2
        go_roundg (m - (i + 1))
        case measure => go_light; omega
        case rel => go_light; exact ⟨i + 1, by omega, rfl, by go_num, HQ5.out, HC5.out⟩
      · have hd : decide ((i : Int) < (m : Int)) = false := decide_eq_false (by omega)
        obtain rfl : i = m := by omega
        clear hf hfa hfs hfv hnm hfp
        go_wp2
        go_ret
        exact ⟨by rw [Hr.out]; rfl, hq, hc⟩

end Go.Proofs.Ybulkcaik.Qu
