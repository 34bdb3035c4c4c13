/-
  THE WALK of LawS3832BFloors.
-/
import Derived.Test.YbulkcaikFloorsPlain
import Derived.Deep.DeepCutAuto
namespace Go.Proofs.Ybulkcaik.Qu
open Go.RowKit
set_option linter.unusedVariables false

set_option maxRecDepth 100000 in
theorem floors_out (w : World) (n pick clock : Nat) (a3 a4 : Option Addr) (m c3 l c4 : Nat) (h : 1024 < m ∨ (m ≤ 1024 ∧ 1024 < l)) :
    Calls Yba.prog 5 #[.int .u8 (n : Nat), .int .u8 (pick : Nat), .int .u64 (clock : Nat), .slice a3 m c3, .slice a4 l c4] w fun e w' => e = .returned (.bool true) ∧ Below w.heap.size w w' := by
  rcases h with h | ⟨h1, h2⟩
  · have d1 : decide ((1024 : Int) < (m : Int)) = true := decide_eq_true (by omega)
    go_enter Yba.func5, Yba.ntmps5
    go_wp2
    go_ret
    exact ⟨rfl, Below.refl _ _⟩
  · have d1 : decide ((1024 : Int) < (m : Int)) = false := decide_eq_false (by omega)
    have d2 : decide ((1024 : Int) < (l : Int)) = true := decide_eq_true (by omega)
    go_enter Yba.func5, Yba.ntmps5
    go_wp2
    go_ret
    exact ⟨rfl, Below.refl _ _⟩

theorem info84 : (Yba.prog.info? 84).map (fun i => (i.zero, i.size, i.bytes)) = some (some (.agg #[.bool false, .bool false, .int .u64 0, .int .u64 0, .int .u64 0]), 5, 32) := by kernel_rfl
theorem info27' : (Yba.prog.info? 27).map (fun i => (i.zero, i.size, i.bytes)) = some (some (.agg #[.string ⟨#[]⟩, .int .u64 0]), 2, 24) := by kernel_rfl

theorem make84 (n : Nat) (hn : n ≤ 300) (w : World) : (Instr.makeSlice 79 (.int .i64 (n : Int)) (.int .i64 (n : Int))).run Yba.prog w = .ok (.slice (some ⟨w.heap.size, 0, none⟩) n n)
    (w.alloc (.cells (madeCells #[.bool false, .bool false, .int .u64 0, .int .u64 0, .int .u64 0] (n * 5)) 84)) := by
  obtain ⟨i0, hi, hz0, hz1, hz2⟩ := info_parts info84
  have := run_make (P := Yba.prog) w 79 84 i0 _ Yba.underlying79 hi hz0 .i64 .i64 n n (by omega) (Int.le_refl _) (by rw [hz2]; omega) (by omega)
  simpa [hz1, Value.cells] using this

theorem make27 (n : Nat) (hn : n ≤ 1024) (w : World) : (Instr.makeSlice 68 (.int .i64 (n : Int)) (.int .i64 (n : Int))).run Yba.prog w = .ok (.slice (some ⟨w.heap.size, 0, none⟩) n n)
    (w.alloc (.cells (madeCells #[.string ⟨#[]⟩, .int .u64 0] (n * 2)) 27)) := by
  obtain ⟨i0, hi, hz0, hz1, hz2⟩ := info_parts info27'
  have := run_make (P := Yba.prog) w 68 27 i0 _ Yba.underlying68 hi hz0 .i64 .i64 n n (by omega) (Int.le_refl _) (by rw [hz2]; omega) (by omega)
  simpa [hz1, Value.cells] using this

def giv0 : Giv := ⟨false, false, 0, 0, 0⟩

theorem made5 (w : World) (n : Nat) : Cells5 (w.alloc (.cells (madeCells #[.bool false, .bool false, .int .u64 0, .int .u64 0, .int .u64 0] (n * 5)) 84)) w.heap.size 0 n (fun _ => giv0) := by
  intro j hj
  have h : ∀ i, i < 5 → (w.alloc (.cells (madeCells #[.bool false, .bool false, .int .u64 0, .int .u64 0, .int .u64 0] (n * 5)) 84)).cell? ⟨w.heap.size, j * 5 + i, none⟩ = #[Value.bool false, .bool false, .int .u64 0, .int .u64 0, .int .u64 0][i]? := by
    intro i hi
    rw [cell_last _ _ _ _ _ rfl]
    have e1 : (j * 5 + i) % 5 = i := by omega
    simp [madeCells, show j * 5 + i < n * 5 by omega, e1, hi]
  exact ⟨by simpa [giv0] using h 0 (by omega), by simpa [giv0] using h 1 (by omega), by simpa [giv0] using h 2 (by omega), by simpa [giv0] using h 3 (by omega), by simpa [giv0] using h 4 (by omega)⟩

theorem MapAt.ne_cell {w : World} {b n a i : Nat} {D : DataW Unit} {v : Value} (h : MapAt w b n D) (hc : w.cell? ⟨a, i, none⟩ = some v) : a ≠ b := by
  rintro rfl
  obtain ⟨es, clock, hb, _⟩ := h
  simp [World.cell?, hb] at hc

/-- While the earlier entries are laid. -/
structure Fl (w wr : World) (qb gb gc c k : Nat) (pb : Nat → Nat) (j : Nat) : Prop where
  q : ∃ D', Qu wr (w.heap.size + 1) qb gb c gc pb (pvOf fun _ => giv0) (fun i => if i = k then j else 0) (fun i => if i = k then D' else .map [])
  b : Below w.heap.size w wr
  s : ∀ j, j < c → wr.cell? ⟨w.heap.size + 1, j, none⟩ = some (.string (nm j))

theorem old_step {w wr : World} {qb gb gc c k j : Nat} {pb : Nat → Nat} (h : Fl w wr qb gb gc c k pb j) (hk : k < c) (hj : j < 1024) {s : ByteArray} (hs : s.size ≤ maxLen) :
    ∃ w3, (Instr.mapUpdate 89 (.map (some (pb k - 2))) (.string s) (.int .u64 1)).run Yba.prog wr = .ok () w3 ∧ Hid (Fl w w3 qb gb gc c k pb (j + 1)) := by
  obtain ⟨D', hQ⟩ := h.q
  have hm : MapAt wr (pb k - 2) j D' := by simpa using hQ.f k hk
  obtain ⟨w3, hrun, hmap, hg⟩ := hm.update (Maps.string_keyed Yba.underlying9) Yba.underlying89 (by unfold maxLen; omega) (WideMaps.keyOf_string_mk Yba.underlying9 hs) (plainElem_int (H := Unit) Yba.underlying22 (a := 1) (by decide))
  have hb := hQ.bp k hk
  refine ⟨w3, hrun, ⟨D'.put (kl s) (.lit (.int .u64 1)), ?_⟩, h.b.grown hg h.b.size (fun b e => by simp at e; omega), fun i hi => ?_⟩
  · have h2 := hQ.mapped hk hmap fun b hb hne => hg.block b hb (by simpa using hne)
    refine ⟨h2.q0, h2.qt, h2.gt, h2.g, h2.p, fun i hi => ?_, h2.bq, h2.bg, h2.bp, h2.inc⟩
    have := h2.f i hi
    by_cases e : i = k
    · subst e; simpa using this
    · simpa [e] using this
  · have hc := h.s i hi
    exact (World.cell?_of_block (w := wr) (a := ⟨w.heap.size + 1, i, none⟩) (hg.block _ (World.block_lt_of_cell? _ _ hc) (by simpa using hm.ne_cell hc))).trans hc

/-- While the floors are copied. -/
structure Fc (w wr : World) (qb gb gc c k : Nat) (pb : Nat → Nat) (l F m : Nat) (ss : Nat → ByteArray) (lv : Nat → Nat) (i : Nat) : Prop where
  fl : Fl w wr qb gb gc c k pb l
  row : ∃ f, wr.rowIs F 27 (m * 2) f ∧ ∀ j, j < i → f (j * 2) = .string (ss j) ∧ f (j * 2 + 1) = .int .u64 (lv j : Nat)
  base : w.heap.size ≤ F

theorem Fl.alloc {w wr : World} {qb gb gc c k j : Nat} {pb : Nat → Nat} (h : Fl w wr qb gb gc c k pb j) (o : Obj) : Fl w (wr.alloc o) qb gb gc c k pb j := by
  obtain ⟨D', hQ⟩ := h.q
  exact ⟨⟨D', hQ.alloc o⟩, h.b.alloc h.b.size o, fun i hi => by rw [World.cell?_alloc_lt _ _ _ (World.block_lt_of_cell? _ _ (h.s i hi))]; exact h.s i hi⟩

theorem Fl.store {w wr : World} {qb gb gc c k j F m i : Nat} {pb : Nat → Nat} {f : Nat → Value} (h : Fl w wr qb gb gc c k pb j) (hr : wr.rowIs F 27 m f) (hF : w.heap.size ≤ F) (v : Value) (hn : F ≠ w.heap.size + 1) : Fl w (wr.setCell ⟨F, i, none⟩ v) qb gb gc c k pb j := by
  obtain ⟨D', hQ⟩ := h.q
  obtain ⟨cf, hcf, _⟩ := hr
  obtain ⟨cq, hcq⟩ := hQ.qt
  obtain ⟨cg, hcg⟩ := hQ.gt
  refine ⟨⟨D', hQ.past (a := ⟨F, i, none⟩) v fun b hb e => ?_⟩, h.b.setCell hF _, fun i hi => ?_⟩
  · simp only at e
    rcases hb with rfl | rfl | ⟨j, hj, rfl | rfl⟩
    · rw [e, hcf] at hcq; cases hcq
    · rw [e, hcf] at hcg; cases hcg
    · obtain ⟨cp, hcp⟩ := (hQ.p j hj).blk
      rw [e, hcf] at hcp; cases hcp
    · exact (hQ.f j hj).ne (e ▸ hcf) rfl
  · rw [World.cell?_setCell_other _ _ _ _ (by intro e; injection e; omega)]; exact h.s i hi

theorem fc_start {w wr : World} {qb gb gc c k l m : Nat} {pb : Nat → Nat} {ss : Nat → ByteArray} {lv : Nat → Nat} (zs : Array Value) (h : Fl w wr qb gb gc c k pb l) : Fc w (wr.alloc (.cells (madeCells zs (m * 2)) 27)) qb gb gc c k pb l wr.heap.size m ss lv 0 := by
  have hrow := World.rowIs_alloc wr (madeCells zs (m * 2)) 27 (fun i => (madeCells zs (m * 2)).getD i (.bool false)) (fun i hi => by simp [hi])
  rw [size_madeCells] at hrow
  exact ⟨h.alloc _, ⟨_, hrow, fun j hj => absurd hj (by omega)⟩, h.b.size⟩

theorem fc_step {w wr : World} {qb gb gc c k l F m i : Nat} {pb : Nat → Nat} {ss : Nat → ByteArray} {lv : Nat → Nat} (h : Fc w wr qb gb gc c k pb l F m ss lv i) (hi : i < m) (cc : Array Value) (hn : F ≠ w.heap.size + 1) :
    Fc w (((wr.setCell ⟨F, i * 2, none⟩ (.string (ss i))).setCell ⟨F, i * 2 + 1, none⟩ (.int .u64 (lv i : Nat))).alloc (.cells cc 101)) qb gb gc c k pb l F m ss lv (i + 1) := by
  obtain ⟨f, hf, hfi⟩ := h.row
  refine ⟨((h.fl.store hf h.base _ hn).store (hf.set _ _) h.base _ hn).alloc _, ⟨_, ((hf.set _ _).set _ _).alloc _, fun j hj => ?_⟩, h.base⟩
  by_cases e : j = i
  · subst e; simp
  · obtain ⟨h1, h2⟩ := hfi j (by omega)
    simp [show j * 2 ≠ i * 2 by omega, show j * 2 ≠ i * 2 + 1 by omega, show j * 2 + 1 ≠ i * 2 by omega, h1, h2]

theorem look_floor {w : World} {b n m : Nat} {ss : Nat → ByteArray} {lv : Nat → Nat} (h : MapAt w b n (putAll ss lv m)) {x : Nat} (hx : x < m) (hs : (ss x).size ≤ maxLen) :
    (Instr.lookup 89 (.map (some b)) (.string (ss x)) true).run Yba.prog w = .ok (.tuple #[.int .u64 (lv (lastUp ss x m) : Nat), .bool true]) w := by
  obtain ⟨v, ps, hrun, hv⟩ := h.look_ok (Maps.string_keyed Yba.underlying9) Yba.underlying89 (z := .int .u64 0) (by kernel_rfl) (plainElem_int (H := Unit) Yba.underlying22 (a := 0) (by decide)) (WideMaps.keyOf_string_mk Yba.underlying9 hs)
  obtain ⟨h1, h2⟩ := putAll_at (fs := ss) (fv := lv) (.lit (.int .u64 0)) m x hx
  rw [h1] at hrun
  rw [h2] at hv
  obtain ⟨c, rfl, hc, _⟩ := plainElem_int_inv Yba.underlying22 hv
  simp only [Prod.mk.injEq, DataW.lit.injEq, Lit.int.injEq, true_and] at hc
  rw [hrun, hc.1]

theorem seq_beq (a b : ByteArray) : (a.toList == b.toList) = decide (a = b) := by
  by_cases h : a = b
  · subst h; simp
  · simp only [h, decide_false]
    exact beq_eq_false_iff_ne.2 fun e => h (toList_inj e)

set_option maxRecDepth 100000 in
set_option maxHeartbeats 2000000 in
theorem floors_any (w : World) (n pick clock : Nat) (a3 a4 : Option Addr) (m c3 l c4 fb fo sb so : Nat) (ss os : Nat → ByteArray) (lv : Nat → Nat) (hpick : pick < 256) (hn : n < 256) (hm : m ≤ 1024) (hl : l ≤ 1024)
    (ha3 : 0 < m → a3 = some ⟨fb, fo, none⟩) (h3 : Cells2 w fb fo m ss lv) (hss : ∀ i, i < m → (ss i).size ≤ maxLen) (hlv : ∀ i, i < m → lv i < 18446744073709551616)
    (ha4 : 0 < l → a4 = some ⟨sb, so, none⟩) (h4 : ∀ j, j < l → w.cell? ⟨sb, so + j, none⟩ = some (.string (os j))) (hos : ∀ i, i < l → (os i).size ≤ maxLen) :
    Calls Yba.prog 5 #[.int .u8 (n : Nat), .int .u8 (pick : Nat), .int .u64 (clock : Nat), .slice a3 m c3, .slice a4 l c4] w fun e w' => e = .returned (.bool true) ∧ Below w.heap.size w w' := by
  have d1 : decide ((1024 : Int) < (m : Int)) = false := decide_eq_false (by omega)
  have d2 : decide ((1024 : Int) < (l : Int)) = false := decide_eq_false (by omega)
  obtain ⟨c, hc, hc0, hc8⟩ : ∃ c : Nat, (n : Int) % 8 + 1 = (c : Int) ∧ 0 < c ∧ c ≤ 8 := ⟨n % 8 + 1, by omega, by omega, by omega⟩
  obtain ⟨k, hk, hkc⟩ : ∃ k : Nat, (pick : Int) % (c : Int) = (k : Int) ∧ k < c := ⟨pick % c, by simp, Nat.mod_lt _ hc0⟩
  have hmk := make84 c (by omega)
  go_enter Yba.func5, Yba.ntmps5
  go_wp2_with fail
  refine (setup_any _ w.heap.size 0 c c (fun _ => giv0) hc0 (by omega) (made5 w c)).mono ?_
  rintro e w2 ⟨qb, gb, gc, pb, rfl, hQ, hB, hS⟩
  have HQ : Hid (Qu w2 (w.heap.size + 1) qb gb c gc pb (pvOf fun _ => giv0) (fun _ => 0) (fun _ => .map [])) := ⟨hQ.q0, hQ.qt, hQ.gt, hQ.g, hQ.p, hQ.f, by have := hQ.bq; simp at this; omega, by have := hQ.bg; simp at this; omega, fun j hj => by have := hQ.bp j hj; simp at this; omega, hQ.inc⟩
  have HB : Hid (Below w.heap.size w w2) := ((Below.refl w.heap.size w).alloc (Nat.le_refl _) _).trans (hB.mono (by simp))
  have HS : Hid (∀ j, j < c → w2.cell? ⟨w.heap.size + 1, j, none⟩ = some (.string (nm j))) := fun j hj => by simpa using hS j hj
  clear hQ hB hS hmk d1 d2
  go_wp2_with fail
  simp only [hk]
  clear hk hc
  go_loopg [54] l (fun g s54 wr => ∃ j, j ≤ l ∧ g = l - j ∧ s54 = .int .i64 (j : Nat) ∧ Fl w wr qb gb gc c k pb j)
  case atStart =>
    refine ⟨0, Nat.zero_le _, rfl, rfl, ⟨.map [], ?_⟩, HB.out, HS.out⟩
    have h := HQ.out
    exact ⟨h.q0, h.qt, h.gt, h.g, h.p, fun i hi => by have := h.f i hi; by_cases e : i = k <;> simpa [e] using this, h.bq, h.bg, h.bp, h.inc⟩
  case round =>
    obtain ⟨j, hj, rfl, rfl, hF⟩ := hrel
    clear HQ HB HS
    by_cases hlt : j < l
    · have hd : decide ((j : Int) < (l : Int)) = true := decide_eq_true (by omega)
      obtain rfl := ha4 (by omega)
      have hlo : sb < w.heap.size := World.block_lt_of_cell? _ _ (h4 j hlt)
      have x0 : wr.cell? ⟨sb, so + j, none⟩ = some (.string (os j)) := (hF.b.cell (p := ⟨sb, so + j, none⟩) hlo).trans (h4 j hlt)
      obtain ⟨D', hQ⟩ := hF.q
      have q0 := hQ.q0
      have g0 := hQ.g k hkc
      have c19 := (hQ.p k hkc).c19
      obtain ⟨w3, hrun, HF3⟩ := old_step hF hkc (by omega) (hos j hlt)
      clear hQ hF h3 h4 hss hlv hos ha3 ha4
      go_wp2
      go_roundg (l - (j + 1))
      case measure => go_light; omega
      case rel => go_light; exact ⟨j + 1, by omega, rfl, by go_num, HF3.out⟩
    · have hd : decide ((j : Int) < (l : Int)) = false := decide_eq_false (by omega)
      obtain rfl : j = l := by omega
      have hmk := make27 m hm
      have HF : Hid (Fl w wr qb gb gc c k pb j) := hF
      clear hF h4 hos ha4
      go_wp2_with fail
      clear hmk
      obtain ⟨F, hFe⟩ : ∃ F, F = wr.heap.size := ⟨_, rfl⟩
      have hFn : F ≠ w.heap.size + 1 := by
        have h : w.heap.size + 1 < wr.heap.size := World.block_lt_of_cell? _ _ (HF.out.s k hkc)
        omega
      have HC0 : Hid (Fc w (wr.alloc (.cells (madeCells #[.string ⟨#[]⟩, .int .u64 0] (m * 2)) 27)) qb gb gc c k pb j F m ss lv 0) := hFe ▸ fc_start _ HF.out
      rw [← hFe]
      clear hFe HF
      go_loopg [75] m (fun g s75 wr => ∃ i, i ≤ m ∧ g = m - i ∧ s75 = .int .i64 (i : Nat) ∧ Fc w wr qb gb gc c k pb j F m ss lv i)
      case atStart => exact ⟨0, Nat.zero_le _, rfl, rfl, HC0.out⟩
      case round =>
        obtain ⟨i, hi, rfl, rfl, hC⟩ := hrel
        clear HC0
        by_cases hlt2 : i < m
        · have hd2 : decide ((i : Int) < (m : Int)) = true := decide_eq_true (by omega)
          obtain rfl := ha3 (by omega)
          obtain ⟨x0, x1⟩ := h3 i hlt2
          have hlo : fb < w.heap.size := World.block_lt_of_cell? _ _ x0
          have y0 := (hC.fl.b.cell (p := ⟨fb, fo + i * 2, none⟩) hlo).trans x0
          have y1 := (hC.fl.b.cell (p := ⟨fb, fo + i * 2 + 1, none⟩) hlo).trans x1
          obtain ⟨f, hf, _⟩ := hC.row
          have r0 := hf.cell (i := i * 2) (by omega)
          have r1 := hf.cell (i := i * 2 + 1) (by omega)
          have fz0 := hf.frozen (i * 2)
          have fz1 := hf.frozen (i * 2 + 1)
          have lF := hf.lt
          have n1 : ¬ F = wr.heap.size := by omega
          have n2 : ¬ wr.heap.size = F := by omega
          have HC' := (show Hid _ from fc_step hC hlt2 #[.string (ss i), .int .u64 (lv i : Nat)] hFn)
          clear hC hf h3 hss hlv ha3 x0 x1
          go_wp2
          go_roundg (m - (i + 1))
          case measure => go_light; omega
          case rel => go_light; exact ⟨i + 1, by omega, rfl, by go_num, HC'.out⟩
        · have hd2 : decide ((i : Int) < (m : Int)) = false := decide_eq_false (by omega)
          obtain rfl : i = m := by omega
          obtain ⟨D', hQ⟩ := hC.fl.q
          have s0 := hC.fl.s k hkc
          obtain ⟨f, hf, hfi⟩ := hC.row
          have hcells : Cells2 wr F 0 i ss lv := fun j hj => ⟨by rw [show 0 + j * 2 = j * 2 by omega, hf.cell (by omega), (hfi j hj).1], by rw [show 0 + j * 2 + 1 = j * 2 + 1 by omega, hf.cell (by omega), (hfi j hj).2]⟩
          have hFne : F ≠ pb k ∧ F ≠ pb k - 2 := by
            obtain ⟨cf, hcf, _⟩ := hf
            obtain ⟨cp, hcp⟩ := (hQ.p k hkc).blk
            refine ⟨fun e => ?_, (hQ.f k hkc).ne hcf⟩
            rw [e, hcp] at hcf
            cases hcf
          have HBb : Hid (Below w.heap.size w wr) := hC.fl.b
          clear hC
          go_wp2_with fail
          refine (hear_any wr k clock 0 (some ⟨F, 0, none⟩) i i F 0 ss lv hkc (by omega) hm hQ (fun j hj => rfl) (fun _ => rfl) hcells (fun _ => hFne) hss hlv).mono ?_
          rintro e w5 ⟨rfl, hQ5, hC5⟩
          have hp5 := hQ5.p k hkc
          have c7 : w5.cell? ⟨pb k, 7, none⟩ = some (.int .u64 0) := by rw [hp5.c7]; simp only [heardPv, if_true]; split <;> rfl
          have c11 : w5.cell? ⟨pb k, 11, none⟩ = some (.bool true) := by rw [hp5.c11]; simp [heardPv]
          have c12 : w5.cell? ⟨pb k, 12, none⟩ = some (.int .u64 (clock : Nat)) := by rw [hp5.c12]; simp [heardPv]
          have c19 := hp5.c19
          have q0 := hQ5.q0
          have g0 := hQ5.g k hkc
          have hmap : MapAt w5 (pb k - 2) i (putAll ss lv i) := by simpa using hQ5.f k hkc
          have hlen : ∀ ty d, (Builtin.len_ #[89] ty #[.map (some (pb k - 2))]).run Yba.prog (w5.drewN d) = .ok (.int .i64 (lives ss i i : Nat)) (w5.drewN d) := fun ty d => by
            have := World.ownsMap.len (w := w5.drewN d) (MapAt.of_block hmap rfl) Yba.underlying89 ty
            rw [putAll_size] at this
            exact this
          have hlook : Hid (∀ x d, x < i → (Instr.lookup 89 (.map (some (pb k - 2))) (.string (ss x)) true).run Yba.prog (w5.drewN d) = .ok (.tuple #[.int .u64 (lv (lastUp ss x i) : Nat), .bool true]) (w5.drewN d)) := fun x d hx => look_floor (w := w5.drewN d) (MapAt.of_block hmap rfl) hx (hss x hx)
          have hbp := hQ.bp k hkc
          have HB5 : Hid (Below w.heap.size w w5) := HBb.out.trans (hC5.below (by omega) (by omega) HBb.out.size)
          have hF5 : Hid (∀ x, x < i → w5.cell? ⟨F, x * 2, none⟩ = some (.string (ss x)) ∧ w5.cell? ⟨F, x * 2 + 1, none⟩ = some (.int .u64 (lv x : Nat))) := fun x hx => by
            obtain ⟨h1, h2⟩ := hcells x hx
            rw [show 0 + x * 2 = x * 2 by omega] at h1 h2
            have hb := hC5.block F hf.lt hFne.1 hFne.2
            exact ⟨(World.cell?_of_block (w := wr) (a := ⟨F, x * 2, none⟩) hb).trans h1, (World.cell?_of_block (w := wr) (a := ⟨F, x * 2 + 1, none⟩) hb).trans h2⟩
          have h35 : Hid (∀ x, x < i → w5.cell? ⟨fb, fo + x * 2, none⟩ = some (.string (ss x)) ∧ w5.cell? ⟨fb, fo + x * 2 + 1, none⟩ = some (.int .u64 (lv x : Nat))) := fun x hx => by
            obtain ⟨h1, h2⟩ := h3 x hx
            have hlo : fb < w.heap.size := World.block_lt_of_cell? _ _ h1
            exact ⟨(HB5.out.cell (p := ⟨fb, fo + x * 2, none⟩) hlo).trans h1, (HB5.out.cell (p := ⟨fb, fo + x * 2 + 1, none⟩) hlo).trans h2⟩
          clear hp5 hQ5 hC5 hmap hQ hcells hf hfi hFne s0 h3 hss hlv hFn HBb
          go_wp2_with fail
          go_loopg [109, 22] i (fun g s109 s22 wr => ∃ x d, x ≤ i ∧ g = i - x ∧ s109 = .int .i64 (x : Nat) ∧ s22 = .int .i64 (lives ss i x : Nat) ∧ wr = w5.drewN d)
          case atStart => exact ⟨0, 0, Nat.zero_le _, rfl, rfl, rfl, rfl⟩
          case round =>
            obtain ⟨x, d, hx, rfl, rfl, rfl, rfl⟩ := hrel
            by_cases hlt3 : x < i
            · have hd3 : decide ((x : Int) < (i : Int)) = true := decide_eq_true (by omega)
              obtain rfl := ha3 (by omega)
              obtain ⟨f0, f1⟩ := hF5.out x hlt3
              obtain ⟨t0, t1⟩ := h35.out x hlt3
              go_wp2_with fail
              go_quiet (fail)
              go_wp2_with fail
              clear f0 f1
              go_loopg [25, 24] (i - (x + 1)) (fun g s25 s24 wr => ∃ y d, x + 1 ≤ y ∧ y ≤ i ∧ g = i - y ∧ s25 = .int .i64 (y : Nat) ∧ s24 = .int .i64 (lastUp ss x y : Nat) ∧ wr = w5.drewN d)
              case atStart => exact ⟨x + 1, _, Nat.le_refl _, by omega, rfl, by go_num, by rw [lastUp_self _ (Nat.le_refl _)], rfl⟩
              case round =>
                obtain ⟨y, d2, hy1, hy2, rfl, rfl, rfl, rfl⟩ := hrel
                by_cases hlt4 : y < i
                · have hd4 : decide ((y : Int) < (i : Int)) = true := decide_eq_true (by omega)
                  obtain ⟨u0, u1⟩ := h35.out y hlt4
                  have hbq := seq_beq (ss y) (ss x)
                  by_cases e : ss y = ss x
                  · simp only [e, decide_true] at hbq
                    have Hl : Hid (lastUp ss x (y + 1) = y) := by show lastUp ss x (y + 1) = y; simp only [lastUp]; rw [if_pos ⟨by omega, e⟩]
                    rw [e] at u0
                    clear e
                    go_wp2_with fail
                    go_quiet (fail)
                    go_wp2
                    go_roundg (i - (y + 1))
                    case measure => go_light; omega
                    case rel => go_light; exact ⟨y + 1, _, by omega, by omega, rfl, by go_num, by rw [Hl.out], rfl⟩
                  · simp only [e, decide_false] at hbq
                    have Hl : Hid (lastUp ss x (y + 1) = lastUp ss x y) := by show lastUp ss x (y + 1) = lastUp ss x y; simp only [lastUp]; rw [if_neg (fun q => e q.2)]
                    clear e
                    go_wp2_with fail
                    go_quiet (fail)
                    go_wp2
                    go_roundg (i - (y + 1))
                    case measure => go_light; omega
                    case rel => go_light; exact ⟨y + 1, _, by omega, by omega, rfl, by go_num, by rw [Hl.out], rfl⟩
                · have hd4 : decide ((y : Int) < (i : Int)) = false := decide_eq_false (by omega)
                  obtain rfl : y = i := by omega
                  have hlk := fun d => hlook.out x d hlt3
                  have hll := lastUp_lt (ss := ss) hlt3
                  obtain ⟨v0, v1⟩ := h35.out _ hll
                  obtain ⟨z, hz⟩ : ∃ z, z = lastUp ss x y := ⟨_, rfl⟩
                  rw [← hz] at hll v0 v1
                  simp only [← hz] at hlk
                  rw [← hz]
                  have Hz : Hid (z = lastUp ss x y) := hz
                  clear hz
                  by_cases e : z = x
                  · have he : ((z : Int) == (x : Int)) = true := by simp; omega
                    have Hl : Hid (lives ss y (x + 1) = lives ss y x + 1) := by
                      show lives ss y (x + 1) = lives ss y x + 1
                      simp only [lives]
                      rw [if_pos (Hz.out.symm.trans e)]
                    have hle : lives ss y x ≤ 1024 := by
                      have : ∀ q, lives ss y q ≤ q := fun q => by
                        induction q with
                        | zero => exact Nat.le_refl _
                        | succ q ih => simp only [lives]; split <;> omega
                      have := this x
                      omega
                    clear e
                    go_wp2_with fail
                    go_wp2
                    go_roundg (y - (x + 1))
                    case measure => go_light; omega
                    case rel => go_light; exact ⟨x + 1, _, by omega, rfl, by go_num, by rw [Hl.out]; go_num, rfl⟩
                  · have he : ((z : Int) == (x : Int)) = false := by simp; omega
                    have Hl : Hid (lives ss y (x + 1) = lives ss y x) := by
                      show lives ss y (x + 1) = lives ss y x
                      simp only [lives]
                      rw [if_neg (fun q => e (Hz.out.trans q))]
                      omega
                    clear e
                    go_wp2_with fail
                    go_wp2
                    go_roundg (y - (x + 1))
                    case measure => go_light; omega
                    case rel => go_light; exact ⟨x + 1, _, by omega, rfl, by go_num, by rw [Hl.out], rfl⟩
            · have hd3 : decide ((x : Int) < (i : Int)) = false := decide_eq_false (by omega)
              obtain rfl : x = i := by omega
              go_wp2
              go_ret
              exact ⟨rfl, ⟨HB5.out.os, HB5.out.tape, HB5.out.output, HB5.out.size, HB5.out.block⟩⟩

end Go.Proofs.Ybulkcaik.Qu
