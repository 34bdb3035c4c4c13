/-
  THE WALK of zzs3832bsetup.
-/
import Derived.Test.YbulkcaikQuNew
namespace Go.Proofs.Ybulkcaik.Qu
open Go.RowKit
set_option linter.unusedVariables false

theorem info9 : (Yba.prog.info? 9).map (fun i => (i.zero, i.size, i.bytes)) = some (some (.string ⟨#[]⟩), 1, 16) := by kernel_rfl

/-- The names, as far as they are laid. -/
structure Nms (w wr : World) (n k : Nat) : Prop where
  bel : Below w.heap.size w wr
  row : ∃ f, wr.rowIs w.heap.size 9 n f ∧ ∀ j, j < k → f j = .string (nm j)

theorem nms_start (w : World) (n : Nat) : Nms w (w.alloc (.cells (madeCells #[.string ⟨#[]⟩] n) 9)) n 0 :=
  ⟨(Below.refl _ _).alloc (Nat.le_refl _) _, ⟨_, World.rowIs_made _ _ _ _, fun j hj => absurd hj (by omega)⟩⟩

theorem nms_step {w wr : World} {n k : Nat} (h : Nms w wr n k) (c : Array Value) : Nms w ((wr.alloc (.cells c 5)).setCell ⟨w.heap.size, k, none⟩ (.string (nm k))) n (k + 1) := by
  obtain ⟨f, hf, hk⟩ := h.row
  refine ⟨(h.bel.alloc h.bel.size _).setCell (Nat.le_refl _) _, ⟨_, (hf.alloc _).set k _, fun j hj => ?_⟩⟩
  by_cases e : j = k
  · subst e; simp
  · simp [e, hk j (by omega)]

/-- A peer as the law's argument gives it. -/
structure Giv where
  aw : Bool
  bk : Bool
  lo : Nat
  be : Nat
  fl : Nat

def pvOf (a : Nat → Giv) (j : Nat) : PV := ⟨nm j, (a j).aw, (a j).fl, (a j).be, (a j).lo, (a j).bk, 0⟩

/-- The argument's cells. -/
def Cells5 (w : World) (ob oo n : Nat) (a : Nat → Giv) : Prop := ∀ j, j < n →
  w.cell? ⟨ob, oo + j * 5, none⟩ = some (.bool (a j).aw) ∧ w.cell? ⟨ob, oo + j * 5 + 1, none⟩ = some (.bool (a j).bk) ∧ w.cell? ⟨ob, oo + j * 5 + 2, none⟩ = some (.int .u64 ((a j).lo : Nat)) ∧
  w.cell? ⟨ob, oo + j * 5 + 3, none⟩ = some (.int .u64 ((a j).be : Nat)) ∧ w.cell? ⟨ob, oo + j * 5 + 4, none⟩ = some (.int .u64 ((a j).fl : Nat))

theorem Qu.congr {w : World} {B qb gb n gc : Nat} {pb : Nat → Nat} {pv pv' : Nat → PV} {ms : Nat → Nat} {D : Nat → DataW Unit} (h : Qu w B qb gb n gc pb pv ms D) (e : ∀ j, j < n → pv j = pv' j) : Qu w B qb gb n gc pb pv' ms D :=
  ⟨h.q0, h.qt, h.gt, h.g, fun j hj => e j hj ▸ h.p j hj, h.f, h.bq, h.bg, h.bp, h.inc⟩

/-- One round of the second loop. -/
theorem setup_step {w wr : World} {B qb gb n gc i : Nat} {pb : Nat → Nat} {ms : Nat → Nat} {D : Nat → DataW Unit} {a : Nat → Giv} (c : Array Value) (hb : Below w.heap.size w wr) (hB : w.heap.size + 1 ≤ B)
    (hq : Qu wr B qb gb n gc pb (fun j => if j < i then pvOf a j else p0 j) ms D) (hi : i < n) (hs : ∀ j, j < n → wr.cell? ⟨w.heap.size, j, none⟩ = some (.string (nm j))) :
    let W := (((((wr.setCell ⟨pb i, 1, none⟩ (.bool (a i).aw)).setCell ⟨pb i, 11, none⟩ (.bool (a i).bk)).setCell ⟨pb i, 10, none⟩ (.int .u64 ((a i).lo : Nat))).setCell ⟨pb i, 9, none⟩ (.int .u64 ((a i).be : Nat))).setCell ⟨pb i, 7, none⟩ (.int .u64 ((a i).fl : Nat))).alloc (.cells c 84)
    Below w.heap.size w W ∧ Qu W B qb gb n gc pb (fun j => if j < i + 1 then pvOf a j else p0 j) ms D ∧ ∀ j, j < n → W.cell? ⟨w.heap.size, j, none⟩ = some (.string (nm j)) := by
  intro W
  have hp : PeerAt wr (pb i) (pb i - 2) (p0 i) := by simpa using hq.p i hi
  have hbp := hq.bp i hi
  have lp := hp.lt
  have h1 := hq.turn hi (hp.s1 (a i).aw)
  have p1 := hp.s1 (a i).aw
  have h2 := h1.turn hi (p1.s11 (a i).bk)
  have p2 := p1.s11 (a i).bk
  have h3 := h2.turn hi (p2.s10 (a i).lo)
  have p3 := p2.s10 (a i).lo
  have h4 := h3.turn hi (p3.s9 (a i).be)
  have p4 := p3.s9 (a i).be
  have h5 := h4.turn hi (p4.s7 (a i).fl)
  have b5 := ((((hb.setCell (p := ⟨pb i, 1, none⟩) (by show w.heap.size ≤ pb i; omega) (.bool (a i).aw)).setCell (p := ⟨pb i, 11, none⟩) (by show w.heap.size ≤ pb i; omega) (.bool (a i).bk)).setCell (p := ⟨pb i, 10, none⟩) (by show w.heap.size ≤ pb i; omega) (.int .u64 ((a i).lo : Nat))).setCell (p := ⟨pb i, 9, none⟩) (by show w.heap.size ≤ pb i; omega) (.int .u64 ((a i).be : Nat))).setCell (p := ⟨pb i, 7, none⟩) (by show w.heap.size ≤ pb i; omega) (.int .u64 ((a i).fl : Nat))
  refine ⟨b5.alloc b5.size _, (h5.alloc _).congr fun j hj => ?_, fun j hj => ?_⟩
  · by_cases e : j = i
    · subst e; simp [p0, pvOf]
    · by_cases e2 : j < i
      · simp [e, e2, show j < i + 1 by omega]
      · simp [e, e2, show ¬ j < i + 1 by omega]
  · have hl : w.heap.size < wr.heap.size := World.block_lt_of_cell? _ _ (hs j hj)
    show (World.alloc _ _).cell? _ = _
    rw [World.cell?_alloc_lt _ _ _ (by simpa using hl)]
    have hne : ∀ o, (⟨pb i, o, none⟩ : Addr) ≠ ⟨w.heap.size, j, none⟩ := fun o e => by injection e; omega
    rw [World.cell?_setCell_other _ _ _ _ (hne 7), World.cell?_setCell_other _ _ _ _ (hne 9), World.cell?_setCell_other _ _ _ _ (hne 10), World.cell?_setCell_other _ _ _ _ (hne 11), World.cell?_setCell_other _ _ _ _ (hne 1), hs j hj]

theorem setup_reads {wr : World} {B qb gb n gc : Nat} {pb : Nat → Nat} {pv : Nat → PV} {ms : Nat → Nat} {D : Nat → DataW Unit} (hq : Qu wr B qb gb n gc pb pv ms D) {i : Nat} (hi : i < n) (hp : PeerAt wr (pb i) (pb i - 2) (p0 i)) :
    wr.cell? ⟨qb, 0, none⟩ = some (.slice (some ⟨gb, 0, none⟩) n gc) ∧ wr.cell? ⟨gb, i, none⟩ = some (.pointer (some ⟨pb i, 0, none⟩)) ∧
    wr.cell? ⟨pb i, 1, none⟩ = some (.bool false) ∧ wr.cell? ⟨pb i, 7, none⟩ = some (.int .u64 0) ∧ wr.cell? ⟨pb i, 9, none⟩ = some (.int .u64 0) ∧
    wr.cell? ⟨pb i, 10, none⟩ = some (.int .u64 0) ∧ wr.cell? ⟨pb i, 11, none⟩ = some (.bool false) ∧ (∀ j, wr.frozen? ⟨pb i, j, none⟩ = false) ∧
    qb < wr.heap.size ∧ gb < wr.heap.size ∧ pb i < wr.heap.size ∧ ¬ pb i = wr.heap.size ∧ ¬ wr.heap.size = pb i := by
  obtain ⟨cq, hcq⟩ := hq.qt
  obtain ⟨cg, hcg⟩ := hq.gt
  have lq := (Array.getElem?_eq_some_iff.1 hcq).1
  have lg := (Array.getElem?_eq_some_iff.1 hcg).1
  have lp := hp.lt
  exact ⟨hq.q0, hq.g i hi, hp.c1, hp.c7, hp.c9, hp.c10, hp.c11, hp.fz, lq, lg, lp, by omega, by omega⟩

set_option maxRecDepth 100000 in
set_option maxHeartbeats 1000000 in
theorem setup_any (w : World) (ob oo n cap : Nat) (a : Nat → Giv) (h0 : 0 < n) (hn : n ≤ 300) (ha : Cells5 w ob oo n a) :
    Calls Yba.prog 8 #[.slice (some ⟨ob, oo, none⟩) n cap] w fun e w' =>
      ∃ qb gb gc pb, e = .returned (.tuple #[.slice (some ⟨w.heap.size, 0, none⟩) n n, .pointer (some ⟨qb, 0, none⟩)]) ∧ Qu w' (w.heap.size + 1) qb gb n gc pb (pvOf a) (fun _ => 0) (fun _ => .map []) ∧ Below w.heap.size w w' ∧
        ∀ j, j < n → w'.cell? ⟨w.heap.size, j, none⟩ = some (.string (nm j)) := by
  have hmk := run_make_row' (P := Yba.prog) 80 9 (.string ⟨#[]⟩) 16 Yba.underlying80 info9 rfl .i64 .i64 n (by omega) (by omega)
  have hob : ob < w.heap.size := World.block_lt_of_cell? _ _ (ha 0 h0).1
  go_enter Yba.func8, Yba.ntmps8
  go_wp2_with fail
  clear hmk
  go_loopg [15] n (fun g s15 wr => ∃ k, k ≤ n ∧ g = n - k ∧ s15 = .int .i64 (k : Nat) ∧ Nms w wr n k)
  case atStart => exact ⟨0, Nat.zero_le _, rfl, rfl, nms_start w n⟩
  case round =>
    obtain ⟨k, hk, rfl, rfl, hN⟩ := hrel
    by_cases hlt : k < n
    · have hd : decide ((k : Int) < (n : Int)) = true := decide_eq_true (by omega)
      clear ha
      go_wp2_with fail
      refine (name_any wr k (by omega)).mono ?_
      rintro e w2 ⟨rfl, c, rfl⟩
      obtain ⟨f, hf, _⟩ := hN.row
      have x0 := (hf.alloc (.cells c 5)).cell hlt
      have x1 := (hf.alloc (.cells c 5)).frozen k
      have hN' := (show Hid _ from nms_step hN c)
      clear hf hN
      generalize wr.alloc (.cells c 5) = W at *
      go_wp2
      go_roundg (n - (k + 1))
      case measure => go_light; omega
      case rel => go_light; exact ⟨k + 1, by omega, rfl, by go_num, hN'.out⟩
    · have hd : decide ((k : Int) < (n : Int)) = false := decide_eq_false (by omega)
      obtain rfl : k = n := by omega
      obtain ⟨f, hf, hfn⟩ := hN.row
      have hnames : ∀ j, j < k → wr.cell? ⟨w.heap.size, j, none⟩ = some (.string (nm j)) := fun j hj => by rw [hf.cell hj, hfn j hj]
      have hlw := hf.lt
      have hbel := hN.bel
      clear hf hfn hN
      go_wp2_with fail
      refine (new_any wr w.heap.size k k hn h0 hnames).mono ?_
      rintro e w2 ⟨qb, gb, gc, pb, rfl, hQ, hB⟩
      have HS : Hid (∀ j, j < k → w2.cell? ⟨w.heap.size, j, none⟩ = some (.string (nm j))) := fun j hj => (hB.cell (p := ⟨w.heap.size, j, none⟩) hlw).trans (hnames j hj)
      have HB : Hid (Below w.heap.size w w2) := hbel.trans (hB.mono hbel.size)
      have hQ' : Hid (Qu w2 (w.heap.size + 1) qb gb k gc pb p0 (fun _ => 0) (fun _ => .map [])) := ⟨hQ.q0, hQ.qt, hQ.gt, hQ.g, hQ.p, hQ.f, by have := hQ.bq; omega, by have := hQ.bg; omega, fun j hj => by have := hQ.bp j hj; omega, hQ.inc⟩
      clear hQ hB hbel hnames
      go_wp2_with fail
      go_loopg [29] k (fun g s29 wr => ∃ i, i ≤ k ∧ g = k - i ∧ s29 = .int .i64 (i : Nat) ∧ Below w.heap.size w wr ∧ Qu wr (w.heap.size + 1) qb gb k gc pb (fun j => if j < i then pvOf a j else p0 j) (fun _ => 0) (fun _ => .map []) ∧ Hid (∀ j, j < k → wr.cell? ⟨w.heap.size, j, none⟩ = some (.string (nm j))))
      case atStart => exact ⟨0, Nat.zero_le _, rfl, rfl, HB.out, hQ'.out.congr fun j hj => by simp, HS⟩
      case round =>
        obtain ⟨i, hi, rfl, rfl, hb, hq, hs⟩ := hrel
        clear HS HB hQ'
        by_cases hlt2 : i < k
        · have hd2 : decide ((i : Int) < (k : Int)) = true := decide_eq_true (by omega)
          obtain ⟨a0, a1, a2, a3, a4⟩ := ha i hlt2
          have b0 := (hb.cell (p := ⟨ob, oo + i * 5, none⟩) hob).trans a0
          have b1 := (hb.cell (p := ⟨ob, oo + i * 5 + 1, none⟩) hob).trans a1
          have b2 := (hb.cell (p := ⟨ob, oo + i * 5 + 2, none⟩) hob).trans a2
          have b3 := (hb.cell (p := ⟨ob, oo + i * 5 + 3, none⟩) hob).trans a3
          have b4 := (hb.cell (p := ⟨ob, oo + i * 5 + 4, none⟩) hob).trans a4
          have hpi : PeerAt wr (pb i) (pb i - 2) (p0 i) := by simpa using hq.p i hlt2
          obtain ⟨q0, g0, p1, p7, p9, p10, p11, f0, n1, n2, n3, n4, n5⟩ := setup_reads hq hlt2 hpi
          have HS2 := (show Hid _ from setup_step #[.bool (a i).aw, .bool (a i).bk, .int .u64 ((a i).lo : Nat), .int .u64 ((a i).be : Nat), .int .u64 ((a i).fl : Nat)] hb (Nat.le_refl _) hq hlt2 hs.out)
          clear ha a0 a1 a2 a3 a4 hq hpi hb hs
          go_wp2
          go_roundg (k - (i + 1))
          case measure => go_light; omega
          case rel => go_light; exact ⟨i + 1, by omega, rfl, by go_num, HS2.out.1, HS2.out.2.1, HS2.out.2.2⟩
        · have hd2 : decide ((i : Int) < (k : Int)) = false := decide_eq_false (by omega)
          clear ha
          go_wp2
          go_ret2
          exact ⟨qb, gb, gc, pb, rfl, hq.congr fun j hj => by simp [show j < i by omega], hb, hs.out⟩

end Go.Proofs.Ybulkcaik.Qu
