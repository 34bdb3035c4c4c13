/-
  THE WALK of LawS3832BRaise.
-/
import Derived.Test.YbulkcaikQuHear
import Derived.Deep.DeepCutAuto
namespace Go.Proofs.Ybulkcaik.Qu
open Go.RowKit
set_option linter.unusedVariables false

set_option maxRecDepth 100000 in
theorem raise_out (w : World) (a0 : Option Addr) (n cap : Nat) (pick clock unled : Nat) (hn : n = 0 ∨ 300 < n) :
    Calls Yba.prog 4 #[.slice a0 n cap, .int .u8 (pick : Nat), .int .u64 (clock : Nat), .int .u64 (unled : Nat)] w fun e w' => e = .returned (.bool true) ∧ Below w.heap.size w w' := by
  rcases hn with rfl | hn
  · go_enter Yba.func4, Yba.ntmps4
    go_wp2
    go_ret
    exact ⟨rfl, Below.refl _ _⟩
  · have h1 : ((n : Int) == 0) = false := by simp; omega
    have h2 : decide ((300 : Int) < (n : Int)) = true := decide_eq_true (by omega)
    go_enter Yba.func4, Yba.ntmps4
    go_wp2
    go_ret
    exact ⟨rfl, Below.refl _ _⟩

/-- What stands while the law looks at the peers. -/
structure Rd (w wr : World) (qb gb gc n M : Nat) (pb : Nat → Nat) (a : Nat → Giv) (g : Giv) : Prop where
  q : Qu wr (w.heap.size + 1) qb gb n gc pb (pvOf a) (fun _ => 0) (fun _ => .map [])
  b : Below w.heap.size w wr
  s : ∀ j, j < n → wr.cell? ⟨w.heap.size, j, none⟩ = some (.string (nm j))
  lt : M < wr.heap.size
  m0 : wr.cell? ⟨M, 0, none⟩ = some (.bool g.aw)
  m1 : wr.cell? ⟨M, 1, none⟩ = some (.bool g.bk)
  m2 : wr.cell? ⟨M, 2, none⟩ = some (.int .u64 (g.lo : Nat))
  m4 : wr.cell? ⟨M, 4, none⟩ = some (.int .u64 (g.fl : Nat))

theorem rd_start {w w1 : World} {qb gb gc n : Nat} {pb : Nat → Nat} {a : Nat → Giv} (g : Giv) (hQ : Qu w1 (w.heap.size + 1) qb gb n gc pb (pvOf a) (fun _ => 0) (fun _ => .map [])) (hB : Below w.heap.size w w1)
    (hS : ∀ j, j < n → w1.cell? ⟨w.heap.size, j, none⟩ = some (.string (nm j))) :
    Rd w (w1.alloc (.cells #[.bool g.aw, .bool g.bk, .int .u64 (g.lo : Nat), .int .u64 (g.be : Nat), .int .u64 (g.fl : Nat)] 84)) qb gb gc n w1.heap.size pb a g :=
  ⟨hQ.alloc _, hB.alloc hB.size _, fun j hj => by rw [World.cell?_alloc_lt _ _ _ (World.block_lt_of_cell? _ _ (hS j hj))]; exact hS j hj, by simp, cell_last _ _ _ _ 0 rfl, cell_last _ _ _ _ 1 rfl, cell_last _ _ _ _ 2 rfl, cell_last _ _ _ _ 4 rfl⟩

theorem Rd.alloc {w wr : World} {qb gb gc n M : Nat} {pb : Nat → Nat} {a : Nat → Giv} {g : Giv} (h : Rd w wr qb gb gc n M pb a g) (o : Obj) : Rd w (wr.alloc o) qb gb gc n M pb a g :=
  ⟨h.q.alloc _, h.b.alloc h.b.size _, fun j hj => by rw [World.cell?_alloc_lt _ _ _ (World.block_lt_of_cell? _ _ (h.s j hj))]; exact h.s j hj, by have := h.lt; simp; omega,
    by rw [World.cell?_alloc_lt _ _ _ h.lt]; exact h.m0, by rw [World.cell?_alloc_lt _ _ _ h.lt]; exact h.m1, by rw [World.cell?_alloc_lt _ _ _ h.lt]; exact h.m2, by rw [World.cell?_alloc_lt _ _ _ h.lt]; exact h.m4⟩

def wantOf (g : Giv) (acc : Bool) (unled : Nat) : Bool := decide (g.fl < unled) && !g.bk && g.aw && decide (0 < g.lo) && decide (0 < g.fl) && !acc

set_option maxRecDepth 100000 in
set_option maxHeartbeats 2000000 in
theorem raise_any (w : World) (ob oo n cap : Nat) (a : Nat → Giv) (pick clock unled : Nat) (h0 : 0 < n) (hn : n ≤ 300) (hpick : pick < 256) (ha : Cells5 w ob oo n a) :
    Calls Yba.prog 4 #[.slice (some ⟨ob, oo, none⟩) n cap, .int .u8 (pick : Nat), .int .u64 (clock : Nat), .int .u64 (unled : Nat)] w fun e w' => e = .returned (.bool true) ∧ Below w.heap.size w w' := by
  have h1 : ((n : Int) == 0) = false := by simp; omega
  have h2 : decide ((300 : Int) < (n : Int)) = false := decide_eq_false (by omega)
  have hob : ob < w.heap.size := World.block_lt_of_cell? _ _ (ha 0 h0).1
  obtain ⟨k, hk, hkn⟩ : ∃ k : Nat, (pick : Int) % (n : Int) = (k : Int) ∧ k < n := ⟨pick % n, by simp, Nat.mod_lt _ h0⟩
  go_enter Yba.func4, Yba.ntmps4
  go_wp2_with fail
  refine (setup_any w ob oo n cap a h0 hn ha).mono ?_
  rintro e w1 ⟨qb, gb, gc, pb, rfl, hQ, hB, hS⟩
  obtain ⟨a0, a1, a2, a3, a4⟩ := ha k hkn
  have b0 := (hB.cell (p := ⟨ob, oo + k * 5, none⟩) hob).trans a0
  have b1 := (hB.cell (p := ⟨ob, oo + k * 5 + 1, none⟩) hob).trans a1
  have b2 := (hB.cell (p := ⟨ob, oo + k * 5 + 2, none⟩) hob).trans a2
  have b3 := (hB.cell (p := ⟨ob, oo + k * 5 + 3, none⟩) hob).trans a3
  have b4 := (hB.cell (p := ⟨ob, oo + k * 5 + 4, none⟩) hob).trans a4
  clear a0 a1 a2 a3 a4 h1 h2
  have HQ : Hid (Qu w1 (w.heap.size + 1) qb gb n gc pb (pvOf a) (fun _ => 0) (fun _ => .map [])) := hQ
  have HB : Hid (Below w.heap.size w w1) := hB
  have HS : Hid (∀ j, j < n → w1.cell? ⟨w.heap.size, j, none⟩ = some (.string (nm j))) := hS
  have HA : Hid (Cells5 w ob oo n a) := ha
  clear hQ hB hS ha
  go_wp2_with fail
  simp only [hk]
  clear hk
  go_loopg [46, 13] n (fun g s46 s13 wr => ∃ j, j ≤ n ∧ g = n - j ∧ s46 = .int .i64 (j : Nat) ∧ s13 = .bool (accTo (pvOf a) (a k).lo j) ∧ Rd w wr qb gb gc n w1.heap.size pb a (a k))
  case atStart => exact ⟨0, Nat.zero_le _, rfl, rfl, rfl, rd_start (a k) HQ.out HB.out HS.out⟩
  case round =>
    obtain ⟨j, hj, rfl, rfl, rfl, hR⟩ := hrel
    clear HQ HB HS b0 b1 b2 b3 b4
    by_cases hlt : j < n
    · have hd : decide ((j : Int) < (n : Int)) = true := decide_eq_true (by omega)
      obtain ⟨a0, a1, a2, a3, a4⟩ := HA.out j hlt
      have b0 := (hR.b.cell (p := ⟨ob, oo + j * 5, none⟩) hob).trans a0
      have b1 := (hR.b.cell (p := ⟨ob, oo + j * 5 + 1, none⟩) hob).trans a1
      have b2 := (hR.b.cell (p := ⟨ob, oo + j * 5 + 2, none⟩) hob).trans a2
      have b3 := (hR.b.cell (p := ⟨ob, oo + j * 5 + 3, none⟩) hob).trans a3
      have b4 := (hR.b.cell (p := ⟨ob, oo + j * 5 + 4, none⟩) hob).trans a4
      have m2 := hR.m2
      have lm := hR.lt
      have HR' := (show Hid _ from hR.alloc (.cells #[.bool (a j).aw, .bool (a j).bk, .int .u64 ((a j).lo : Nat), .int .u64 ((a j).be : Nat), .int .u64 ((a j).fl : Nat)] 84))
      clear a0 a1 a2 a3 a4 hR
      cases haw : (a j).aw with
      | false =>
        rw [haw] at b0 HR'
        have hacc : accTo (pvOf a) (a k).lo j = accTo (pvOf a) (a k).lo (j + 1) := by simp [accTo, pvOf, haw]
        rw [hacc]
        clear hacc
        go_wp2
        go_roundg (n - (j + 1))
        case measure => go_light; omega
        case rel => go_light; exact ⟨j + 1, by omega, rfl, by go_num, rfl, HR'.out⟩
      | true =>
        rw [haw] at b0 HR'
        by_cases hbl : (a j).be < (a k).lo
        · have d5 : decide (((a j).be : Int) < ((a k).lo : Int)) = true := decide_eq_true (by omega)
          have Hacc : Hid (accTo (pvOf a) (a k).lo (j + 1) = true) := by show accTo (pvOf a) (a k).lo (j + 1) = true; simp [accTo, pvOf, haw, hbl]
          go_wp2
          go_roundg (n - (j + 1))
          case measure => go_light; omega
          case rel => go_light; exact ⟨j + 1, by omega, rfl, by go_num, by rw [Hacc.out], HR'.out⟩
        · have d5 : decide (((a j).be : Int) < ((a k).lo : Int)) = false := decide_eq_false (by omega)
          have hacc : accTo (pvOf a) (a k).lo j = accTo (pvOf a) (a k).lo (j + 1) := by simp [accTo, pvOf, haw, hbl]
          rw [hacc]
          clear hacc
          go_wp2
          go_roundg (n - (j + 1))
          case measure => go_light; omega
          case rel => go_light; exact ⟨j + 1, by omega, rfl, by go_num, rfl, HR'.out⟩
    · have hd : decide ((j : Int) < (n : Int)) = false := decide_eq_false (by omega)
      obtain rfl : j = n := by omega
      have m0 := hR.m0
      have m1 := hR.m1
      have m2 := hR.m2
      have m4 := hR.m4
      have HR := (show Hid _ from hR)
      clear hR
      obtain ⟨acc, hacc⟩ : ∃ acc, acc = accTo (pvOf a) (a k).lo j := ⟨_, rfl⟩
      rw [← hacc]
      have Hacc : Hid (acc = accTo (pvOf a) (a k).lo j) := hacc
      clear hacc
      go_upto_region 13 with fail
      go_cut [16] (fun s16 wx => s16 = .bool (wantOf (a k) acc unled) ∧ wx = wr)
      case first =>
        by_cases f1 : (a k).fl < unled
        · have d1 : decide (((a k).fl : Int) < (unled : Int)) = true := decide_eq_true (by omega)
          cases f2 : (a k).bk with
          | true =>
            rw [f2] at m1
            go_wp2_with fail
            go_meet
            case rel => exact ⟨by simp [wantOf, *], rfl⟩
          | false =>
            rw [f2] at m1
            cases f3 : (a k).aw with
            | false =>
              rw [f3] at m0
              go_wp2_with fail
              go_meet
              case rel => exact ⟨by simp [wantOf, *], rfl⟩
            | true =>
              rw [f3] at m0
              by_cases f4 : 0 < (a k).lo
              · have d4 : decide ((0 : Int) < ((a k).lo : Int)) = true := decide_eq_true (by omega)
                by_cases f5 : 0 < (a k).fl
                · have d5 : decide ((0 : Int) < ((a k).fl : Int)) = true := decide_eq_true (by omega)
                  clear Hacc
                  cases acc with
                  | true =>
                    go_wp2_with fail
                    go_meet
                    case rel => exact ⟨by simp [wantOf, *], rfl⟩
                  | false =>
                    go_wp2_with fail
                    go_meet
                    case rel => exact ⟨by simp [wantOf, *], rfl⟩
                · have d5 : decide ((0 : Int) < ((a k).fl : Int)) = false := decide_eq_false (by omega)
                  go_wp2_with fail
                  go_meet
                  case rel => exact ⟨by simp [wantOf, *], rfl⟩
              · have d4 : decide ((0 : Int) < ((a k).lo : Int)) = false := decide_eq_false (by omega)
                go_wp2_with fail
                go_meet
                case rel => exact ⟨by simp [wantOf, *], rfl⟩
        · have d1 : decide (((a k).fl : Int) < (unled : Int)) = false := decide_eq_false (by omega)
          go_wp2_with fail
          go_meet
          case rel => exact ⟨by simp [wantOf, *], rfl⟩
      case rest =>
        obtain ⟨rfl, rfl⟩ := hcut
        have hS := HR.out.s k hkn
        clear m0 m1 m2 m4
        go_wp2_with fail
        refine (hear_any _ k clock unled none 0 0 0 0 (fun _ => ⟨#[]⟩) (fun _ => 0) hkn hn (Nat.zero_le _) HR.out.q (fun j hj => rfl) (fun h => absurd h (by omega)) (fun i hi => absurd hi (by omega)) (fun h => absurd h (by omega)) (fun i hi => absurd hi (by omega)) (fun i hi => absurd hi (by omega))).mono ?_
        rintro e w2 ⟨rfl, hQ2, hC2⟩
        have hw : rise (pvOf a) j k unled = wantOf (a k) acc unled := by
          rw [Hacc.out]
          simp only [rise, wantOf, pvOf, Bool.and_assoc]
          rfl
        have HB2 : Hid (Below w.heap.size w w2) := by
          have hbp := HR.out.q.bp k hkn
          exact HR.out.b.trans (hC2.below (by omega) (by omega) HR.out.b.size)
        have HQ2 : Hid (Qu w2 (w.heap.size + 1) qb gb j gc pb (fun i => if i = k then { pvOf a k with fl := if wantOf (a k) acc unled then unled else (a k).fl, rc := clock, bk := true } else pvOf a i) (fun _ => 0) (fun _ => .map [])) := by
          refine ⟨hQ2.q0, hQ2.qt, hQ2.gt, hQ2.g, fun i hi => ?_, fun i hi => ?_, hQ2.bq, hQ2.bg, hQ2.bp, hQ2.inc⟩
          · have := hQ2.p i hi
            simp only [heardPv, hw] at this
            exact this
          · have := hQ2.f i hi
            by_cases e : i = k <;> simpa [e, putAll] using this
        rw [hw]
        clear hw hQ2 hC2 hS HR Hacc
        generalize wantOf (a k) acc unled = r at *
        go_wp2_with fail
        go_loopg [100] j (fun g s100 wr => ∃ i, i ≤ j ∧ g = j - i ∧ s100 = .int .i64 (i : Nat) ∧ Below w.heap.size w wr ∧
          Qu wr (w.heap.size + 1) qb gb j gc pb (fun i => if i = k then { pvOf a k with fl := if r then unled else (a k).fl, rc := clock, bk := true } else pvOf a i) (fun _ => 0) (fun _ => .map []))
        case atStart => exact ⟨0, Nat.zero_le _, rfl, rfl, HB2.out, HQ2.out⟩
        case round =>
          obtain ⟨i, hi, rfl, rfl, hb, hq⟩ := hrel
          clear HB2 HQ2
          by_cases hlt2 : i < j
          · have hd2 : decide ((i : Int) < (j : Int)) = true := decide_eq_true (by omega)
            obtain ⟨a0, a1, a2, a3, a4⟩ := HA.out i hlt2
            have b0 := (hb.cell (p := ⟨ob, oo + i * 5, none⟩) hob).trans a0
            have b1 := (hb.cell (p := ⟨ob, oo + i * 5 + 1, none⟩) hob).trans a1
            have b2 := (hb.cell (p := ⟨ob, oo + i * 5 + 2, none⟩) hob).trans a2
            have b3 := (hb.cell (p := ⟨ob, oo + i * 5 + 3, none⟩) hob).trans a3
            have b4 := (hb.cell (p := ⟨ob, oo + i * 5 + 4, none⟩) hob).trans a4
            have q0 := hq.q0
            have g0 := hq.g i hlt2
            have hp := hq.p i hlt2
            obtain ⟨cq, hcq⟩ := hq.qt
            obtain ⟨cg, hcg⟩ := hq.gt
            have lq := (Array.getElem?_eq_some_iff.1 hcq).1
            have lg := (Array.getElem?_eq_some_iff.1 hcg).1
            have lp := hp.lt
            have hlen : ∀ ty d, (Builtin.len_ #[89] ty #[.map (some (pb i - 2))]).run Yba.prog ((wr.alloc (.cells #[.bool (a i).aw, .bool (a i).bk, .int .u64 ((a i).lo : Nat), .int .u64 ((a i).be : Nat), .int .u64 ((a i).fl : Nat)] 84)).drewN d) = .ok (.int .i64 0) ((wr.alloc (.cells #[.bool (a i).aw, .bool (a i).bk, .int .u64 ((a i).lo : Nat), .int .u64 ((a i).be : Nat), .int .u64 ((a i).fl : Nat)] 84)).drewN d) := fun ty d =>
              World.ownsMap.len (((hq.alloc _).drewN d).f i hlt2) Yba.underlying89 ty
            have HQ' := (show Hid _ from fun d => (hq.alloc (.cells #[.bool (a i).aw, .bool (a i).bk, .int .u64 ((a i).lo : Nat), .int .u64 ((a i).be : Nat), .int .u64 ((a i).fl : Nat)] 84)).drewN d)
            have HB' := (show Hid _ from hb.alloc hb.size (.cells #[.bool (a i).aw, .bool (a i).bk, .int .u64 ((a i).lo : Nat), .int .u64 ((a i).be : Nat), .int .u64 ((a i).fl : Nat)] 84))
            clear a0 a1 a2 a3 a4 hq hb hcq hcg
            by_cases e : i = k
            · subst e
              simp only [if_true] at hp
              have c1 := hp.c1
              have c7 := hp.c7
              have c10 := hp.c10
              have c11 := hp.c11
              have c12 := hp.c12
              have c19 := hp.c19
              clear hp
              simp only [pvOf] at c1 c10
              have he : ((i : Int) == (i : Int)) = true := by simp
              cases r with
              | true =>
                simp only [if_true] at c7
                go_wp2_with fail
                go_quiet (fail)
                go_wp2
                go_roundg (j - (i + 1))
                case measure => go_light; omega
                case rel => go_light; exact ⟨i + 1, by omega, rfl, by go_num, ⟨HB'.out.os, HB'.out.tape, HB'.out.output, HB'.out.size, HB'.out.block⟩, (HQ'.out _).congr fun _ _ => by simp⟩
              | false =>
                simp only [Bool.false_eq_true, if_false] at c7
                go_wp2_with fail
                go_quiet (fail)
                go_wp2
                go_roundg (j - (i + 1))
                case measure => go_light; omega
                case rel => go_light; exact ⟨i + 1, by omega, rfl, by go_num, ⟨HB'.out.os, HB'.out.tape, HB'.out.output, HB'.out.size, HB'.out.block⟩, (HQ'.out _).congr fun _ _ => by simp⟩
            · simp only [e, if_false] at hp
              have c1 := hp.c1
              have c7 := hp.c7
              have c10 := hp.c10
              have c11 := hp.c11
              have c12 := hp.c12
              have c19 := hp.c19
              clear hp
              simp only [pvOf] at c1 c7 c10 c11 c12
              have he : ((i : Int) == (k : Int)) = false := by simp; omega
              go_wp2_with fail
              go_quiet (fail)
              go_wp2
              go_roundg (j - (i + 1))
              case measure => go_light; omega
              case rel => go_light; exact ⟨i + 1, by omega, rfl, by go_num, ⟨HB'.out.os, HB'.out.tape, HB'.out.output, HB'.out.size, HB'.out.block⟩, (HQ'.out _).congr fun _ _ => by simp⟩
          · have hd2 : decide ((i : Int) < (j : Int)) = false := decide_eq_false (by omega)
            go_wp2
            go_ret
            exact ⟨rfl, hb⟩

end Go.Proofs.Ybulkcaik.Qu
