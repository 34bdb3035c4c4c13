/-
  THE WALK of LawS3831AHandOver.
-/
import Derived.Test.YbulkcahwDoorT4
namespace Go.Proofs.YbulkcahwDoor.Ho
open Go.RowKit
set_option linter.unusedVariables false
set_option linter.unusedSimpArgs false

set_option maxRecDepth 100000 in
theorem top_out (w : World) (ha qa pa : Option Addr) (kh hc kq qc np pc : Nat) (qTx qMode atRaw upto skp skA : Int) (tt fresh : Bool) (h : 1024 < kh ∨ (kh ≤ 1024 ∧ 1024 < kq)) :
    Calls Ybad.prog 3 #[.slice ha kh hc, .slice qa kq qc, .int .u8 qTx, .int .u8 qMode, .int .u8 atRaw, .slice pa np pc, .bool tt, .bool fresh, .int .u8 upto, .int .u8 skp, .int .i8 skA] w fun e w' => e = .returned (.bool true) ∧ Below w.heap.size w w' := by
  rcases h with h | ⟨h1, h2⟩
  · have d1 : decide ((1024 : Int) < (kh : Int)) = true := decide_eq_true (by omega)
    go_enter Ybad.func3, Ybad.ntmps3
    go_wp2
    go_ret
    exact ⟨rfl, Below.refl _ _⟩
  · have d1 : decide ((1024 : Int) < (kh : Int)) = false := decide_eq_false (by omega)
    have d2 : decide ((1024 : Int) < (kq : Int)) = true := decide_eq_true (by omega)
    go_enter Ybad.func3, Ybad.ntmps3
    go_wp2
    go_ret
    exact ⟨rfl, Below.refl _ _⟩

set_option maxRecDepth 1000000 in
set_option maxHeartbeats 4000000 in
theorem top_any (w : World) (ha qa pa : Option Addr) (kh hc kq qc np pc hb ho qb qo pb po : Nat) (qTx qMode atRaw upto skp : Nat) (skA : Int) (tt fresh : Bool) (hx qx : Nat → Nat × Nat) (pv : Nat → Bool)
    (hkh : kh ≤ 1024) (hkq : kq ≤ 1024) (hH : In w ha kh hb ho hx) (hQ : In w qa kq qb qo qx) (hpa : 0 < np → pa = some ⟨pb, po, none⟩) (hpc : ∀ i, i < np → w.cell? ⟨pb, po + i, none⟩ = some (.bool (pv i)))
    (b1 : qTx < 256) (b2 : qMode < 256) (b3 : atRaw < 256) (b4 : upto < 256) (b5 : skp < 256) (b6 : -128 ≤ skA ∧ skA ≤ 127)
    (tab : ∀ i j, i < 6 → j < 6 → w.cell? ⟨0, i * 6 + j, none⟩ = some (.bool (cmp i j))) :
    Calls Ybad.prog 3 #[.slice ha kh hc, .slice qa kq qc, .int .u8 (qTx : Nat), .int .u8 (qMode : Nat), .int .u8 (atRaw : Nat), .slice pa np pc, .bool tt, .bool fresh, .int .u8 (upto : Nat), .int .u8 (skp : Nat), .int .i8 skA] w fun e w' => e = .returned (.bool true) ∧ Below w.heap.size w w' := by
  have d1 : decide ((1024 : Int) < (kh : Int)) = false := decide_eq_false (by omega)
  have d2 : decide ((1024 : Int) < (kq : Int)) = false := decide_eq_false (by omega)
  obtain ⟨qi, hqi, hq4⟩ : ∃ qi : Nat, ((qTx : Int) % 4) = (qi : Int) ∧ qi < 4 := ⟨qTx % 4, by omega, by omega⟩
  obtain ⟨seen, HSeen⟩ : ∃ seen : Nat → Bool, Hid (∀ i, seen i = (decide (i < np) && pv i)) := ⟨_, fun i => rfl⟩
  have HT0 := hide (txs_start w tt qi seen)
  have HTab := hide tab
  have HQ := hide hQ
  have HH := hide hH
  have Hpa := hide hpa
  have Hpc := hide hpc
  clear tab hQ hH hpa hpc
  go_enter Ybad.func3, Ybad.ntmps3
  change Code.wp Ybad.prog (rest 0) (Goal w w.heap.size) _ w
  refine wp_seq (x := st 0) (y := rest 1) ?_
  conv => arg 2; whnf
  go_wp2_with fail
  refine wp_seq (x := st 1) (y := rest 2) ?_
  conv => arg 2; whnf
  go_wp2_with fail
  refine wp_seq (x := st 2) (y := rest 3) ?_
  conv => arg 2; whnf
  go_wp2_with fail
  refine wp_seq (x := st 3) (y := rest 4) ?_
  conv => arg 2; whnf
  go_wp2_with fail
  exact T4 w _ hb ho qb qo pb po np pc qi kh kq hc qc qMode atRaw upto skp skA ha qa pa tt fresh hx qx pv seen HSeen HT0.out hkh hkq hq4 HH.out HQ.out HTab.out b2 b3 b4 b5 b6 Hpa.out Hpc.out

end Go.Proofs.YbulkcahwDoor.Ho
