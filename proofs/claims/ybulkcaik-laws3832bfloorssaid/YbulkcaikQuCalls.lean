/-
  THE WALKS of peerNamed, returned, stayed, accompanied.
-/
import Derived.Test.YbulkcaikQu
namespace Go.Proofs.Ybulkcaik.Qu
open Go.RowKit
set_option linter.unusedVariables false
variable {B qb gb n gc : Nat} {pb : Nat → Nat} {pv : Nat → PV} {ms : Nat → Nat} {D : Nat → DataW Unit}

set_option maxRecDepth 100000 in
theorem named_any (w : World) (k : Nat) (hk : k < n) (hn : n ≤ 300) (hQ : Qu w B qb gb n gc pb pv ms D) (hnm : ∀ j, j < n → (pv j).nm = nm j) :
    Calls Yba.prog 15 #[.pointer (some ⟨qb, 0, none⟩), .string (nm k)] w fun e w' => e = .returned (.pointer (some ⟨pb k, 0, none⟩)) ∧ w' = w := by
  have q0 := hQ.q0
  go_enter Yba.func15, Yba.ntmps15
  go_wp2_with fail
  go_loopg [12, 6] n (fun g s12 s6 wr => ∃ j, j ≤ k ∧ g = n - j ∧ s12 = .int .i64 (j : Nat) ∧ wr = w)
  case atStart => exact ⟨0, Nat.zero_le _, rfl, rfl, rfl⟩
  case round =>
    obtain ⟨j, hj, rfl, rfl, rfl⟩ := hrel
    have hd : decide ((j : Int) < (n : Int)) = true := decide_eq_true (by omega)
    have g1 := hQ.g j (by omega)
    have c0 := (hQ.p j (by omega)).c0
    rw [hnm j (by omega)] at c0
    have hb := nm_beq (i := j) (j := k) (by omega) (by omega)
    by_cases e : j = k
    · subst e
      simp only [decide_true] at hb
      go_wp2
      go_ret
      exact ⟨rfl, rfl⟩
    · simp only [e, decide_false] at hb
      clear hQ hnm
      go_wp2
      go_roundg (n - (j + 1))
      case measure => go_light; omega
      case rel => go_light; exact ⟨j + 1, by omega, rfl, by go_num, rfl⟩

set_option maxRecDepth 100000 in
theorem returned_any (w : World) (b m r : Nat) (p : PV) (hp : PeerAt w b m p) (hr : r = if p.aw && decide (0 < p.lo) then p.fl else 0) :
    Calls Yba.prog 16 #[.pointer (some ⟨b, 0, none⟩)] w fun e w' => e = .returned (.int .u64 (r : Nat)) ∧ w' = w := by
  have c1 := hp.c1
  have c7 := hp.c7
  have c10 := hp.c10
  cases ha : p.aw with
  | false =>
    rw [ha] at c1 hr
    have hr0 : r = 0 := by simpa using hr
    subst hr0
    clear hr
    go_enter Yba.func16, Yba.ntmps16
    go_wp2
    go_ret
    exact ⟨rfl, rfl⟩
  | true =>
    rw [ha] at c1 hr
    by_cases hl : 0 < p.lo
    · have hd : decide ((0 : Int) < (p.lo : Int)) = true := decide_eq_true (by omega)
      have hr0 : r = p.fl := by simpa [hl] using hr
      subst hr0
      clear hr
      go_enter Yba.func16, Yba.ntmps16
      go_wp2
      go_ret
      exact ⟨rfl, rfl⟩
    · have hd : decide ((0 : Int) < (p.lo : Int)) = false := decide_eq_false (by omega)
      have hr0 : r = 0 := by rw [hr]; simp; omega
      subst hr0
      clear hr
      go_enter Yba.func16, Yba.ntmps16
      go_wp2
      go_ret
      exact ⟨rfl, rfl⟩

set_option maxRecDepth 100000 in
theorem stayed_any (w : World) (b m b' m' : Nat) (o p : PV) (r : Bool) (ho : PeerAt w b m o) (hp : PeerAt w b' m' p) (hr : r = (o.aw && decide (o.be < p.lo))) :
    Calls Yba.prog 20 #[.pointer (some ⟨b, 0, none⟩), .pointer (some ⟨b', 0, none⟩)] w fun e w' => e = .returned (.bool r) ∧ ∃ d, w' = w.drewN d := by
  have c1 := ho.c1
  have c9 := ho.c9
  have c10 := hp.c10
  cases ha : o.aw with
  | false =>
    rw [ha] at c1 hr
    obtain rfl : r = false := by simpa using hr
    clear hr
    go_enter Yba.func20, Yba.ntmps20
    go_wp2_with fail
    go_quiet (fail)
    go_wp2
    go_ret
    exact ⟨rfl, nq, rfl⟩
  | true =>
    rw [ha] at c1 hr
    by_cases hl : o.be < p.lo
    · have hd : decide ((o.be : Int) < (p.lo : Int)) = true := decide_eq_true (by omega)
      obtain rfl : r = true := by simpa [hl] using hr
      clear hr
      go_enter Yba.func20, Yba.ntmps20
      go_wp2_with fail
      go_quiet (fail)
      go_wp2
      go_ret
      exact ⟨rfl, nq, rfl⟩
    · have hd : decide ((o.be : Int) < (p.lo : Int)) = false := decide_eq_false (by omega)
      obtain rfl : r = false := by rw [hr]; simp; omega
      clear hr
      go_enter Yba.func20, Yba.ntmps20
      go_wp2_with fail
      go_quiet (fail)
      go_wp2
      go_ret
      exact ⟨rfl, nq, rfl⟩

/-- Some peer below j stayed with this site while k was away. -/
def accTo (pv : Nat → PV) (lo : Nat) : Nat → Bool
  | 0 => false
  | j + 1 => accTo pv lo j || ((pv j).aw && decide ((pv j).be < lo))

theorem acc_true {pv : Nat → PV} {lo : Nat} : ∀ {n j : Nat}, j < n → ((pv j).aw && decide ((pv j).be < lo)) = true → accTo pv lo n = true
  | n + 1, j, hj, h => by
    by_cases e : j = n
    · subst e; simp only [accTo, h, Bool.or_true]
    · simp only [accTo, acc_true (show j < n by omega) h, Bool.true_or]

set_option maxRecDepth 100000 in
theorem accompanied_any (w : World) (k : Nat) (r : Bool) (hk : k < n) (hn : n ≤ 300) (hQ : Qu w B qb gb n gc pb pv ms D) (hr : r = accTo pv (pv k).lo n) :
    Calls Yba.prog 17 #[.pointer (some ⟨qb, 0, none⟩), .pointer (some ⟨pb k, 0, none⟩)] w fun e w' => e = .returned (.bool r) ∧ ∃ d, w' = w.drewN d := by
  have q0 := hQ.q0
  have HR : Hid (r = accTo pv (pv k).lo n) := hr
  clear hr
  go_enter Yba.func17, Yba.ntmps17
  go_wp2_with fail
  go_loopg [12, 6] n (fun g s12 s6 wr => ∃ j d, j ≤ n ∧ g = n - j ∧ s12 = .int .i64 (j : Nat) ∧ wr = w.drewN d ∧ Hid (accTo pv (pv k).lo j = false))
  case atStart => exact ⟨0, 0, Nat.zero_le _, rfl, rfl, rfl, rfl⟩
  case round =>
    obtain ⟨j, d, hj, rfl, rfl, rfl, hacc⟩ := hrel
    by_cases hlt : j < n
    · have hd : decide ((j : Int) < (n : Int)) = true := decide_eq_true (by omega)
      have g1 := hQ.g j hlt
      go_wp2_with fail
      refine (stayed_any (w.drewN d) (pb j) _ (pb k) _ (pv j) (pv k) _ ((hQ.drewN d).p j hlt) ((hQ.drewN d).p k hk) rfl).mono ?_
      rintro e w2 ⟨rfl, d2, rfl⟩
      by_cases hs : ((pv j).aw && decide ((pv j).be < (pv k).lo)) = true
      · have e1 := HR.out
        rw [acc_true hlt hs] at e1
        subst e1
        rw [hs]
        clear hs
        go_wp2
        go_ret
        exact ⟨rfl, d + d2, rfl⟩
      · have hs' : ((pv j).aw && decide ((pv j).be < (pv k).lo)) = false := by simpa using hs
        rw [hs']
        have HA : Hid (accTo pv (pv k).lo (j + 1) = false) := by show accTo pv (pv k).lo (j + 1) = false; simp only [accTo, hacc.out, hs', Bool.or_false]
        clear hs hs'
        go_wp2
        go_roundg (n - (j + 1))
        case measure => go_light; omega
        case rel => go_light; exact ⟨j + 1, d + d2, by omega, rfl, by go_num, rfl, HA⟩
    · have hd : decide ((j : Int) < (n : Int)) = false := decide_eq_false (by omega)
      obtain rfl : j = n := by omega
      have e1 := HR.out
      rw [hacc.out] at e1
      subst e1
      go_wp2
      go_ret
      exact ⟨rfl, d, rfl⟩

end Go.Proofs.Ybulkcaik.Qu
