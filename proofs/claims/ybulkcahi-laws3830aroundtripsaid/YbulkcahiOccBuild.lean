/-
  THE WALK of zzs3830abuild: a fresh set, a script of adds and removes beside a plain bool model.
-/
import Derived.Test.YbulkcahiOccNew
namespace Go.Proofs.Ybulkcahi.Occ
open Go.RowKit
set_option linter.unusedVariables false

theorem info4 : (Yba.prog.info? 4).map (fun i => (i.zero, i.size, i.bytes)) = some (some (.bool false), 1, 1) := by kernel_rfl

/-- The set and its model, as they lie. -/
structure Built (w w' : World) (n hb L : Nat) (bl : Nat → Nat) (mb : Nat) (p : Nat → Bool) (X : Nat → Nat → Nat) : Prop where
  pos : 0 < L
  le : L ≤ 8192
  top : M n L = 1
  many : ∀ j, j + 1 < L → 1 < M n (j + 1)
  occ : Occ w' w.heap.size hb L n bl X
  good : Good n L p X
  out : ∀ k, n ≤ k → p k = false
  row : w'.rowIs mb 4 n (fun j => .bool (p j))
  mhb : mb ≠ hb
  mbl : ∀ l, l < L → mb ≠ bl l
  base : w.heap.size ≤ mb
  bel : Below w.heap.size w w'

theorem not_own {L mb : Nat} {bl : Nat → Nat} (h : ∀ l, l < L → mb ≠ bl l) : ¬ Own L bl mb := fun ⟨l, hl, e⟩ => h l hl e

theorem own_base {w : World} {B hb L n : Nat} {bl : Nat → Nat} {X : Nat → Nat → Nat} (h : Occ w B hb L n bl X) : ∀ k, Own L bl k → B ≤ k :=
  fun k ⟨l, hl, e⟩ => e ▸ h.base l hl

theorem built_start {w w1 : World} {n hb L : Nat} {bl : Nat → Nat} (h1 : 0 < L) (h2 : L ≤ 8192) (h3 : M n L = 1) (h4 : ∀ j, j + 1 < L → 1 < M n (j + 1))
    (hO : Occ w1 w.heap.size hb L n bl (fun _ _ => 0)) (hB : Below w.heap.size w w1) :
    Built w (w1.alloc (.cells (madeCells #[.bool false] n) 4)) n hb L bl w1.heap.size (fun _ => false) (fun _ _ => 0) := by
  refine ⟨h1, h2, h3, h4, ⟨hO.bhb, by have := hO.lt; simp; omega, fun l hl => ?_, fun l hl => (hO.row l hl).alloc _, hO.inj, hO.off, hO.base, hO.small⟩, good_zero _ _, fun _ _ => rfl, World.rowIs_made _ _ _ _, ?_, fun l hl e => ?_, hB.size, hB.alloc hB.size _⟩
  · rw [World.cell?_alloc_lt _ _ _ (show hb < w1.heap.size from hO.lt)]
    exact hO.hd l hl
  · have := hO.lt; omega
  · have := (hO.row l hl).lt; omega

theorem built_step {w wr w2 : World} {n hb L mb i : Nat} {bl : Nat → Nat} {p : Nat → Bool} {X X' : Nat → Nat → Nat} {v : Bool} (h : Built w wr n hb L bl mb p X) (hi : i < n)
    (hO : Occ w2 w.heap.size hb L n bl X') (hG : Good n L (setp p i v) X') (hT : Turned (Own L bl) wr w2) :
    Built w (w2.setCell ⟨mb, i, none⟩ (.bool v)) n hb L bl mb (setp p i v) X' := by
  have hrow := hT.row h.row (not_own h.mbl)
  refine ⟨h.pos, h.le, h.top, h.many, ?_, hG, fun k hk => ?_, (hrow.set i _).congr fun j _ => ?_, h.mhb, h.mbl, h.base, ?_⟩
  · have hT2 : Turned (fun k => k = mb) w2 (w2.setCell ⟨mb, i, none⟩ (.bool v)) := (Turned.refl (fun k => k = mb) _).setCell (p := ⟨mb, i, none⟩) rfl _
    exact hO.kept hT2 (fun e => h.mhb e.symm) (fun l hl e => h.mbl l hl e.symm)
  · have : k ≠ i := by omega
    simp [setp, this, h.out k hk]
  · by_cases e : j = i
    · subst e; simp [setp]
    · simp [setp, e]
  · exact (h.bel.trans (hT.below (own_base hO))).setCell h.base _

set_option maxHeartbeats 400000 in
theorem build_any (w : World) (n : Nat) (h0 : 0 < n) (hn : n ≤ 8192) (a1 : Option Addr) (len cap ob oo : Nat) (z : Nat → Nat) (hlen : len ≤ 1024)
    (ha : 0 < len → a1 = some ⟨ob, oo, none⟩) (hc : ∀ i, i < len → w.cell? ⟨ob, oo + i, none⟩ = some (.int .u32 (z i : Nat))) (hz : ∀ i, i < len → z i < 4294967296) :
    Calls Yba.prog 5 #[.int .u64 (n : Nat), .slice a1 len cap] w fun e w' => ∃ hb L lcap bl mb p X,
      e = .returned (.tuple #[.slice (some ⟨hb, 0, none⟩) L lcap, .slice (some ⟨mb, 0, none⟩) n n]) ∧ Built w w' n hb L bl mb p X := by
  have hmk := run_make_row' (P := Yba.prog) 27 4 (.bool false) 1 Yba.underlying27 info4 rfl .u64 .u64 n (by omega) (by omega)
  go_enter Yba.func5, Yba.ntmps5
  go_wp2_with (go_at_call 9; refine (new_any _ n h0 hn).mono ?_; rintro e w1 ⟨hb, L, lcap, bl, rfl, hL, hL2, htop, hmany, hO, hB⟩)
  clear hmk
  go_loopg [17] len (fun g s17 wr => ∃ (k : Nat) (p : Nat → Bool) (X : Nat → Nat → Nat), k ≤ len ∧ g = len - k ∧ s17 = .int .i64 (k : Nat) ∧ Built w wr n hb L bl w1.heap.size p X)
  case atStart => exact ⟨0, _, _, Nat.zero_le _, rfl, rfl, built_start hL hL2 htop hmany hO hB⟩
  case round =>
    obtain ⟨k, p, X, hk, rfl, rfl, hBu⟩ := hrel
    clear hO hB htop hmany
    by_cases hlt : k < len
    · obtain rfl := ha (by omega)
      have hlo : ob < w.heap.size := World.block_lt_of_cell? _ _ (hc k hlt)
      have c1 : wr.cell? ⟨ob, oo + k, none⟩ = some (.int .u32 (z k : Nat)) := (hBu.bel.cell (p := ⟨ob, oo + k, none⟩) hlo).trans (hc k hlt)
      have hzk := hz k hlt
      obtain ⟨i, hi, hin⟩ : ∃ i : Nat, ((z k : Int) / 2 % (n : Int)) = (i : Int) ∧ i < n := ⟨z k / 2 % n, by simp, Nat.mod_lt _ h0⟩
      clear ha hc hz
      go_wp2_with fail
      · refine (add_any _ w.heap.size hb L lcap n bl X p i hL2 hn hBu.occ hBu.good hin).mono ?_
        rintro e w2 ⟨rfl, X', hO', hG', hT'⟩
        have hrow := hT'.row hBu.row (not_own hBu.mbl)
        have c3 := hrow.cell hin
        have c4 := hrow.frozen i
        have hB' := built_step hBu hin hO' hG' hT'
        clear hrow hO' hG' hT'
        go_wp2
        go_roundg (len - (k + 1))
        case measure => go_light; omega
        case rel => go_light; exact ⟨k + 1, _, _, by omega, rfl, by go_num, hB'⟩
      · refine (remove_any _ w.heap.size hb L lcap n bl X p i hL2 hn hBu.occ hBu.good hin).mono ?_
        rintro e w2 ⟨rfl, X', hO', hG', hT'⟩
        have hrow := hT'.row hBu.row (not_own hBu.mbl)
        have c3 := hrow.cell hin
        have c4 := hrow.frozen i
        have hB' := built_step hBu hin hO' hG' hT'
        clear hrow hO' hG' hT'
        go_wp2
        go_roundg (len - (k + 1))
        case measure => go_light; omega
        case rel => go_light; exact ⟨k + 1, _, _, by omega, rfl, by go_num, hB'⟩
    · go_wp2
      go_ret2
      exact ⟨hb, L, lcap, bl, w1.heap.size, p, X, rfl, hBu⟩

end Go.Proofs.Ybulkcahi.Occ
