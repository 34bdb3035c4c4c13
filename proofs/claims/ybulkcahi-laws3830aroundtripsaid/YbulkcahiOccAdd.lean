/-
  THE WALKS of occupancy.add and occupancy.remove.
-/
import Derived.Test.YbulkcahiOccWorld
import Derived.Deep.LoopGhost
import Derived.Deep.Light
namespace Go.Proofs.Ybulkcahi.Occ
open Go.RowKit
set_option linter.unusedVariables false

theorem M_le (n : Nat) (h : n ≤ 8192) : ∀ l, M n l ≤ 8192
  | 0 => h
  | l + 1 => by have := M_le n h l; simp only [M]; omega

theorem pow_lt (j : Nat) (hj : j < 64) : 2 ^ j < 18446744073709551616 := by
  have : 2 ^ j < 2 ^ 64 := Nat.pow_lt_pow_right (by omega) hj
  exact this

theorem wrap_pow (j : Nat) (hj : j < 64) : IntKind.u64.wrap (2 ^ j) = ((2 ^ j : Nat) : Int) := by
  have h := pow_lt j hj
  have e : ((2 : Int) ^ j) = ((2 ^ j : Nat) : Int) := by rw [Int.natCast_pow]; rfl
  rw [e]
  generalize 2 ^ j = m at h ⊢
  exact IntWalk.u64_in _ (by omega)

theorem or_word (x j : Nat) (hx : x < 18446744073709551616) (hj : j < 64) : bits BinOp.or IntKind.u64 (x : Int) (IntKind.u64.wrap (2 ^ j)) = ((x ||| 2 ^ j : Nat) : Int) := by
  rw [wrap_pow j hj, u64_or_nat x _ hx (pow_lt j hj)]

theorem or_small (x j : Nat) (hx : x < 18446744073709551616) (hj : j < 64) : x ||| 2 ^ j < 18446744073709551616 :=
  Nat.or_lt_two_pow (n := 64) hx (pow_lt j hj)

theorem andNot_word (x j : Nat) (hx : x < 18446744073709551616) (hj : j < 64) : bits BinOp.andNot IntKind.u64 (x : Int) (IntKind.u64.wrap (2 ^ j)) = ((x &&& (18446744073709551615 - 2 ^ j) : Nat) : Int) := by
  rw [wrap_pow j hj, u64_andNot_nat x _ hx (pow_lt j hj)]

theorem andNot_small (x y : Nat) (hx : x < 18446744073709551616) : x &&& y < 18446744073709551616 :=
  Nat.lt_of_le_of_lt Nat.and_le_left hx

theorem bne_cast {x : Nat} {b : Bool} (h : ((x : Int) != 0) = b) : (x != 0) = b := by
  rw [← h]
  by_cases e : x = 0
  · subst e; rfl
  · have : ((x : Int) != 0) = true := by rw [bne_iff_ne]; omega
    rw [this, bne_iff_ne]; exact e

section
variable {w wr : World} {B hb L n : Nat} {bl : Nat → Nat} {Y : Nat → Nat → Nat} {p : Nat → Bool} {l k : Nat}

theorem mod_lt64 (k : Nat) : k % 64 < 64 := Nat.mod_lt _ (by omega)

theorem add_done (hn : n ≤ 8192) (hlt : l < L) (hk : k < M n l) (hY : Occ wr B hb L n bl Y) (hT : Turned (Own L bl) w wr) (hP : Pend n L p true l k Y) (h : ((Y l (k / 64) : Int) != 0) = true) :
    ∃ X', Occ (wr.setCell ⟨bl l, k / 64, none⟩ (.int .u64 (bits BinOp.or IntKind.u64 (Y l (k / 64) : Int) (IntKind.u64.wrap (2 ^ (k % 64)))))) B hb L n bl X' ∧ Good n L p X' ∧
      Turned (Own L bl) w (wr.setCell ⟨bl l, k / 64, none⟩ (.int .u64 (bits BinOp.or IntKind.u64 (Y l (k / 64) : Int) (IntKind.u64.wrap (2 ^ (k % 64)))))) := by
  have hs := hY.small l hlt (k / 64) (word_lt hk)
  rw [or_word _ _ hs (mod_lt64 k)]
  exact ⟨_, hY.set hlt (or_small _ _ hs (mod_lt64 k)), done_of_same hP _ (fun j _ => or_bit _ _ j) (by rw [or_ne, bne_cast h]), hT.setCell ⟨l, hlt, rfl⟩ _⟩

theorem add_next (hn : n ≤ 8192) (hlt : l < L) (hk : k < M n l) (hY : Occ wr B hb L n bl Y) (hT : Turned (Own L bl) w wr) (hP : Pend n L p true l k Y) :
    ∃ X', k / 64 < M n (l + 1) ∧ k / 64 ≤ 8192 ∧ Occ (wr.setCell ⟨bl l, k / 64, none⟩ (.int .u64 (bits BinOp.or IntKind.u64 (Y l (k / 64) : Int) (IntKind.u64.wrap (2 ^ (k % 64)))))) B hb L n bl X' ∧
      Turned (Own L bl) w (wr.setCell ⟨bl l, k / 64, none⟩ (.int .u64 (bits BinOp.or IntKind.u64 (Y l (k / 64) : Int) (IntKind.u64.wrap (2 ^ (k % 64)))))) ∧ Pend n L p true (l + 1) (k / 64) X' := by
  have hs := hY.small l hlt (k / 64) (word_lt hk)
  have hm := M_le n hn l
  rw [or_word _ _ hs (mod_lt64 k)]
  exact ⟨_, word_lt hk, by omega, hY.set hlt (or_small _ _ hs (mod_lt64 k)), hT.setCell ⟨l, hlt, rfl⟩ _, next_of_v hP hk _ (fun j _ => or_bit _ _ j) (or_ne _ _)⟩

theorem remove_done (hn : n ≤ 8192) (hlt : l < L) (hk : k < M n l) (hY : Occ wr B hb L n bl Y) (hT : Turned (Own L bl) w wr) (hP : Pend n L p false l k Y)
    (h : (bits BinOp.andNot IntKind.u64 (Y l (k / 64) : Int) (IntKind.u64.wrap (2 ^ (k % 64))) != 0) = true) :
    ∃ X', Occ (wr.setCell ⟨bl l, k / 64, none⟩ (.int .u64 (bits BinOp.andNot IntKind.u64 (Y l (k / 64) : Int) (IntKind.u64.wrap (2 ^ (k % 64)))))) B hb L n bl X' ∧ Good n L p X' ∧
      Turned (Own L bl) w (wr.setCell ⟨bl l, k / 64, none⟩ (.int .u64 (bits BinOp.andNot IntKind.u64 (Y l (k / 64) : Int) (IntKind.u64.wrap (2 ^ (k % 64)))))) := by
  have hs := hY.small l hlt (k / 64) (word_lt hk)
  rw [andNot_word _ _ hs (mod_lt64 k)] at h ⊢
  have h' := bne_cast h
  exact ⟨_, hY.set hlt (andNot_small _ _ hs), done_of_same hP _ (fun j hj => andNot_bit _ _ j (mod_lt64 k) hj) (by rw [h', andNot_ne _ _ h']), hT.setCell ⟨l, hlt, rfl⟩ _⟩

theorem remove_next (hn : n ≤ 8192) (hlt : l < L) (hk : k < M n l) (hY : Occ wr B hb L n bl Y) (hT : Turned (Own L bl) w wr) (hP : Pend n L p false l k Y)
    (h : (bits BinOp.andNot IntKind.u64 (Y l (k / 64) : Int) (IntKind.u64.wrap (2 ^ (k % 64))) != 0) = false) :
    ∃ X', k / 64 < M n (l + 1) ∧ k / 64 ≤ 8192 ∧ Occ (wr.setCell ⟨bl l, k / 64, none⟩ (.int .u64 (bits BinOp.andNot IntKind.u64 (Y l (k / 64) : Int) (IntKind.u64.wrap (2 ^ (k % 64)))))) B hb L n bl X' ∧
      Turned (Own L bl) w (wr.setCell ⟨bl l, k / 64, none⟩ (.int .u64 (bits BinOp.andNot IntKind.u64 (Y l (k / 64) : Int) (IntKind.u64.wrap (2 ^ (k % 64)))))) ∧ Pend n L p false (l + 1) (k / 64) X' := by
  have hs := hY.small l hlt (k / 64) (word_lt hk)
  have hm := M_le n hn l
  rw [andNot_word _ _ hs (mod_lt64 k)] at h ⊢
  exact ⟨_, word_lt hk, by omega, hY.set hlt (andNot_small _ _ hs), hT.setCell ⟨l, hlt, rfl⟩ _, next_of_v hP hk _ (fun j hj => andNot_bit _ _ j (mod_lt64 k) hj) (bne_cast h)⟩
end

set_option maxHeartbeats 400000 in
theorem add_any (w : World) (B hb L cap n : Nat) (bl : Nat → Nat) (X : Nat → Nat → Nat) (p : Nat → Bool) (i : Nat) (hL : L ≤ 8192) (hn : n ≤ 8192)
    (hO : Occ w B hb L n bl X) (hG : Good n L p X) (hi : i < n) :
    Calls Yba.prog 8 #[.slice (some ⟨hb, 0, none⟩) L cap, .int .u64 (i : Nat)] w fun e w' => e = .returned (.tuple #[]) ∧
      ∃ X', Occ w' B hb L n bl X' ∧ Good n L (setp p i true) X' ∧ Turned (Own L bl) w w' := by
  have hP := start hG i true
  go_enter Yba.func8, Yba.ntmps8
  go_wp2
  go_loopg [1, 10] L (fun g s1 s10 wr => ∃ (l k : Nat) (Y : Nat → Nat → Nat), l ≤ L ∧ g = L - l ∧ s10 = .int .i64 (l : Nat) ∧ s1 = .int .u64 (k : Nat) ∧ k < M n l ∧ k ≤ 8192 ∧ Occ wr B hb L n bl Y ∧ Turned (Own L bl) w wr ∧ Pend n L (setp p i true) true l k Y)
  case atStart => exact ⟨0, i, X, Nat.zero_le _, rfl, rfl, rfl, hi, by omega, hO, Turned.refl _ _, hP⟩
  case round =>
    obtain ⟨l, k, Y, hl, rfl, rfl, rfl, hk, hk2, hY, hT, hPe⟩ := hrel
    by_cases hlt : l < L
    · have c1 := hY.hd l hlt
      have c2 := (hY.row l hlt).cell (word_lt hk)
      have c3 := (hY.row l hlt).frozen (k / 64)
      have hw := word_lt hk
      have hmx := M_le n hn (l + 1)
      go_wp2
      · go_light
        refine bodyPost_ret (results_none rfl _ _ _) rfl ?_
        exact ⟨rfl, add_done hn hlt hk hY hT hPe ‹_›⟩
      · go_roundg (L - (l + 1))
        case measure => go_light; omega
        case rel =>
          go_light
          obtain ⟨X', a1, a2, a3, a4, a5⟩ := add_next hn hlt hk hY hT hPe
          exact ⟨l + 1, k / 64, X', by omega, rfl, by go_num, by go_num, a1, a2, a3, a4, a5⟩
    · obtain rfl : l = L := by omega
      go_wp2
      refine bodyPost_end (results_none rfl _ _ _) rfl ?_
      exact ⟨rfl, Y, hY, finish hPe, hT⟩

set_option maxHeartbeats 400000 in
theorem remove_any (w : World) (B hb L cap n : Nat) (bl : Nat → Nat) (X : Nat → Nat → Nat) (p : Nat → Bool) (i : Nat) (hL : L ≤ 8192) (hn : n ≤ 8192)
    (hO : Occ w B hb L n bl X) (hG : Good n L p X) (hi : i < n) :
    Calls Yba.prog 7 #[.slice (some ⟨hb, 0, none⟩) L cap, .int .u64 (i : Nat)] w fun e w' => e = .returned (.tuple #[]) ∧
      ∃ X', Occ w' B hb L n bl X' ∧ Good n L (setp p i false) X' ∧ Turned (Own L bl) w w' := by
  have hP := start hG i false
  go_enter Yba.func7, Yba.ntmps7
  go_wp2
  go_loopg [1, 9] L (fun g s1 s10 wr => ∃ (l k : Nat) (Y : Nat → Nat → Nat), l ≤ L ∧ g = L - l ∧ s10 = .int .i64 (l : Nat) ∧ s1 = .int .u64 (k : Nat) ∧ k < M n l ∧ k ≤ 8192 ∧ Occ wr B hb L n bl Y ∧ Turned (Own L bl) w wr ∧ Pend n L (setp p i false) false l k Y)
  case atStart => exact ⟨0, i, X, Nat.zero_le _, rfl, rfl, rfl, hi, by omega, hO, Turned.refl _ _, hP⟩
  case round =>
    obtain ⟨l, k, Y, hl, rfl, rfl, rfl, hk, hk2, hY, hT, hPe⟩ := hrel
    by_cases hlt : l < L
    · have c1 := hY.hd l hlt
      have c2 := (hY.row l hlt).cell (word_lt hk)
      have c3 := (hY.row l hlt).frozen (k / 64)
      have hw := word_lt hk
      have hmx := M_le n hn (l + 1)
      go_wp2
      · go_light
        refine bodyPost_ret (results_none rfl _ _ _) rfl ?_
        exact ⟨rfl, remove_done hn hlt hk hY hT hPe ‹_›⟩
      · go_roundg (L - (l + 1))
        case measure => go_light; omega
        case rel =>
          go_light
          obtain ⟨X', a1, a2, a3, a4, a5⟩ := remove_next hn hlt hk hY hT hPe ‹_›
          exact ⟨l + 1, k / 64, X', by omega, rfl, by go_num, by go_num, a1, a2, a3, a4, a5⟩
    · obtain rfl : l = L := by omega
      go_wp2
      refine bodyPost_end (results_none rfl _ _ _) rfl ?_
      exact ⟨rfl, Y, hY, finish hPe, hT⟩

end Go.Proofs.Ybulkcahi.Occ
