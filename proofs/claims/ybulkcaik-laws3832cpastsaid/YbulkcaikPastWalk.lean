/-
  THE WALK of LawS3832CPast.
-/
import Derived.Test.YbulkcaikPast
import Derived.Laws.Cover3
namespace Go.Proofs.Ybulkcaik.Past
open Go.RowKit
set_option linter.unusedVariables false

theorem past_big (w : World) (a0 : Option Addr) (len cap : Nat) (acc clr : Nat) (hlen : 1024 < len) :
    Calls Yba.prog 6 #[.slice a0 len cap, .int .u64 (acc : Nat), .int .u64 (clr : Nat)] w fun e w' => e = .returned (.bool true) ∧ Below w.heap.size w w' := by
  have hgt : decide ((1024 : Int) < (len : Int)) = true := decide_eq_true (by omega)
  go_enter Yba.func6, Yba.ntmps6
  go_wp2
  go_ret
  exact ⟨rfl, Below.refl _ _⟩

theorem gen {f : FuncId} {args : Array Value} {Q : Ending → World → Prop} (w0 : World) (h : ∀ W, W = w0 → Calls Yba.prog f args W Q) : Calls Yba.prog f args w0 Q := h _ rfl

theorem bel_drewN {B : Nat} {w W : World} (h : Below B w W) (m : Nat) : Below B w (W.drewN m) := ⟨h.os, h.tape, h.output, h.size, h.block⟩

theorem cell_new1 (w : World) (o : Obj) (a : Addr) (h : a.block < w.heap.size) : (w.alloc o).cell? a = w.cell? a := World.cell?_alloc_lt _ _ _ h

theorem cell_new (w : World) (c : Array Value) (t : TypeId) (i : Nat) : (w.alloc (.cells c t)).cell? ⟨w.heap.size, i, none⟩ = c[i]? := by
  have h : (w.alloc (.cells c t)).heap[w.heap.size]? = some (.cells c t) := by
    show (w.heap.push _)[w.heap.size]? = _
    simp
  simp only [World.cell?]
  rw [h]
  simp

/-- The site and the peer, as they are boxed behind the outbox. -/
theorem boxed {w wr W : World} {c1 c2 : Array Value} {mb n k : Nat} {z : Nat → Nat} {f : Nat → Value} (v13 v17 v31 : Value) (hW : W = (wr.alloc (.cells c1 55)).alloc (.cells c2 106)) (h : Laid w wr mb n k z f)
    (h1 : c1[13]? = some v13) (h2 : c1[17]? = some v17) (h3 : c2[31]? = some v31) :
    Laid w W mb n k z f ∧ W.cell? ⟨wr.heap.size, 13, none⟩ = some v13 ∧ W.cell? ⟨wr.heap.size, 17, none⟩ = some v17 ∧ W.cell? ⟨wr.heap.size + 1, 31, none⟩ = some v31 := by
  subst hW
  have hs := h.bel.size
  refine ⟨⟨(h.bel.alloc hs _).alloc (by simp; omega) _, (h.row.alloc _).alloc _, h.base, h.fst, h.snd⟩, ?_, ?_, ?_⟩
  · rw [cell_new1 _ _ _ (by simp), cell_new, h1]
  · rw [cell_new1 _ _ _ (by simp), cell_new, h2]
  · have := cell_new (wr.alloc (.cells c1 55)) c2 106 31
    rw [h3] at this
    simpa using this

theorem Laid.drewN {w W : World} {mb n k : Nat} {z : Nat → Nat} {f : Nat → Value} (h : Laid w W mb n k z f) (m : Nat) : Laid w (W.drewN m) mb n k z f :=
  ⟨bel_drewN h.bel m, h.row.of_block (by simp), h.base, h.fst, h.snd⟩

set_option maxHeartbeats 1000000 in
set_option maxRecDepth 100000 in
theorem past_some (w : World) (x : Addr) (len cap ob oo : Nat) (z : Nat → Nat) (acc clr : Nat) (hlen : len ≤ 1024) (ha : 0 < len → x = ⟨ob, oo, none⟩)
    (hc : ∀ i, i < len → w.cell? ⟨ob, oo + i, none⟩ = some (.int .u64 (z i : Nat))) (hz : ∀ i, i < len → z i < 18446744073709551616) (hclr : clr < 18446744073709551616) :
    Calls Yba.prog 6 #[.slice (some x) len cap, .int .u64 (acc : Nat), .int .u64 (clr : Nat)] w fun e w' => e = .returned (.bool true) ∧ Below w.heap.size w w' := by
  have hgt : decide ((1024 : Int) < (len : Int)) = false := decide_eq_false (by omega)
  have hmk := make91 len hlen
  have hnil := run_neq_slice_nil (P := Yba.prog) w 23 22 (some x) len cap Yba.underlying23
  go_enter Yba.func6, Yba.ntmps6
  go_wp2_with fail
  clear hmk hnil
  go_loopg [8] len (fun g s8 wr => ∃ (k : Nat) (f : Nat → Value), k ≤ len ∧ g = len - k ∧ s8 = .int .i64 (k : Nat) ∧ Laid w wr w.heap.size len k z f)
  case atStart =>
    obtain ⟨f, hf⟩ := laid_start w len z #[.string ⟨#[]⟩, .int .u64 0, .int .u64 0, .int .i64 0, .string ⟨#[]⟩, .string ⟨#[]⟩]
    exact ⟨0, f, Nat.zero_le _, rfl, rfl, hf⟩
  case round =>
    obtain ⟨k, f, hk, rfl, rfl, hL⟩ := hrel
    by_cases hlt : k < len
    · obtain rfl := ha (by omega)
      have hlo : ob < w.heap.size := World.block_lt_of_cell? _ _ (hc k hlt)
      have c1 : wr.cell? ⟨ob, oo + k, none⟩ = some (.int .u64 (z k : Nat)) := (hL.bel.cell (p := ⟨ob, oo + k, none⟩) hlo).trans (hc k hlt)
      have hd : decide ((k : Int) < (len : Int)) = true := decide_eq_true (by omega)
      have x1 := hL.row.cell (i := k * 6 + 1) (by omega)
      have x0 := hL.row.cell (i := k * 6) (by omega)
      have f1 := hL.row.frozen (k * 6 + 1)
      have f0 := hL.row.frozen (k * 6)
      have hL' := (show Hid _ from laid_step hL hlt)
      clear ha hc hz
      go_wp2
      go_roundg (len - (k + 1))
      case measure => go_light; omega
      case rel =>
        go_light
        obtain ⟨f', hf'⟩ := hL'.out
        exact ⟨k + 1, f', by omega, rfl, by go_num, hf'⟩
    · have hd : decide ((k : Int) < (len : Int)) = false := decide_eq_false (by omega)
      have hkl : k = len := by omega
      have HL : Hid (Laid w wr w.heap.size len len z f) := hkl ▸ hL
      clear hL hkl
      by_cases h0 : len = 0
      · subst h0
        clear ha hc hz hd hgt
        have hd : decide ((k : Int) < 0) = false := decide_eq_false (by omega)
        go_wp2_with fail
        refine gen _ fun W hW => ?_
        obtain ⟨hL, s13, s17, p31⟩ := boxed (.int .u64 (acc : Nat)) (.slice (some ⟨w.heap.size, 0, none⟩) 0 0) (.int .u64 (clr : Nat)) hW HL.out rfl rfl rfl
        clear hW
        refine (send0 W _ _ _ _ _ s13 s17).mono ?_
        rintro e w2 ⟨rfl, m, rfl⟩
        have HB := bel_drewN hL.bel m
        have s13 : (W.drewN m).cell? ⟨wr.heap.size, 13, none⟩ = _ := s13
        have s17 : (W.drewN m).cell? ⟨wr.heap.size, 17, none⟩ = _ := s17
        have p31 : (W.drewN m).cell? ⟨wr.heap.size + 1, 31, none⟩ = _ := p31
        clear hL HL
        generalize W.drewN m = W2 at *
        go_wp2_with fail
        go_loopg [14] 0 (fun g s14 W3 => g = 0 ∧ s14 = .int .i64 0 ∧ W3 = W2)
        case atStart => exact ⟨rfl, rfl, rfl⟩
        case round =>
          obtain ⟨rfl, rfl, rfl⟩ := hrel
          go_wp2
          go_ret
          exact ⟨rfl, HB⟩
      · have he : ((len : Int) == 0) = false := by simp; omega
        obtain rfl := ha (by omega)
        have hlo : ob < w.heap.size := World.block_lt_of_cell? _ _ (hc 0 (by omega))
        have hz0 := hz 0 (by omega)
        obtain ⟨bf, hbf⟩ : ∃ bf : Nat, (bf : Int) = ((z 0 : Nat) - 1 : Int) % 18446744073709551616 := ⟨(((z 0 : Nat) - 1 : Int) % 18446744073709551616).toNat, by omega⟩
        obtain ⟨r, hr⟩ : ∃ r : Nat, r = if bf < clr then clr else bf := ⟨_, rfl⟩
        have HR : Hid (r = if bf < clr then clr else bf) := hr
        have HF : Hid ((bf : Int) = ((z 0 : Nat) - 1 : Int) % 18446744073709551616) := hbf
        clear hr hbf
        go_wp2_with fail
        refine gen _ fun W hW => ?_
        obtain ⟨hL, s13, s17, p31⟩ := boxed (.int .u64 (acc : Nat)) (.slice (some ⟨w.heap.size, 0, none⟩) len len) (.int .u64 (clr : Nat)) hW HL.out rfl rfl rfl
        clear hW
        have x1 : W.cell? ⟨w.heap.size, 1, none⟩ = some (.int .u64 (z 0 : Nat)) := by
          have := hL.row.cell (i := 1) (by omega)
          rw [this, show f 1 = _ from hL.snd 0 (by omega)]
        refine (send1 W _ _ _ len len clr bf (z 0) r (by omega) s17 p31 x1 HF.out HR.out).mono ?_
        rintro e w2 ⟨rfl, m, rfl⟩
        have o0 : W.cell? ⟨ob, oo, none⟩ = some (.int .u64 (z 0 : Nat)) := (hL.bel.cell (p := ⟨ob, oo, none⟩) hlo).trans (hc 0 (by omega))
        have HL2 : Hid (Laid w (W.drewN m) w.heap.size len len z f) := hL.drewN m
        have s13 : (W.drewN m).cell? ⟨wr.heap.size, 13, none⟩ = _ := s13
        have s17 : (W.drewN m).cell? ⟨wr.heap.size, 17, none⟩ = _ := s17
        have p31 : (W.drewN m).cell? ⟨wr.heap.size + 1, 31, none⟩ = _ := p31
        replace o0 : (W.drewN m).cell? ⟨ob, oo, none⟩ = _ := o0
        clear hL x1 HL
        generalize W.drewN m = W2 at *
        rcases (show z 0 = 0 ∨ (∃ b, z 0 = b + 1 ∧ b < clr) ∨ (∃ b, z 0 = b + 1 ∧ ¬ b < clr) by
          rcases Nat.eq_zero_or_pos (z 0) with h | h
          · exact .inl h
          · by_cases hb : z 0 - 1 < clr
            · exact .inr (.inl ⟨z 0 - 1, by omega, hb⟩)
            · exact .inr (.inr ⟨z 0 - 1, by omega, hb⟩)) with hzz | ⟨b, hzz, hbc⟩ | ⟨b, hzz, hbc⟩
        · have h1 := HF.out
          have h2 := HR.out
          have er : r = 18446744073709551615 := by rw [if_neg (by omega)] at h2; omega
          replace o0 : W2.cell? ⟨ob, oo, none⟩ = some (.int .u64 0) := by rw [o0, hzz]; rfl
          have hcl : decide ((18446744073709551615 : Int) < (clr : Int)) = false := decide_eq_false (by omega)
          subst er
          clear h1 h2 HF HR hzz hz0
          go_wp2_with fail
          go_loopg [14] len (fun g s14 W3 => ∃ (j m : Nat), j ≤ len ∧ g = len - j ∧ s14 = .int .i64 (j : Nat) ∧ W3 = W2.drewN m)
          case atStart => exact ⟨0, 0, Nat.zero_le _, rfl, rfl, rfl⟩
          case round =>
            obtain ⟨j, m, hj, rfl, rfl, rfl⟩ := hrel
            by_cases hlt : j < len
            · have hd : decide ((j : Int) < (len : Int)) = true := decide_eq_true (by omega)
              have x0 : W2.cell? ⟨w.heap.size, j * 6, none⟩ = some (.string ⟨#[97]⟩) := by rw [HL2.out.row.cell (i := j * 6) (by omega), HL2.out.fst j hlt]
              have x1 : W2.cell? ⟨w.heap.size, j * 6 + 1, none⟩ = some (.int .u64 (z j : Nat)) := by rw [HL2.out.row.cell (i := j * 6 + 1) (by omega), HL2.out.snd j hlt]
              have oj : W2.cell? ⟨ob, oo + j, none⟩ = some (.int .u64 (z j : Nat)) := (HL2.out.bel.cell (p := ⟨ob, oo + j, none⟩) hlo).trans (hc j hlt)
              clear hc hz o0 hcl ha
              go_wp2_with fail
              go_quiet (fail)
              go_wp2
              go_roundg (len - (j + 1))
              case measure => go_light; omega
              case rel => go_light; exact ⟨j + 1, _, by omega, rfl, by go_num, rfl⟩
            · have hd : decide ((j : Int) < (len : Int)) = false := decide_eq_false (by omega)
              clear hc hz o0 hcl ha
              go_wp2
              go_ret
              exact ⟨rfl, bel_drewN HL2.out.bel _⟩
        · have h1 := HF.out
          have h2 := HR.out
          have er : r = clr := by rw [if_pos (by omega)] at h2; omega
          replace o0 : W2.cell? ⟨ob, oo, none⟩ = some (.int .u64 ((b : Int) + 1)) := by rw [o0, hzz]; rfl
          have hcl : decide ((b : Int) < (clr : Int)) = true := decide_eq_true (by omega)
          have hb1 : ((b : Int) + 1 == 0) = false := by simp; omega
          have hwp : IntKind.u64.wrap (b : Int) = b := by rw [IntKind.wrap_u64]; omega
          subst er
          clear h1 h2 HF HR hzz
          go_wp2_with fail
          go_loopg [14] len (fun g s14 W3 => ∃ (j m : Nat), j ≤ len ∧ g = len - j ∧ s14 = .int .i64 (j : Nat) ∧ W3 = W2.drewN m)
          case atStart => exact ⟨0, 0, Nat.zero_le _, rfl, rfl, rfl⟩
          case round =>
            obtain ⟨j, m, hj, rfl, rfl, rfl⟩ := hrel
            by_cases hlt : j < len
            · have hd : decide ((j : Int) < (len : Int)) = true := decide_eq_true (by omega)
              have x0 : W2.cell? ⟨w.heap.size, j * 6, none⟩ = some (.string ⟨#[97]⟩) := by rw [HL2.out.row.cell (i := j * 6) (by omega), HL2.out.fst j hlt]
              have x1 : W2.cell? ⟨w.heap.size, j * 6 + 1, none⟩ = some (.int .u64 (z j : Nat)) := by rw [HL2.out.row.cell (i := j * 6 + 1) (by omega), HL2.out.snd j hlt]
              have oj : W2.cell? ⟨ob, oo + j, none⟩ = some (.int .u64 (z j : Nat)) := (HL2.out.bel.cell (p := ⟨ob, oo + j, none⟩) hlo).trans (hc j hlt)
              clear hc hz o0 hcl ha
              go_wp2_with fail
              go_quiet (fail)
              go_wp2
              go_roundg (len - (j + 1))
              case measure => go_light; omega
              case rel => go_light; exact ⟨j + 1, _, by omega, rfl, by go_num, rfl⟩
            · have hd : decide ((j : Int) < (len : Int)) = false := decide_eq_false (by omega)
              clear hc hz o0 hcl ha
              go_wp2
              go_ret
              exact ⟨rfl, bel_drewN HL2.out.bel _⟩
        · have h1 := HF.out
          have h2 := HR.out
          have er : r = b := by rw [if_neg (by omega)] at h2; omega
          replace o0 : W2.cell? ⟨ob, oo, none⟩ = some (.int .u64 ((b : Int) + 1)) := by rw [o0, hzz]; rfl
          have hcl : decide ((b : Int) < (clr : Int)) = false := decide_eq_false (by omega)
          have hb1 : ((b : Int) + 1 == 0) = false := by simp; omega
          have hwp : IntKind.u64.wrap (b : Int) = b := by rw [IntKind.wrap_u64]; omega
          subst er
          clear h1 h2 HF HR hzz
          go_wp2_with fail
          go_loopg [14] len (fun g s14 W3 => ∃ (j m : Nat), j ≤ len ∧ g = len - j ∧ s14 = .int .i64 (j : Nat) ∧ W3 = W2.drewN m)
          case atStart => exact ⟨0, 0, Nat.zero_le _, rfl, rfl, rfl⟩
          case round =>
            obtain ⟨j, m, hj, rfl, rfl, rfl⟩ := hrel
            by_cases hlt : j < len
            · have hd : decide ((j : Int) < (len : Int)) = true := decide_eq_true (by omega)
              have x0 : W2.cell? ⟨w.heap.size, j * 6, none⟩ = some (.string ⟨#[97]⟩) := by rw [HL2.out.row.cell (i := j * 6) (by omega), HL2.out.fst j hlt]
              have x1 : W2.cell? ⟨w.heap.size, j * 6 + 1, none⟩ = some (.int .u64 (z j : Nat)) := by rw [HL2.out.row.cell (i := j * 6 + 1) (by omega), HL2.out.snd j hlt]
              have oj : W2.cell? ⟨ob, oo + j, none⟩ = some (.int .u64 (z j : Nat)) := (HL2.out.bel.cell (p := ⟨ob, oo + j, none⟩) hlo).trans (hc j hlt)
              clear hc hz o0 hcl ha
              go_wp2_with fail
              go_quiet (fail)
              go_wp2
              go_roundg (len - (j + 1))
              case measure => go_light; omega
              case rel => go_light; exact ⟨j + 1, _, by omega, rfl, by go_num, rfl⟩
            · have hd : decide ((j : Int) < (len : Int)) = false := decide_eq_false (by omega)
              clear hc hz o0 hcl ha
              go_wp2
              go_ret
              exact ⟨rfl, bel_drewN HL2.out.bel _⟩

theorem boxed0 {w W : World} {c1 c2 : Array Value} (v13 v17 v31 : Value) (hW : W = (w.alloc (.cells c1 55)).alloc (.cells c2 106))
    (h1 : c1[13]? = some v13) (h2 : c1[17]? = some v17) (h3 : c2[31]? = some v31) :
    Below w.heap.size w W ∧ W.cell? ⟨w.heap.size, 13, none⟩ = some v13 ∧ W.cell? ⟨w.heap.size, 17, none⟩ = some v17 ∧ W.cell? ⟨w.heap.size + 1, 31, none⟩ = some v31 := by
  subst hW
  refine ⟨((Below.refl _ _).alloc (Nat.le_refl _) _).alloc (by simp) _, ?_, ?_, ?_⟩
  · rw [cell_new1 _ _ _ (by simp), cell_new, h1]
  · rw [cell_new1 _ _ _ (by simp), cell_new, h2]
  · have := cell_new (w.alloc (.cells c1 55)) c2 106 31
    rw [h3] at this
    simpa using this

set_option maxHeartbeats 1000000 in
set_option maxRecDepth 100000 in
theorem past_nil (w : World) (acc clr : Nat) :
    Calls Yba.prog 6 #[.slice none 0 0, .int .u64 (acc : Nat), .int .u64 (clr : Nat)] w fun e w' => e = .returned (.bool true) ∧ Below w.heap.size w w' := by
  have hnil := run_neq_slice_nil (P := Yba.prog) w 23 22 none 0 0 Yba.underlying23
  go_enter Yba.func6, Yba.ntmps6
  go_wp2_with fail
  refine gen _ fun W hW => ?_
  obtain ⟨HB, s13, s17, p31⟩ := boxed0 (.int .u64 (acc : Nat)) (.slice none 0 0) (.int .u64 (clr : Nat)) hW rfl rfl rfl
  clear hW hnil
  refine (send0 W _ _ _ _ _ s13 s17).mono ?_
  rintro e w2 ⟨rfl, m, rfl⟩
  replace HB := bel_drewN HB m
  replace s13 : (W.drewN m).cell? ⟨w.heap.size, 13, none⟩ = _ := s13
  replace s17 : (W.drewN m).cell? ⟨w.heap.size, 17, none⟩ = _ := s17
  replace p31 : (W.drewN m).cell? ⟨w.heap.size + 1, 31, none⟩ = _ := p31
  generalize W.drewN m = W2 at *
  go_wp2_with fail
  go_loopg [14] 0 (fun g s14 W3 => g = 0 ∧ s14 = .int .i64 0 ∧ W3 = W2)
  case atStart => exact ⟨rfl, rfl, rfl⟩
  case round =>
    obtain ⟨rfl, rfl, rfl⟩ := hrel
    go_wp2
    go_ret
    exact ⟨rfl, HB⟩

end Go.Proofs.Ybulkcaik.Past
