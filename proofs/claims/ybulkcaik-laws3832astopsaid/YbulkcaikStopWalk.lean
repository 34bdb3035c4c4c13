/-
  THE WALK of LawS3832AStop.
-/
import Derived.Test.YbulkcaikStop
namespace Go.Proofs.Ybulkcaik.Stop
open Go.RowKit
set_option linter.unusedVariables false

theorem stop_big (w : World) (a0 : Option Addr) (len cap : Nat) (b : Bool) (p : Nat) (hlen : 1024 < len) :
    Calls Yba.prog 3 #[.bool b, .int .u64 (p : Nat), .slice a0 len cap] w fun e w' => e = .returned (.bool true) ∧ Below w.heap.size w w' := by
  have hgt : decide ((1024 : Int) < (len : Int)) = true := decide_eq_true (by omega)
  go_enter Yba.func3, Yba.ntmps3
  go_wp2
  go_ret
  exact ⟨rfl, Below.refl _ _⟩

theorem gen {f : FuncId} {args : Array Value} {Q : Ending → World → Prop} (w0 : World) (h : ∀ W, W = w0 → Calls Yba.prog f args W Q) : Calls Yba.prog f args w0 Q := h _ rfl

theorem cell_new1 (w : World) (o : Obj) (a : Addr) (h : a.block < w.heap.size) : (w.alloc o).cell? a = w.cell? a := World.cell?_alloc_lt _ _ _ h

theorem cell_new (w : World) (c : Array Value) (t : TypeId) (i : Nat) : (w.alloc (.cells c t)).cell? ⟨w.heap.size, i, none⟩ = c[i]? := by
  have h : (w.alloc (.cells c t)).heap[w.heap.size]? = some (.cells c t) := by
    show (w.heap.push _)[w.heap.size]? = _
    simp
  simp only [World.cell?]
  rw [h]
  simp

theorem blk_new (w : World) (o : Obj) : (w.alloc o).heap[w.heap.size]? = some o := by
  show (w.heap.push _)[w.heap.size]? = _
  simp

/-- The three boxes behind the slice: the site, the connection, the frame. -/
theorem boxed {w wr W : World} {c1 c2 : Array Value} (H : Nat) (v1 v2 v3 : Value) (hH : wr.heap.size = H) (hW : W = ((wr.alloc (.cells c1 55)).alloc (.cells c2 70)).alloc (.cells #[.bool true] 74)) (hb : Below w.heap.size w wr)
    (h1 : c1[16]? = some v1) (h2 : c2[16]? = some v2) (h3 : c2[20]? = some v3) :
    (W.cell? ⟨H + 1, 20, none⟩ = some v3 ∧ W.frozen? ⟨H + 1, 20, none⟩ = false ∧ W.cell? ⟨H + 1 + 1, 0, none⟩ = some (.bool true)) ∧
    ∀ W2, W2 = W.setCell ⟨H + 1, 20, none⟩ (.bool false) → Below w.heap.size w W2 ∧ W2.cell? ⟨H, 16, none⟩ = some v1 ∧ W2.cell? ⟨H + 1, 16, none⟩ = some v2 ∧ W2.cell? ⟨H + 1, 20, none⟩ = some (.bool false) ∧ (∀ a : Addr, a.block < H → W2.cell? a = wr.cell? a) := by
  subst hW hH
  have hs := hb.size
  have e1 : (wr.alloc (.cells c1 55)).heap.size = wr.heap.size + 1 := by simp
  have e2 : ((wr.alloc (.cells c1 55)).alloc (.cells c2 70)).heap.size = wr.heap.size + 1 + 1 := by simp
  have k2 : ∀ i, ((wr.alloc (.cells c1 55)).alloc (.cells c2 70)).cell? ⟨wr.heap.size + 1, i, none⟩ = c2[i]? := fun i => by
    have := cell_new (wr.alloc (.cells c1 55)) c2 70 i
    rwa [e1] at this
  have k2' : ((wr.alloc (.cells c1 55)).alloc (.cells c2 70)).heap[wr.heap.size + 1]? = some (.cells c2 70) := by
    have := blk_new (wr.alloc (.cells c1 55)) (.cells c2 70)
    rwa [e1] at this
  have k3 := cell_new ((wr.alloc (.cells c1 55)).alloc (.cells c2 70)) #[.bool true] 74 0
  rw [e2] at k3
  have c20 : (((wr.alloc (.cells c1 55)).alloc (.cells c2 70)).alloc (.cells #[.bool true] 74)).cell? ⟨wr.heap.size + 1, 20, none⟩ = some v3 := by
    rw [cell_new1 _ _ _ (by simp), k2, h3]
  refine ⟨⟨c20, ?_, k3⟩, fun W2 hW2 => ?_⟩
  · have : (((wr.alloc (.cells c1 55)).alloc (.cells c2 70)).alloc (.cells #[.bool true] 74)).heap[wr.heap.size + 1]? = some (.cells c2 70) := by
      rw [Below.heap_alloc _ _ _ (by simp), k2']
    simp only [World.frozen?]
    rw [this]
    rfl
  · subst hW2
    refine ⟨(((hb.alloc hs _).alloc (by simp; omega) _).alloc (by simp; omega) _).setCell (by show w.heap.size ≤ wr.heap.size + 1; omega) _, ?_, ?_, ?_, fun a ha => ?_⟩
    · rw [World.cell?_setCell_other _ _ _ _ (by simp), cell_new1 _ _ _ (by simp; omega), cell_new1 _ _ _ (by simp), cell_new, h1]
    · rw [World.cell?_setCell_other _ _ _ _ (by simp), cell_new1 _ _ _ (by simp), k2, h2]
    · exact World.cell?_setCell_same _ _ _ c20
    · rw [World.cell?_setCell_other _ _ _ _ (by intro e; rw [← e] at ha; simp at ha; omega), cell_new1 _ _ _ (by simp; omega), cell_new1 _ _ _ (by simp; omega), cell_new1 _ _ _ ha]

set_option maxHeartbeats 1000000 in
set_option maxRecDepth 100000 in
theorem stop_any (w : World) (b : Bool) (p : Nat) (a1 : Option Addr) (len cap ob oo : Nat) (z : Nat → Nat) (hlen : len ≤ 1024) (ha : 0 < len → a1 = some ⟨ob, oo, none⟩)
    (hc : ∀ i, i < len → w.cell? ⟨ob, oo + i, none⟩ = some (.int .u64 (z i : Nat))) (hz : ∀ i, i < len → z i < 18446744073709551616) :
    Calls Yba.prog 3 #[.bool b, .int .u64 (p : Nat), .slice a1 len cap] w fun e w' => e = .returned (.bool true) ∧ Below w.heap.size w w' := by
  have hgt : decide ((1024 : Int) < (len : Int)) = false := decide_eq_false (by omega)
  obtain ⟨i0, hi, hz0, hz1, hz2⟩ := info_parts info76
  go_enter Yba.func3, Yba.ntmps3
  go_wp2_with fail
  go_loopg [7, 8] len (fun g s7 s8 wr => ∃ (k : Nat) (bl : Nat → Nat), k ≤ len ∧ g = len - k ∧ s8 = .int .i64 (k : Nat) ∧ Tell w wr k s7 bl z)
  case atStart => exact ⟨0, fun _ => 0, Nat.zero_le _, rfl, rfl, tell_start w _ z⟩
  case round =>
    obtain ⟨k, bl, hk, rfl, rfl, hT⟩ := hrel
    by_cases hlt : k < len
    · obtain rfl := ha (by omega)
      have hlo : ob < w.heap.size := World.block_lt_of_cell? _ _ (hc k hlt)
      have c1 : wr.cell? ⟨ob, oo + k, none⟩ = some (.int .u64 (z k : Nat)) := (hT.bel.cell (p := ⟨ob, oo + k, none⟩) hlo).trans (hc k hlt)
      have hd : decide ((k : Int) < (len : Int)) = true := decide_eq_true (by omega)
      have hsz := hT.bel.size
      clear ha hc hz
      go_wp2_with (at_builtin; refine wpList_append_own _ rfl _ _ 24 rfl w.heap.size 76 i0 .nilIface 1 16 Yba.underlying24 hi hz0 hz1 hz2 rfl (by decide) _ _ _ rfl ((hT.own.alloc _).alloc _) ⟨wr.heap.size + 1, 0, none⟩ 1 1 [.iface 25 (.pointer (some ⟨wr.heap.size, 0, none⟩))] rfl rfl ?c1 ?c2 ?c3 ?c4 ?c5 ?_)
      case c1 =>
        intro j u hj
        match j, hj with
        | 0, hj => simp at hj; subst hj; simp [Addr.add]
      case c2 => intro u hu; simp at hu; subst hu; rfl
      case c3 => unfold maxLen; omega
      case c4 => omega
      case c5 => simp; omega
      intro v' w1 hown' hgrow _
      have HT := (show Hid _ from tell_next hT hown' hgrow)
      clear hown' hgrow hT
      go_wp2
      go_roundg (len - (k + 1))
      case measure => go_light; omega
      case rel => go_light; exact ⟨k + 1, _, by omega, rfl, by go_num, HT.out⟩
    · have hd : decide ((k : Int) < (len : Int)) = false := decide_eq_false (by omega)
      obtain rfl : k = len := by omega
      obtain ⟨g, gc, ga, rfl, hga, hgc, hgs, hbl⟩ := tell_end hT
      have HT : Hid (Tell w wr k (.slice ga k gc) bl z) := hT
      clear hi hz0 hz1 hz2 hT
      go_wp2_with fail
      refine gen _ fun W hW => ?_
      obtain ⟨⟨c20, fz, r0⟩, hafter⟩ := boxed wr.heap.size (.int .u64 (p : Nat)) (.slice ga k gc) (.bool b) rfl hW HT.out.bel rfl rfl rfl
      clear hW
      refine (take0 W _ _ _ b c20 fz r0).mono ?_
      rintro e W2 ⟨rfl, hW2⟩
      obtain ⟨HB, s16, t16, t20, hold⟩ := hafter W2 hW2
      have Hold : Hid (∀ a : Addr, a.block < wr.heap.size → W2.cell? a = wr.cell? a) := hold
      clear hold hafter hW2 c20 fz r0
      go_wp2_with fail
      go_loopg [11, 12, 13] k (fun q s11 s12 s13 W3 => ∃ (j m : Nat), j ≤ k ∧ q = k - j ∧ s11 = .int .i64 (j : Nat) ∧ W3 = W2.drewN m)
      case atStart => exact ⟨0, 0, Nat.zero_le _, rfl, rfl, rfl⟩
      case round =>
        obtain ⟨j, m, hj, rfl, rfl, rfl⟩ := hrel
        by_cases hlt : j < k
        · have hd : decide ((j : Int) < (k : Int)) = true := decide_eq_true (by omega)
          obtain rfl := ha (by omega)
          obtain rfl := hga (by omega)
          have hlo : ob < w.heap.size := World.block_lt_of_cell? _ _ (hc j hlt)
          have g1 : W2.cell? ⟨g, j, none⟩ = some (.iface 25 (.pointer (some ⟨bl j, 0, none⟩))) := (Hold.out ⟨g, j, none⟩ (hgs (by omega)).2).trans (hgc j hlt)
          have b1 : W2.cell? ⟨bl j, 1, none⟩ = some (.int .u64 (z j : Nat)) := (Hold.out ⟨bl j, 1, none⟩ (hbl j hlt).2).trans (hbl j hlt).1
          have oj : W2.cell? ⟨ob, oo + j, none⟩ = some (.int .u64 (z j : Nat)) := (HB.cell (p := ⟨ob, oo + j, none⟩) hlo).trans (hc j hlt)
          have hne := fun w => same_frame w (bl j)
          have hta : ∀ w, (Instr.typeAssert (.iface 25 (.pointer (some ⟨bl j, 0, none⟩))) 76 25 true).run Yba.prog w = .ok (.tuple #[.pointer (some ⟨bl j, 0, none⟩), .bool true]) w := fun _ => by kernel_rfl
          clear hc hz ha hga hgc hgs hbl
          go_wp2_with fail
          go_quiet (fail)
          go_wp2_with fail
          go_quiet (fail)
          go_wp2
          go_roundg (k - (j + 1))
          case measure => go_light; omega
          case rel => go_light; exact ⟨j + 1, _, by omega, rfl, by go_num, rfl⟩
        · have hd : decide ((j : Int) < (k : Int)) = false := decide_eq_false (by omega)
          clear hc hz ha hga hgc hgs hbl
          go_wp2
          go_ret
          exact ⟨rfl, ⟨HB.os, HB.tape, HB.output, HB.size, HB.block⟩⟩

end Go.Proofs.Ybulkcaik.Stop
