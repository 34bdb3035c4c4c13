/-
  THE QUEUE of peers, as it lies in memory; the names; the small callees.
-/
import Derived.Test.YbulkcaikPast
import Derived.Maps.OwnSet
import Derived.OwnWalk
import Derived.Laws.IdiomStrings
namespace Go.Proofs.Ybulkcaik.Qu
open Go.RowKit
set_option linter.unusedVariables false

/-- The name of peer number i. -/
def nm (i : Nat) : ByteArray := ⟨#[115, UInt8.ofNat (97 + i / 26), UInt8.ofNat (97 + i % 26)]⟩

theorem nm_inj {i j : Nat} (hi : i ≤ 300) (hj : j ≤ 300) (h : nm i = nm j) : i = j := by
  simp only [nm, ByteArray.mk.injEq, Array.mk.injEq, List.cons.injEq, and_true, true_and] at h
  obtain ⟨h1, h2⟩ := h
  have e1 := congrArg UInt8.toNat h1
  have e2 := congrArg UInt8.toNat h2
  simp only [UInt8.toNat_ofNat'] at e1 e2
  omega

theorem toList_inj {a b : ByteArray} (h : a.toList = b.toList) : a = b := by
  rw [ByteArray.toList_eq, ByteArray.toList_eq] at h
  cases a; cases b
  simp_all

theorem nm_beq {i j : Nat} (hi : i ≤ 300) (hj : j ≤ 300) : ((nm i).toList == (nm j).toList) = decide (i = j) := by
  by_cases h : i = j
  · subst h; simp
  · simp only [h, decide_false]
    exact beq_eq_false_iff_ne.2 fun e => h (nm_inj hi hj (toList_inj e))

structure PV where
  nm : ByteArray
  aw : Bool
  fl : Nat
  be : Nat
  lo : Nat
  bk : Bool
  rc : Nat

/-- A peer at block b, its floors' map at block m. -/
def PeerAt (w : World) (b m : Nat) (p : PV) : Prop :=
  ∃ f, w.rowIs b 98 23 f ∧ f 0 = .string p.nm ∧ f 1 = .bool p.aw ∧ f 7 = .int .u64 (p.fl : Nat) ∧ f 9 = .int .u64 (p.be : Nat) ∧ f 10 = .int .u64 (p.lo : Nat) ∧ f 11 = .bool p.bk ∧ f 12 = .int .u64 (p.rc : Nat) ∧ f 19 = .map (some m)

namespace PeerAt
variable {w : World} {b m : Nat} {p : PV}
theorem c0 (h : PeerAt w b m p) : w.cell? ⟨b, 0, none⟩ = some (.string p.nm) := by obtain ⟨f, hr, h0, h1, h7, h9, h10, h11, h12, h19⟩ := h; rw [hr.cell (by omega), h0]
theorem c1 (h : PeerAt w b m p) : w.cell? ⟨b, 1, none⟩ = some (.bool p.aw) := by obtain ⟨f, hr, h0, h1, h7, h9, h10, h11, h12, h19⟩ := h; rw [hr.cell (by omega), h1]
theorem c7 (h : PeerAt w b m p) : w.cell? ⟨b, 7, none⟩ = some (.int .u64 (p.fl : Nat)) := by obtain ⟨f, hr, h0, h1, h7, h9, h10, h11, h12, h19⟩ := h; rw [hr.cell (by omega), h7]
theorem c9 (h : PeerAt w b m p) : w.cell? ⟨b, 9, none⟩ = some (.int .u64 (p.be : Nat)) := by obtain ⟨f, hr, h0, h1, h7, h9, h10, h11, h12, h19⟩ := h; rw [hr.cell (by omega), h9]
theorem c10 (h : PeerAt w b m p) : w.cell? ⟨b, 10, none⟩ = some (.int .u64 (p.lo : Nat)) := by obtain ⟨f, hr, h0, h1, h7, h9, h10, h11, h12, h19⟩ := h; rw [hr.cell (by omega), h10]
theorem c11 (h : PeerAt w b m p) : w.cell? ⟨b, 11, none⟩ = some (.bool p.bk) := by obtain ⟨f, hr, h0, h1, h7, h9, h10, h11, h12, h19⟩ := h; rw [hr.cell (by omega), h11]
theorem c12 (h : PeerAt w b m p) : w.cell? ⟨b, 12, none⟩ = some (.int .u64 (p.rc : Nat)) := by obtain ⟨f, hr, h0, h1, h7, h9, h10, h11, h12, h19⟩ := h; rw [hr.cell (by omega), h12]
theorem c19 (h : PeerAt w b m p) : w.cell? ⟨b, 19, none⟩ = some (.map (some m)) := by obtain ⟨f, hr, h0, h1, h7, h9, h10, h11, h12, h19⟩ := h; rw [hr.cell (by omega), h19]
theorem fz (h : PeerAt w b m p) (i : Nat) : w.frozen? ⟨b, i, none⟩ = false := by obtain ⟨f, hr, _⟩ := h; exact hr.frozen i
theorem lt (h : PeerAt w b m p) : b < w.heap.size := by obtain ⟨f, hr, _⟩ := h; exact hr.lt
theorem blk (h : PeerAt w b m p) : ∃ c, w.heap[b]? = some (.cells c 98) := by obtain ⟨f, ⟨c, hc, _⟩, _⟩ := h; exact ⟨c, hc⟩
theorem of_block {w' : World} (h : PeerAt w b m p) (e : w'.heap[b]? = w.heap[b]?) : PeerAt w' b m p := by
  obtain ⟨f, hr, hs⟩ := h
  exact ⟨f, hr.of_block e, hs⟩
theorem s1 (h : PeerAt w b m p) (v : Bool) : PeerAt (w.setCell ⟨b, 1, none⟩ (.bool v)) b m { p with aw := v } := by
  obtain ⟨f, hr, h0, h1, h7, h9, h10, h11, h12, h19⟩ := h
  exact ⟨_, hr.set 1 _, by simp [h0], by simp, by simp [h7], by simp [h9], by simp [h10], by simp [h11], by simp [h12], by simp [h19]⟩
theorem s7 (h : PeerAt w b m p) (v : Nat) : PeerAt (w.setCell ⟨b, 7, none⟩ (.int .u64 (v : Nat))) b m { p with fl := v } := by
  obtain ⟨f, hr, h0, h1, h7, h9, h10, h11, h12, h19⟩ := h
  exact ⟨_, hr.set 7 _, by simp [h0], by simp [h1], by simp, by simp [h9], by simp [h10], by simp [h11], by simp [h12], by simp [h19]⟩
theorem s9 (h : PeerAt w b m p) (v : Nat) : PeerAt (w.setCell ⟨b, 9, none⟩ (.int .u64 (v : Nat))) b m { p with be := v } := by
  obtain ⟨f, hr, h0, h1, h7, h9, h10, h11, h12, h19⟩ := h
  exact ⟨_, hr.set 9 _, by simp [h0], by simp [h1], by simp [h7], by simp, by simp [h10], by simp [h11], by simp [h12], by simp [h19]⟩
theorem s10 (h : PeerAt w b m p) (v : Nat) : PeerAt (w.setCell ⟨b, 10, none⟩ (.int .u64 (v : Nat))) b m { p with lo := v } := by
  obtain ⟨f, hr, h0, h1, h7, h9, h10, h11, h12, h19⟩ := h
  exact ⟨_, hr.set 10 _, by simp [h0], by simp [h1], by simp [h7], by simp [h9], by simp, by simp [h11], by simp [h12], by simp [h19]⟩
theorem s11 (h : PeerAt w b m p) (v : Bool) : PeerAt (w.setCell ⟨b, 11, none⟩ (.bool v)) b m { p with bk := v } := by
  obtain ⟨f, hr, h0, h1, h7, h9, h10, h11, h12, h19⟩ := h
  exact ⟨_, hr.set 11 _, by simp [h0], by simp [h1], by simp [h7], by simp [h9], by simp [h10], by simp, by simp [h12], by simp [h19]⟩
theorem s12 (h : PeerAt w b m p) (v : Nat) : PeerAt (w.setCell ⟨b, 12, none⟩ (.int .u64 (v : Nat))) b m { p with rc := v } := by
  obtain ⟨f, hr, h0, h1, h7, h9, h10, h11, h12, h19⟩ := h
  exact ⟨_, hr.set 12 _, by simp [h0], by simp [h1], by simp [h7], by simp [h9], by simp [h10], by simp [h11], by simp, by simp [h19]⟩
end PeerAt

/-- A map of the call's own. -/
abbrev MapAt (w : World) (b n : Nat) (D : DataW Unit) : Prop := w.ownsMap Yba.prog 9 (plainElem Yba.prog 22) b n D

theorem MapAt.of_block {w w' : World} {b n : Nat} {D : DataW Unit} (h : MapAt w b n D) (e : w'.heap[b]? = w.heap[b]?) : MapAt w' b n D := by
  obtain ⟨es, clock, hb, F, hs, hD⟩ := h
  exact ⟨es, clock, e.trans hb, F, hs, hD⟩

theorem MapAt.ne {w : World} {b n a t : Nat} {D : DataW Unit} {c : Array Value} (h : MapAt w b n D) (hc : w.heap[a]? = some (.cells c t)) : a ≠ b := by
  rintro rfl
  obtain ⟨es, clock, hb, _⟩ := h
  rw [hb] at hc
  cases hc

structure Qu (w : World) (B qb gb n gc : Nat) (pb : Nat → Nat) (pv : Nat → PV) (ms : Nat → Nat) (D : Nat → DataW Unit) : Prop where
  q0 : w.cell? ⟨qb, 0, none⟩ = some (.slice (some ⟨gb, 0, none⟩) n gc)
  qt : ∃ c, w.heap[qb]? = some (.cells c 93)
  gt : ∃ c, w.heap[gb]? = some (.cells c 86)
  g : ∀ j, j < n → w.cell? ⟨gb, j, none⟩ = some (.pointer (some ⟨pb j, 0, none⟩))
  p : ∀ j, j < n → PeerAt w (pb j) (pb j - 2) (pv j)
  f : ∀ j, j < n → MapAt w (pb j - 2) (ms j) (D j)
  bq : B ≤ qb
  bg : B ≤ gb
  bp : ∀ j, j < n → B + 2 ≤ pb j
  inc : ∀ j j', j < j' → j' < n → pb j < pb j'

namespace Qu
variable {w : World} {B qb gb n gc : Nat} {pb : Nat → Nat} {pv : Nat → PV} {ms : Nat → Nat} {D : Nat → DataW Unit}

theorem inj (h : Qu w B qb gb n gc pb pv ms D) {i j : Nat} (hi : i < n) (hj : j < n) (e : pb i = pb j) : i = j := by
  rcases Nat.lt_trichotomy i j with h1 | h1 | h1
  · have := h.inc i j h1 hj; omega
  · exact h1
  · have := h.inc j i h1 hi; omega

/-- What leaves every block of the queue as it is leaves the queue. -/
theorem kept {w' : World} (h : Qu w B qb gb n gc pb pv ms D) (e : ∀ b, b < w.heap.size → w'.heap[b]? = w.heap[b]?) : Qu w' B qb gb n gc pb pv ms D := by
  obtain ⟨cq, hq⟩ := h.qt
  obtain ⟨cg, hg⟩ := h.gt
  have lq := (Array.getElem?_eq_some_iff.1 hq).1
  have lg := (Array.getElem?_eq_some_iff.1 hg).1
  exact ⟨(World.cell?_of_block (w := w) (e qb lq)).trans h.q0, ⟨cq, (e _ lq).trans hq⟩, ⟨cg, (e _ lg).trans hg⟩, fun j hj => (World.cell?_of_block (w := w) (e gb lg)).trans (h.g j hj),
    fun j hj => (h.p j hj).of_block (e _ (h.p j hj).lt), fun j hj => (h.f j hj).of_block (e _ (h.f j hj).lt), h.bq, h.bg, h.bp, h.inc⟩

theorem alloc (h : Qu w B qb gb n gc pb pv ms D) (o : Obj) : Qu (w.alloc o) B qb gb n gc pb pv ms D := h.kept fun b hb => Below.heap_alloc _ _ _ hb
theorem drewN (h : Qu w B qb gb n gc pb pv ms D) (m : Nat) : Qu (w.drewN m) B qb gb n gc pb pv ms D := h.kept fun b hb => rfl

/-- A store past the queue. -/
theorem past (h : Qu w B qb gb n gc pb pv ms D) {a : Addr} (v : Value) (ha : ∀ b, (b = qb ∨ b = gb ∨ ∃ j, j < n ∧ (b = pb j ∨ b = pb j - 2)) → b ≠ a.block) : Qu (w.setCell a v) B qb gb n gc pb pv ms D := by
  have e : ∀ b, (b = qb ∨ b = gb ∨ ∃ j, j < n ∧ (b = pb j ∨ b = pb j - 2)) → (w.setCell a v).heap[b]? = w.heap[b]? := fun b hb => Below.heap_setCell _ _ _ _ (ha b hb)
  obtain ⟨cq, hq⟩ := h.qt
  obtain ⟨cg, hg⟩ := h.gt
  exact ⟨(World.cell?_of_block (w := w) (e qb (.inl rfl))).trans h.q0, ⟨cq, (e _ (.inl rfl)).trans hq⟩, ⟨cg, (e _ (.inr (.inl rfl))).trans hg⟩, fun j hj => (World.cell?_of_block (w := w) (e gb (.inr (.inl rfl)))).trans (h.g j hj),
    fun j hj => (h.p j hj).of_block (e _ (.inr (.inr ⟨j, hj, .inl rfl⟩))), fun j hj => (h.f j hj).of_block (e _ (.inr (.inr ⟨j, hj, .inr rfl⟩))), h.bq, h.bg, h.bp, h.inc⟩

/-- A store into peer k. -/
theorem turn (h : Qu w B qb gb n gc pb pv ms D) {k i : Nat} {v : Value} {p' : PV} (hk : k < n) (hp : PeerAt (w.setCell ⟨pb k, i, none⟩ v) (pb k) (pb k - 2) p') :
    Qu (w.setCell ⟨pb k, i, none⟩ v) B qb gb n gc pb (fun j => if j = k then p' else pv j) ms D := by
  obtain ⟨ck, hck⟩ := (h.p k hk).blk
  obtain ⟨cq, hq⟩ := h.qt
  obtain ⟨cg, hg⟩ := h.gt
  have e : ∀ b, b ≠ pb k → (w.setCell ⟨pb k, i, none⟩ v).heap[b]? = w.heap[b]? := fun b hb => Below.heap_setCell _ _ _ _ hb
  have nq : qb ≠ pb k := by rintro rfl; rw [hq] at hck; cases hck
  have ng : gb ≠ pb k := by rintro rfl; rw [hg] at hck; cases hck
  refine ⟨(World.cell?_of_block (w := w) (e qb nq)).trans h.q0, ⟨cq, (e _ nq).trans hq⟩, ⟨cg, (e _ ng).trans hg⟩, fun j hj => (World.cell?_of_block (w := w) (e gb ng)).trans (h.g j hj), fun j hj => ?_, fun j hj => (h.f j hj).of_block (e _ ?_), h.bq, h.bg, h.bp, h.inc⟩
  · by_cases ej : j = k
    · subst ej; simpa using hp
    · simp only [ej, if_false]
      exact (h.p j hj).of_block (e _ fun e1 => ej (h.inj hj hk e1))
  · exact ((h.f j hj).ne hck).symm
end Qu

/-- zzs3832bname. -/
theorem name_conv (w : World) (i : Nat) (hi : i ≤ 300) :
    (convert 124 9 (.slice (some ⟨w.heap.size, 0, none⟩) 3 3)).run Yba.prog (w.alloc (.cells #[.int .u8 115, .int .u8 (97 + (i : Int) / 26), .int .u8 (97 + (i : Int) % 26)] 5)) =
      .ok (.string (nm i)) (w.alloc (.cells #[.int .u8 115, .int .u8 (97 + (i : Int) / 26), .int .u8 (97 + (i : Int) % 26)] 5)) := by
  have h := run_convert_bytes_back (P := Yba.prog) (w.alloc (.cells #[.int .u8 115, .int .u8 (97 + (i : Int) / 26), .int .u8 (97 + (i : Int) % 26)] 5)) 124 9 5 ⟨w.heap.size, 0, none⟩ 3 [115, UInt8.ofNat (97 + i / 26), UInt8.ofNat (97 + i % 26)]
    Yba.underlying124 Yba.underlying5 Yba.underlying9 ?_
  · exact h
  · intro j hj
    rw [Addr.add_lit]
    have hc : ∀ i', (w.alloc (.cells #[.int .u8 115, .int .u8 (97 + (i : Int) / 26), .int .u8 (97 + (i : Int) % 26)] 5)).cell? ⟨w.heap.size, i', none⟩ = #[Value.int .u8 115, .int .u8 (97 + (i : Int) / 26), .int .u8 (97 + (i : Int) % 26)][i']? := fun i' => by
      have h : (w.alloc (.cells #[.int .u8 115, .int .u8 (97 + (i : Int) / 26), .int .u8 (97 + (i : Int) % 26)] 5)).heap[w.heap.size]? = some (.cells #[.int .u8 115, .int .u8 (97 + (i : Int) / 26), .int .u8 (97 + (i : Int) % 26)] 5) := by
        show (w.heap.push _)[w.heap.size]? = _
        simp
      simp only [World.cell?]
      rw [h]
      simp
    rw [hc]
    match j, hj with
    | 0, _ => rfl
    | 1, _ =>
      simp only [List.getElem_cons_succ, List.getElem_cons_zero, UInt8.toNat_ofNat']
      show some (Value.int .u8 (97 + (i : Int) / 26)) = _
      congr 2
      omega
    | 2, _ =>
      simp only [List.getElem_cons_succ, List.getElem_cons_zero, UInt8.toNat_ofNat']
      show some (Value.int .u8 (97 + (i : Int) % 26)) = _
      congr 2
      omega

set_option maxRecDepth 100000 in
theorem name_any (w : World) (i : Nat) (hi : i ≤ 300) : Calls Yba.prog 13 #[.int .i64 (i : Nat)] w fun e w' => e = .returned (.string (nm i)) ∧ ∃ c, w' = w.alloc (.cells c 5) := by
  have hconv := name_conv w i hi
  go_enter Yba.func13, Yba.ntmps13
  go_wp2
  go_ret
  exact ⟨rfl, _, rfl⟩

end Go.Proofs.Ybulkcaik.Qu
