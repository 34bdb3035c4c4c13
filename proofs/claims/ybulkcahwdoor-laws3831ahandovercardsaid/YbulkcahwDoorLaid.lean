/-
  WHAT IS LAID WHEN handOver IS CALLED; the three calls as one.
-/
import Derived.Test.YbulkcahwDoorLay
import Derived.Deep.AppendLies
namespace Go.Proofs.YbulkcahwDoor.Ho
open Go.RowKit
set_option linter.unusedVariables false

theorem heap_last (w : World) (o : Obj) : (w.alloc o).heap[w.heap.size]? = some o := by
  show (w.heap.push _)[w.heap.size]? = _
  simp

theorem cell_new (w : World) (c : Array Value) (t i : Nat) {v : Value} (h : c[i]? = some v) : (w.alloc (.cells c t)).cell? ⟨w.heap.size, i, none⟩ = some v := by
  simp only [World.cell?]
  rw [heap_last]
  simpa using h

theorem cell_at {w : World} {c : Array Value} {t b i : Nat} {v : Value} (hb : b = w.heap.size) (h : c[i]? = some v) : (w.alloc (.cells c t)).cell? ⟨b, i, none⟩ = some v := by
  subst hb
  exact cell_new w c t i h

theorem own_same {w w' : World} {base e size n : Nat} {v : Value} {xs : List Value} (h : w.ownsRow base e size v n xs) (hk : ∀ k, base ≤ k → k < w.heap.size → w'.heap[k]? = w.heap[k]?) : w'.ownsRow base e size v n xs := by
  refine ⟨h.1, ?_⟩
  rcases h.2 with hn | ⟨g, cap, cur, hv, hb, hg, hrest⟩
  · exact .inl hn
  · exact .inr ⟨g, cap, cur, hv, hb, (hk g hb (Array.getElem?_eq_some_iff.1 hg).1).trans hg, hrest⟩

theorem own_slice {w : World} {base e size n : Nat} {v : Value} {xs : List Value} (h : w.ownsRow base e size v n xs) : ∃ a c b, v = .slice a n c ∧ (0 < n → a = some ⟨b, 0, none⟩ ∧ base ≤ b ∧ b < w.heap.size ∧ ∀ j, j < n * size → w.cell? ⟨b, j, none⟩ = xs[j]?) := by
  rcases h.2 with ⟨hv, hn⟩ | ⟨g, cap, cur, hv, hb, hg, hrest⟩
  · subst hn
    exact ⟨none, 0, 0, hv, fun h0 => absurd h0 (by omega)⟩
  · refine ⟨_, cap, g, hv, fun _ => ⟨rfl, hb, (Array.getElem?_eq_some_iff.1 hg).1, fun j hj => ?_⟩⟩
    subst hv
    exact h.cellAt j hj

theorem Args.same {w w' : World} {B n0 qi mode kh kq ec qc eb xb : Nat} {ea qa : Option Addr} {hs qs : Nat → Nat × Nat} {rq : Nat → Nat} (h : Args w B n0 qi mode kh kq ea qa ec qc eb xb hs qs rq)
    (hk : ∀ k, k = 0 ∨ B + 6 ≤ k ∧ k ≤ n0 → w'.heap[k]? = w.heap[k]?) (hl : B + 7 ≤ n0) : Args w' B n0 qi mode kh kq ea qa ec qc eb xb hs qs rq := by
  have h1 := h.beb
  have h2 := h.bxb
  have k : ∀ {b o : Nat} {v : Value}, (b = 0 ∨ B + 6 ≤ b ∧ b ≤ n0) → w.cell? ⟨b, o, none⟩ = some v → w'.cell? ⟨b, o, none⟩ = some v := fun hb hc => ckeep hc (hk _ hb)
  exact ⟨h.hq, h.hm, h.beb, h.bxb, h.brb, h.bhs, h.bqs, k (by omega) h.l9, k (by omega) h.l16, k (by omega) h.q0, k (by omega) h.q2, h.aea, h.aqa, fun i hi => k (by have := h1 (by omega); omega) (h.e0 i hi), fun i hi => k (by have := h1 (by omega); omega) (h.e1 i hi), fun i hi => k (by have := h1 (by omega); omega) (h.e2 i hi), fun i hi => k (by have := h1 (by omega); omega) (h.e3 i hi),
    fun i hi => k (by have := h2 (by omega); omega) (h.x i hi), fun i hi => k (by have := h.brb i hi; omega) (h.x0 i hi), fun i hi => k (by have := h.brb i hi; omega) (h.x2 i hi), fun i j hi hj => k (by omega) (h.tab i j hi hj)⟩

/-- Only the model's block may have turned. -/
theorem GoS.same {w w' : World} {B n0 mo sr up : Nat} {tt : Bool} {s : St} (h : GoS w B n0 mo sr tt s up) (hk : ∀ k, k < w.heap.size → k ≠ B + 1 → w'.heap[k]? = w.heap[k]?) (hs : w.heap.size ≤ w'.heap.size) : GoS w' B n0 mo sr tt s up := by
  obtain ⟨v, h7, hown⟩ := h.s7
  have hl := h.lay
  have hsz := h.size
  have k : ∀ {b o : Nat} {v : Value}, b ≠ B + 1 → w.cell? ⟨b, o, none⟩ = some v → w'.cell? ⟨b, o, none⟩ = some v := fun hb hc => ckeep hc (hk _ (World.block_lt_of_cell? _ _ hc) hb)
  exact ⟨h.lay, by omega, fun b hb => (h.free b hb).of_block (hk b (h.free b hb).lt (by unfold Mine at hb; omega)), fun i hi => k (by omega) (h.tx i hi), k (by omega) h.s0, k (by omega) h.s2, k (by omega) h.s4, k (by omega) h.s5, k (by omega) h.s6, ⟨v, k (by omega) h7, own_same hown fun b hb hb2 => hk b hb2 (by omega)⟩, k (by omega) h.r0, k (by omega) h.m0, k (by omega) h.m1, k (by omega) h.m2, k (by omega) h.m3⟩

/-- What is laid when handOver is called. -/
structure Ready (w0 w : World) (B n0 qi mode kh kq : Nat) (hs qs : Nat → Nat × Nat) (tt fresh : Bool) (seen : Nat → Bool) (s : St) (up : Nat) : Prop where
  args : ∃ ea qa ec qc eb xb rq, Args w B n0 qi mode kh kq ea qa ec qc eb xb hs qs rq
  gos : GoS w B n0 (8 + mode * 4) (if fresh then 0 else 7) tt s up
  md : Md0 w (B + 1) tt qi seen s.skip s.skAt
  seen : s.seen = seen
  stk : s.stk = []
  back : s.back = false
  qf : Free w n0
  q7 : w.cell? ⟨n0, 7, none⟩ = some (.int .u64 0)
  txs : ∀ j, j < 4 → w.cell? ⟨B, j, none⟩ = some (.pointer (some ⟨B + 2 + j, 0, none⟩))
  bel : Below B w0 w
  small : ∀ u, s.skip = some u → u < 4
  fr : fresh = true → s.skip = none ∧ s.skAt = 0 ∧ up = 0
  upk : up ≤ kq

/-- The four blocks: q, the root's request, the search, the queue's walk. -/
def qcells (b mode : Nat) : Array Value := #[.pointer (some ⟨b, 0, none⟩), .pointer none, .int .u8 (mode : Nat), .int .u64 0, .bool false, .chan none, .nilIface, .int .u64 0, .int .i64 0, .int .u64 0, .int .i64 0, .pointer none]
def rcells (b : Nat) : Array Value := #[.pointer (some ⟨b, 0, none⟩), .pointer none, .int .u8 0, .int .u64 0, .bool false, .chan none, .nilIface, .int .u64 0, .int .i64 0, .int .u64 0, .int .i64 0, .pointer none]
def scells (r : Nat) (tt : Bool) : Array Value := #[.pointer (some ⟨r, 0, none⟩), .int .i64 0, .bool false, .bool false, .bool tt, .bool false, .int .u64 7, .slice none 0 0, .pointer none, .int .u64 0, .int .i64 0, .int .i64 0, .int .i64 0, .int .i64 0, .int .i64 0, .int .i64 0, .int .i64 0, .int .u64 0, .int .i64 0, .pointer none, .int .i64 0, .int .u64 0, .int .i64 0, .pointer none, .int .i64 0, .int .u64 0, .int .i64 0, .pointer none, .int .i64 0, .int .u64 0, .int .i64 0, .pointer none, .int .i64 0, .int .u64 0, .int .i64 0, .pointer none, .int .i64 0, .int .u64 0, .int .i64 0, .pointer none, .int .i64 0]
def wcells : Array Value := #[.int .u64 0, .int .i64 0, .int .i64 0, .int .i64 0, .int .i64 0, .int .i64 0, .int .i64 0, .int .i64 0, .int .u64 0, .int .i64 0, .pointer none, .int .i64 0, .int .u64 0, .int .i64 0, .pointer none, .int .i64 0, .int .u64 0, .int .i64 0, .pointer none, .int .i64 0, .int .u64 0, .int .i64 0, .pointer none, .int .i64 0, .int .u64 0, .int .i64 0, .pointer none, .int .i64 0, .int .u64 0, .int .i64 0, .pointer none, .int .i64 0]

theorem wcells_at (mode : Nat) (h : mode < 6) : wcells[8 + mode * 4]? = some (.int .u64 0) ∧ wcells[8 + mode * 4 + 1]? = some (.int .i64 0) ∧ wcells[8 + mode * 4 + 2]? = some (.pointer none) ∧ wcells[8 + mode * 4 + 3]? = some (.int .i64 0) := by
  rcases (show mode = 0 ∨ mode = 1 ∨ mode = 2 ∨ mode = 3 ∨ mode = 4 ∨ mode = 5 by omega) with rfl | rfl | rfl | rfl | rfl | rfl <;> exact ⟨rfl, rfl, rfl, rfl⟩

theorem Que.below {w2 wr : World} {B N i : Nat} {qs : Nat → Nat × Nat} {rq : Nat → Nat} (h : Que w2 wr B N i qs rq) (hN : B + 7 ≤ N) (hs : w2.heap.size = N) : Below (B + 6) w2 wr :=
  ⟨h.os, h.tape, h.output, by have := h.size; omega, fun k hk => h.keep k (by omega) (by omega)⟩

theorem laid_args {w w1 w3 wr w4 : World} {kh kq N qi mode : Nat} {tt : Bool} {seen : Nat → Bool} {hx qx : Nat → Nat × Nat} {rq : Nat → Nat} (HX : Txs w w1 4 tt qi seen) (HHo : Hold w1 w3 w.heap.size kh (red hx)) (HR : Que w3 wr w.heap.size N kq (red qx) rq) (hN : N = w3.heap.size) (hN7 : w.heap.size + 7 ≤ N)
    (hq : qi < 4) (hm : mode < 6) (tab : ∀ i j, i < 6 → j < 6 → w.cell? ⟨0, i * 6 + j, none⟩ = some (.bool (cmp i j))) (hb : Below wr.heap.size wr w4) (q0 : w4.cell? ⟨wr.heap.size, 0, none⟩ = some (ptr (w.heap.size + 2 + qi))) (q2 : w4.cell? ⟨wr.heap.size, 2, none⟩ = some (.int .u8 (mode : Nat))) :
    ∃ ea qa ec qc eb xb rq, Args w4 w.heap.size wr.heap.size qi mode kh kq ea qa ec qc eb xb (red hx) (red qx) rq := by
  have hrs := HR.size
  obtain ⟨v9, c9, own9⟩ := HHo.l9
  obtain ⟨ea, ec, eb, rfl, hea⟩ := own_slice own9
  obtain ⟨v16, c16, own16⟩ := HR.l16
  obtain ⟨qa, qc, xb, rfl, hqa⟩ := own_slice own16
  have up : ∀ {b o : Nat} {v : Value}, wr.cell? ⟨b, o, none⟩ = some v → w4.cell? ⟨b, o, none⟩ = some v := fun hc => ckeep hc (hb.block _ (World.block_lt_of_cell? _ _ hc))
  have up3 : ∀ {b o : Nat} {v : Value}, b ≠ w.heap.size + 6 → w3.cell? ⟨b, o, none⟩ = some v → w4.cell? ⟨b, o, none⟩ = some v := fun hne hc => up (ckeep hc (HR.keep _ (by rw [hN]; exact World.block_lt_of_cell? _ _ hc) hne))
  have e : ∀ i j, j < 4 → i < kh → ∀ x, (hcell w.heap.size (red hx i))[j]? = some x → w4.cell? ⟨eb, i * 4 + j, none⟩ = some x := fun i j hj hi x hxx => by
    obtain ⟨_, hb1, _, hc⟩ := hea (by omega)
    exact up3 (by omega) ((hc (i * 4 + j) (by omega)).trans ((hcells_at w.heap.size (red hx) i j hj kh hi).trans hxx))
  refine ⟨ea, qa, ec, qc, eb, xb, rq, hq, hm, fun h0 => ?_, fun h0 => ?_, fun i hi => ?_, fun i hi => ⟨Nat.mod_lt _ (by omega), Nat.mod_lt _ (by omega)⟩, fun i hi => ⟨Nat.mod_lt _ (by omega), Nat.mod_lt _ (by omega)⟩, up (HR.l9.trans c9), up c16, q0, q2, fun h0 => (hea h0).1, fun h0 => (hqa h0).1,
    fun i hi => e i 0 (by omega) hi _ rfl, fun i hi => e i 1 (by omega) hi _ rfl, fun i hi => e i 2 (by omega) hi _ rfl, fun i hi => e i 3 (by omega) hi _ rfl, fun i hi => ?_, fun i hi => up (HR.r0 i hi), fun i hi => up (HR.r2 i hi), fun i j hi hj => ?_⟩
  · obtain ⟨_, h1, h2, _⟩ := hea h0
    omega
  · obtain ⟨_, h1, h2, _⟩ := hqa h0
    omega
  · obtain ⟨c, hc⟩ := HR.rt i hi
    have := (Array.getElem?_eq_some_iff.1 hc).1
    have := HR.rb i hi
    omega
  · obtain ⟨_, h1, h2, hc⟩ := hqa (by omega)
    refine up ((hc i (by omega)).trans ?_)
    simp [hi]
  · have h0 := tab i j hi hj
    have h1 : (0 : Nat) < w.heap.size := World.block_lt_of_cell? _ _ h0
    refine up3 (by omega) (ckeep (ckeep h0 (HX.bel.block 0 h1)) (HHo.bel.block 0 (by omega)))

theorem laid_ready {w w1 w3 wr : World} {kh kq N qi mode : Nat} {tt : Bool} {seen : Nat → Bool} {hx qx : Nat → Nat × Nat} {rq : Nat → Nat} (HX : Txs w w1 4 tt qi seen) (HHo : Hold w1 w3 w.heap.size kh (red hx)) (HR : Que w3 wr w.heap.size N kq (red qx) rq) (hN : N = w3.heap.size) (hN7 : w.heap.size + 7 ≤ N)
    (hq : qi < 4) (hm : mode < 6) (tab : ∀ i j, i < 6 → j < 6 → w.cell? ⟨0, i * 6 + j, none⟩ = some (.bool (cmp i j))) :
    Ready w ((((wr.alloc (.cells (qcells (w.heap.size + 2 + qi) mode) 85)).alloc (.cells (rcells (w.heap.size + 2)) 85)).alloc (.cells (scells (wr.heap.size + 1) tt) 95)).alloc (.cells wcells 93)) w.heap.size wr.heap.size qi mode kh kq (red hx) (red qx) tt true seen { seen := seen, back := false, stk := [], skip := none, skAt := 0 } 0 := by
  have hrs := HR.size
  have hb : Below wr.heap.size wr ((((wr.alloc (.cells (qcells (w.heap.size + 2 + qi) mode) 85)).alloc (.cells (rcells (w.heap.size + 2)) 85)).alloc (.cells (scells (wr.heap.size + 1) tt) 95)).alloc (.cells wcells 93)) :=
    ((((Below.refl _ _).alloc (Nat.le_refl _) _).alloc (by simp) _).alloc (by simp; omega) _).alloc (by simp; omega) _
  have hB3 : Below (w.heap.size + 6) w1 wr := HHo.bel.trans (HR.below hN7 hN.symm)
  have up : ∀ {b o : Nat} {v : Value}, wr.cell? ⟨b, o, none⟩ = some v → ((((wr.alloc (.cells (qcells (w.heap.size + 2 + qi) mode) 85)).alloc (.cells (rcells (w.heap.size + 2)) 85)).alloc (.cells (scells (wr.heap.size + 1) tt) 95)).alloc (.cells wcells 93)).cell? ⟨b, o, none⟩ = some v := fun hc => calloc (calloc (calloc (calloc hc _) _) _) _
  have s1 : (wr.alloc (.cells (qcells (w.heap.size + 2 + qi) mode) 85)).heap.size = wr.heap.size + 1 := by simp
  have s2 : ((wr.alloc (.cells (qcells (w.heap.size + 2 + qi) mode) 85)).alloc (.cells (rcells (w.heap.size + 2)) 85)).heap.size = wr.heap.size + 2 := by simp
  have s3 : (((wr.alloc (.cells (qcells (w.heap.size + 2 + qi) mode) 85)).alloc (.cells (rcells (w.heap.size + 2)) 85)).alloc (.cells (scells (wr.heap.size + 1) tt) 95)).heap.size = wr.heap.size + 3 := by simp
  have ql : ∀ {o : Nat} {v : Value}, (qcells (w.heap.size + 2 + qi) mode)[o]? = some v → ((((wr.alloc (.cells (qcells (w.heap.size + 2 + qi) mode) 85)).alloc (.cells (rcells (w.heap.size + 2)) 85)).alloc (.cells (scells (wr.heap.size + 1) tt) 95)).alloc (.cells wcells 93)).cell? ⟨wr.heap.size, o, none⟩ = some v := fun h => calloc (calloc (calloc (cell_at rfl h) _) _) _
  have rl : ∀ {o : Nat} {v : Value}, (rcells (w.heap.size + 2))[o]? = some v → ((((wr.alloc (.cells (qcells (w.heap.size + 2 + qi) mode) 85)).alloc (.cells (rcells (w.heap.size + 2)) 85)).alloc (.cells (scells (wr.heap.size + 1) tt) 95)).alloc (.cells wcells 93)).cell? ⟨wr.heap.size + 1, o, none⟩ = some v := fun h => calloc (calloc (cell_at s1.symm h) _) _
  have sl : ∀ {o : Nat} {v : Value}, (scells (wr.heap.size + 1) tt)[o]? = some v → ((((wr.alloc (.cells (qcells (w.heap.size + 2 + qi) mode) 85)).alloc (.cells (rcells (w.heap.size + 2)) 85)).alloc (.cells (scells (wr.heap.size + 1) tt) 95)).alloc (.cells wcells 93)).cell? ⟨wr.heap.size + 2, o, none⟩ = some v := fun h => calloc (cell_at s2.symm h) _
  have wl : ∀ {o : Nat} {v : Value}, wcells[o]? = some v → ((((wr.alloc (.cells (qcells (w.heap.size + 2 + qi) mode) 85)).alloc (.cells (rcells (w.heap.size + 2)) 85)).alloc (.cells (scells (wr.heap.size + 1) tt) 95)).alloc (.cells wcells 93)).cell? ⟨wr.heap.size + 3, o, none⟩ = some v := fun h => cell_at s3.symm h
  have up1 : ∀ {b o : Nat} {v : Value}, b < w.heap.size + 6 → w1.cell? ⟨b, o, none⟩ = some v → ((((wr.alloc (.cells (qcells (w.heap.size + 2 + qi) mode) 85)).alloc (.cells (rcells (w.heap.size + 2)) 85)).alloc (.cells (scells (wr.heap.size + 1) tt) 95)).alloc (.cells wcells 93)).cell? ⟨b, o, none⟩ = some v := fun hb hc => up (ckeep hc (hB3.block _ hb))
  obtain ⟨k0, k1, k2, k3⟩ := wcells_at mode hm
  refine ⟨laid_args HX HHo HR hN hN7 hq hm tab hb (ql rfl) (ql rfl), ?_, ?_, rfl, rfl, rfl, (((Free.new _ _ _).alloc _).alloc _).alloc _, ql rfl, fun j hj => ?_, ?_, fun u hu => by simp at hu, fun _ => ⟨rfl, rfl, rfl⟩, Nat.zero_le _⟩
  · refine ⟨by omega, by simp, fun k hk => ?_, fun i hi => up1 (by omega) (HX.ts i hi), sl rfl, sl rfl, sl rfl, sl rfl, sl rfl, ⟨_, sl rfl, World.ownsRow_nil _ _ _ _⟩, rl rfl, wl k0, wl k1, wl k2, wl k3⟩
    rcases hk with hk | hk | hk
    · have hf := HX.tf (k - (w.heap.size + 2)) (by omega)
      rw [show w.heap.size + 2 + (k - (w.heap.size + 2)) = k by omega] at hf
      exact ((((hf.of_block (hB3.block k (by omega))).alloc _).alloc _).alloc _).alloc _
    · subst hk
      rw [← s2]
      exact (Free.new _ _ _).alloc _
    · subst hk
      rw [← s3]
      exact Free.new _ _ _
  · have h := (HX.md.keep (hB3.block (w.heap.size + 1) (by omega))).keep (hb.block _ (show w.heap.size + 1 < wr.heap.size by omega))
    refine ⟨h.free, fun i hi => ?_, h.s4, h.s5, h.s6, h.s7, h.s8, h.s9⟩
    rw [h.seen i hi]
    simp [hi]
  · have := HX.tx j hj
    rw [if_pos hj] at this
    exact up1 (by omega) this
  · exact HX.bel.trans ((hB3.mono (by omega)).trans (hb.mono (by omega)))

/-- The walk for q's mode preset. -/
theorem Ready.preset {w0 w W : World} {B n0 qi mode kh kq : Nat} {hs qs : Nat → Nat × Nat} {tt : Bool} {seen : Nat → Bool} {s : St} (h : Ready w0 w B n0 qi mode kh kq hs qs tt true seen s 0) (x : Option Nat) (a : Int) (up : Nat) (hx : ∀ u, x = some u → u < 4) (hup : up ≤ kq)
    (hmd : Md0 W (B + 1) tt qi seen x a) (hk : ∀ k, k ≠ B + 1 → W.heap[k]? = w.heap[k]?) (hsz : W.heap.size = w.heap.size) (ho : W.os = w.os ∧ W.tape = w.tape ∧ W.output = w.output) :
    Ready w0 ((((W.setCell ⟨n0 + 3, 8 + mode * 4, none⟩ (.int .u64 7)).setCell ⟨n0 + 3, 8 + mode * 4 + 1, none⟩ (.int .i64 (up : Nat))).setCell ⟨n0 + 3, 8 + mode * 4 + 2, none⟩ (skipV B x)).setCell ⟨n0 + 3, 8 + mode * 4 + 3, none⟩ (.int .i64 a)) B n0 qi mode kh kq hs qs tt false seen { s with skip := x, skAt := a } up := by
  obtain ⟨ea, qa, ec, qc, eb, xb, rq, hA⟩ := h.args
  have hl := h.gos.lay
  have hG : GoS W B n0 (8 + mode * 4) 0 tt s 0 := h.gos.same (fun k _ hne => hk k hne) (by omega)
  have hG2 := (((hG.setSr 7).setUp up).setSkip x).setSkAt a
  have hkk : ∀ k, k ≠ n0 + 3 → ((((W.setCell ⟨n0 + 3, 8 + mode * 4, none⟩ (.int .u64 7)).setCell ⟨n0 + 3, 8 + mode * 4 + 1, none⟩ (.int .i64 (up : Nat))).setCell ⟨n0 + 3, 8 + mode * 4 + 2, none⟩ (skipV B x)).setCell ⟨n0 + 3, 8 + mode * 4 + 3, none⟩ (.int .i64 a)).heap[k]? = W.heap[k]? := fun k hne => by
    rw [Below.heap_setCell _ _ _ _ hne, Below.heap_setCell _ _ _ _ hne, Below.heap_setCell _ _ _ _ hne, Below.heap_setCell _ _ _ _ hne]
  have hk2 : ∀ k, k ≠ n0 + 3 → k ≠ B + 1 → ((((W.setCell ⟨n0 + 3, 8 + mode * 4, none⟩ (.int .u64 7)).setCell ⟨n0 + 3, 8 + mode * 4 + 1, none⟩ (.int .i64 (up : Nat))).setCell ⟨n0 + 3, 8 + mode * 4 + 2, none⟩ (skipV B x)).setCell ⟨n0 + 3, 8 + mode * 4 + 3, none⟩ (.int .i64 a)).heap[k]? = w.heap[k]? := fun k h1 h2 => (hkk k h1).trans (hk k h2)
  refine ⟨⟨ea, qa, ec, qc, eb, xb, rq, hA.same (fun k hkx => hk2 k (by omega) (by omega)) hl⟩, hG2, hmd.keep (hkk _ (by omega)), h.seen, h.stk, h.back, h.qf.of_block (hk2 _ (by omega) (by omega)), ckeep h.q7 (hk2 _ (by omega) (by omega)), fun j hj => ckeep (h.txs j hj) (hk2 _ (by omega) (by omega)), ?_, hx, fun hc => by simp at hc, hup⟩
  exact h.bel.trans ⟨ho.1, ho.2.1, ho.2.2, by simp [hsz], fun k hkB => hk2 k (by omega) (by omega)⟩

/-- What handOver answers, and leaves. -/
def hand (fresh tt : Bool) (qi mode : Nat) (hl ql : List (Nat × Nat)) (at' up : Nat) (s : St) : Bool × Nat × St :=
  if fresh then handF tt qi mode hl ql at' s else handN tt qi mode ql at' up s

theorem hand_all {w0 w : World} {B n0 qi mode kh kq : Nat} {hs qs : Nat → Nat × Nat} {tt fresh : Bool} {seen : Nat → Bool} {s : St} {up : Nat} (h : Ready w0 w B n0 qi mode kh kq hs qs tt fresh seen s up) (at' : Nat) (hat : at' ≤ kq) (hnh : kh ≤ 1024) (hnq : kq ≤ 1024) :
    Calls Ybad.prog 4 #[ptr (B + 6), ptr n0, .int .i64 (at' : Nat), ptr (n0 + 3), ptr (n0 + 2)] w fun e w' =>
      e = .returned (.bool (hand fresh tt qi mode (ents kh hs) (ents kq qs) at' up s).1) ∧ GoS w' B n0 (8 + mode * 4) 7 tt (hand fresh tt qi mode (ents kh hs) (ents kq qs) at' up s).2.2 (hand fresh tt qi mode (ents kh hs) (ents kq qs) at' up s).2.1 ∧ Fr B n0 (w.setCell ⟨n0, 7, none⟩ (.int .u64 7)) w' := by
  obtain ⟨ea, qa, ec, qc, eb, xb, rq, hA⟩ := h.args
  have hS : Small s := ⟨by rw [h.stk]; simp, h.small⟩
  have hlen : s.stk.length ≤ 4 := by rw [h.stk]; simp
  have hG := h.gos
  have hfr := h.fr
  cases fresh with
  | true =>
    obtain ⟨f1, f2, f3⟩ := hfr rfl
    subst f3
    exact hand_fresh w B n0 qi mode kh kq ec qc eb xb ea qa hs qs rq tt s at' hat hnh hnq hS hlen f1 f2 hA hG h.qf _ h.q7
  | false =>
    by_cases c : ∃ u, s.skip = some u ∧ u ≠ qi ∧ s.skAt < (at' : Int)
    · obtain ⟨u, c1, c2, c3⟩ := c
      exact hand_redo w B n0 qi mode kh kq ec qc eb xb ea qa hs qs rq tt s at' up hat h.upk hnh hnq hS hlen u c1 c2 c3 hA hG h.qf _ h.q7
    · exact hand_stay w B n0 qi mode kh kq ec qc eb xb ea qa hs qs rq tt s at' up hat h.upk hnh hnq hS hlen (fun u hu hne => by
        rcases Int.lt_or_le s.skAt (at' : Int) with hlt | hge
        · exact absurd ⟨u, hu, hne, hlt⟩ c
        · exact hge) hA hG h.qf _ h.q7

end Go.Proofs.YbulkcahwDoor.Ho
