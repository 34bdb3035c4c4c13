/-
  WHAT LawS3831AHandOver LAYS before it calls handOver.
-/
import Derived.Test.YbulkcahwDoorModel
namespace Go.Proofs.YbulkcahwDoor.Ho
open Go.RowKit
set_option linter.unusedVariables false

/-- A slice of entries that came in. -/
structure In (w : World) (a : Option Addr) (n b o : Nat) (x : Nat → Nat × Nat) : Prop where
  a : 0 < n → a = some ⟨b, o, none⟩
  c0 : ∀ i, i < n → w.cell? ⟨b, o + i * 2, none⟩ = some (.int .u8 ((x i).1 : Nat))
  c1 : ∀ i, i < n → w.cell? ⟨b, o + i * 2 + 1, none⟩ = some (.int .u8 ((x i).2 : Nat))
  bd : ∀ i, i < n → (x i).1 < 256 ∧ (x i).2 < 256

theorem In.below {w w' : World} {a : Option Addr} {n b o : Nat} {x : Nat → Nat × Nat} (h : In w a n b o x) (hb : Below w.heap.size w w') : In w' a n b o x :=
  ⟨h.a, fun i hi => (hb.cell (p := ⟨b, o + i * 2, none⟩) (World.block_lt_of_cell? _ _ (h.c0 i hi))).trans (h.c0 i hi), fun i hi => (hb.cell (p := ⟨b, o + i * 2 + 1, none⟩) (World.block_lt_of_cell? _ _ (h.c1 i hi))).trans (h.c1 i hi), h.bd⟩

def red (x : Nat → Nat × Nat) : Nat → Nat × Nat := fun i => ((x i).1 % 4, (x i).2 % 6)

/-- The model's block as it is laid, nothing pushed yet. -/
structure Md0 (w : World) (mb : Nat) (tt : Bool) (qi : Nat) (seen : Nat → Bool) (skip : Option Nat) (skAt : Int) : Prop where
  free : Free w mb
  seen : ∀ i, i < 4 → w.cell? ⟨mb, i, none⟩ = some (.bool (seen i))
  s4 : w.cell? ⟨mb, 4, none⟩ = some (.slice none 0 0)
  s5 : w.cell? ⟨mb, 5, none⟩ = some (.bool false)
  s6 : w.cell? ⟨mb, 6, none⟩ = some (.bool tt)
  s7 : w.cell? ⟨mb, 7, none⟩ = some (.int .i64 (qi : Nat))
  s8 : w.cell? ⟨mb, 8, none⟩ = some (.int .i64 (skipI skip))
  s9 : w.cell? ⟨mb, 9, none⟩ = some (.int .i64 skAt)

section
variable {w w' : World} {mb qi : Nat} {tt : Bool} {seen : Nat → Bool} {skip : Option Nat} {skAt : Int}
theorem Md0.keep (h : Md0 w mb tt qi seen skip skAt) (e : w'.heap[mb]? = w.heap[mb]?) : Md0 w' mb tt qi seen skip skAt :=
  ⟨h.free.of_block e, fun i hi => ckeep (h.seen i hi) e, ckeep h.s4 e, ckeep h.s5 e, ckeep h.s6 e, ckeep h.s7 e, ckeep h.s8 e, ckeep h.s9 e⟩
theorem Md0.setSkip (h : Md0 w mb tt qi seen skip skAt) (x : Option Nat) : Md0 (w.setCell ⟨mb, 8, none⟩ (.int .i64 (skipI x))) mb tt qi seen x skAt :=
  ⟨h.free.set _ _ _, fun i hi => cset (h.seen i hi) (by omega), cset h.s4 (by omega), cset h.s5 (by omega), cset h.s6 (by omega), cset h.s7 (by omega), csame h.s8, cset h.s9 (by omega)⟩
theorem Md0.setSkAt (h : Md0 w mb tt qi seen skip skAt) (x : Int) : Md0 (w.setCell ⟨mb, 9, none⟩ (.int .i64 x)) mb tt qi seen skip x :=
  ⟨h.free.set _ _ _, fun i hi => cset (h.seen i hi) (by omega), cset h.s4 (by omega), cset h.s5 (by omega), cset h.s6 (by omega), cset h.s7 (by omega), cset h.s8 (by omega), csame h.s9⟩
theorem Md0.setSeen (h : Md0 w mb tt qi seen skip skAt) {u : Nat} (hu : u < 4) : Md0 (w.setCell ⟨mb, u, none⟩ (.bool true)) mb tt qi (fun i => if i = u then true else seen i) skip skAt := by
  refine ⟨h.free.set _ _ _, fun i hi => ?_, cset h.s4 (by omega), cset h.s5 (by omega), cset h.s6 (by omega), cset h.s7 (by omega), cset h.s8 (by omega), cset h.s9 (by omega)⟩
  by_cases e : i = u
  · subst e
    simpa using csame (h.seen i hi)
  · simpa [e] using cset (h.seen i hi) (u := .bool true) (b' := mb) (o' := u) (by omega)
theorem Md0.toMdS (h : Md0 w mb tt qi seen skip skAt) (N : Nat) (h1 : mb < N) (h2 : N ≤ w.heap.size) : MdS w mb N tt qi { seen := seen, back := false, stk := [], skip := skip, skAt := skAt } :=
  ⟨h1, h2, h.free, h.seen, ⟨_, h.s4, World.ownsRow_nil _ _ _ _⟩, h.s5, h.s6, h.s7, h.s8, h.s9⟩
end

/-- k of the four transactions are laid. -/
structure Txs (w wr : World) (k : Nat) (tt : Bool) (qi : Nat) (seen : Nat → Bool) : Prop where
  bel : Below w.heap.size w wr
  size : wr.heap.size = w.heap.size + 2 + k
  free : Free wr w.heap.size
  tx : ∀ i, i < 4 → wr.cell? ⟨w.heap.size, i, none⟩ = some (if i < k then ptr (w.heap.size + 2 + i) else .pointer none)
  tf : ∀ i, i < k → Free wr (w.heap.size + 2 + i)
  ts : ∀ i, i < k → wr.cell? ⟨w.heap.size + 2 + i, 11, none⟩ = some (tval (seen i))
  md : Md0 wr (w.heap.size + 1) tt qi (fun i => decide (i < k) && seen i) none 0

/-- Txn{} -/
def txn0 : Array Value := #[.pointer none, .pointer none, .int .u64 0, .int .u64 0, .int .u8 0, .int .u8 0, .slice none 0 0, .pointer none, .int .u8 0, .int .i64 0, .pointer none, .int .u64 0]

theorem txs_start (w : World) (tt : Bool) (qi : Nat) (seen : Nat → Bool) : Txs w ((w.alloc (.cells #[.pointer none, .pointer none, .pointer none, .pointer none] 26)).alloc
    (.cells #[.bool false, .bool false, .bool false, .bool false, .slice none 0 0, .bool false, .bool tt, .int .i64 (qi : Nat), .int .i64 (-1), .int .i64 0] 31)) 0 tt qi seen := by
  have ha : ∀ (W : World) (c : Array Value) (t : TypeId) (j : Nat) (v : Value), c[j]? = some v → (W.alloc (.cells c t)).cell? ⟨W.heap.size, j, none⟩ = some v := fun W c t j v hv => by
    obtain ⟨hlt, _⟩ := Array.getElem?_eq_some_iff.1 hv
    have := (World.rowIs_alloc W c t (fun i => c.getD i undef) (fun i hi => by simp [Array.getD, hi])).cell (i := j) hlt
    rw [this]
    simp [Array.getD, hlt]
    simpa [hlt] using hv
  have hs : (w.alloc (.cells #[.pointer none, .pointer none, .pointer none, .pointer none] 26)).heap.size = w.heap.size + 1 := by simp
  refine ⟨((Below.refl _ _).alloc (Nat.le_refl _) _).alloc (by simp) _, by simp, (Free.new _ _ _).alloc _, fun i hi => ?_, fun i hi => absurd hi (by omega), fun i hi => absurd hi (by omega), ?_⟩
  · refine calloc ?_ _
    rw [if_neg (by omega)]
    refine ha w _ 26 i _ ?_
    match i, hi with
    | 0, _ => rfl
    | 1, _ => rfl
    | 2, _ => rfl
    | 3, _ => rfl
  · rw [← hs]
    refine ⟨Free.new _ _ _, fun i hi => ?_, ha _ _ _ _ _ rfl, ha _ _ _ _ _ rfl, ha _ _ _ _ _ rfl, ha _ _ _ _ _ rfl, ha _ _ _ _ _ rfl, ha _ _ _ _ _ rfl⟩
    refine ha _ _ _ _ _ ?_
    match i, hi with
    | 0, _ => rfl
    | 1, _ => rfl
    | 2, _ => rfl
    | 3, _ => rfl

theorem txs_step0 {w wr : World} {k qi : Nat} {tt : Bool} {seen : Nat → Bool} (h : Txs w wr k tt qi seen) (hk : k < 4) (hs : seen k = false) :
    Txs w ((wr.alloc (.cells txn0 47)).setCell ⟨w.heap.size, k, none⟩ (.pointer (some ⟨wr.heap.size, 0, none⟩))) (k + 1) tt qi seen := by
  have hsz := h.size
  have hnew : Free ((wr.alloc (.cells txn0 47)).setCell ⟨w.heap.size, k, none⟩ (.pointer (some ⟨wr.heap.size, 0, none⟩))) (w.heap.size + 2 + k) := by
    have := Free.new wr txn0 47
    rw [hsz] at this
    exact this.set _ _ _
  refine ⟨(h.bel.alloc (by omega) _).setCell (by show w.heap.size ≤ w.heap.size; omega) _, by simp [hsz]; omega, (h.free.alloc _).set _ _ _, fun i hi => ?_, fun i hi => ?_, fun i hi => ?_, ?_⟩
  · by_cases e : i = k
    · subst e
      have := csame (u := .pointer (some ⟨wr.heap.size, 0, none⟩)) (calloc (h.tx i hi) (.cells txn0 47))
      rw [this, if_pos (by omega), hsz]
      rfl
    · rw [cset (calloc (h.tx i hi) _) (by omega)]
      by_cases e2 : i < k
      · rw [if_pos e2, if_pos (by omega)]
      · rw [if_neg e2, if_neg (by omega)]
  · by_cases e : i = k
    · subst e; exact hnew
    · exact ((h.tf i (by omega)).alloc _).set _ _ _
  · by_cases e : i = k
    · subst e
      rw [hs]
      refine cset ?_ (by omega)
      have := (World.rowIs_alloc wr txn0 47 (fun j => txn0.getD j undef) (fun j hj => by simp [Array.getD, hj])).cell (i := 11) (by decide)
      rw [hsz] at this
      exact this
    · exact cset (calloc (h.ts i (by omega)) _) (by omega)
  · have e1 : ((wr.alloc (.cells txn0 47)).setCell ⟨w.heap.size, k, none⟩ (.pointer (some ⟨wr.heap.size, 0, none⟩))).heap[w.heap.size + 1]? = wr.heap[w.heap.size + 1]? := by
      rw [Below.heap_setCell _ _ _ _ (by simp), Below.heap_alloc _ _ _ (by omega)]
    have h2 := h.md.keep e1
    refine ⟨h2.free, fun i hi => ?_, h2.s4, h2.s5, h2.s6, h2.s7, h2.s8, h2.s9⟩
    rw [h2.seen i hi]
    by_cases e : i = k
    · subst e; simp [hs]
    · have : decide (i < k + 1) = decide (i < k) := by by_cases h : i < k <;> simp [h] <;> omega
      rw [this]

theorem txs_step1 {w wr : World} {k qi : Nat} {tt : Bool} {seen : Nat → Bool} (h : Txs w wr k tt qi seen) (hk : k < 4) (hs : seen k = true) :
    Txs w ((((wr.alloc (.cells txn0 47)).setCell ⟨w.heap.size, k, none⟩ (.pointer (some ⟨wr.heap.size, 0, none⟩))).setCell ⟨wr.heap.size, 11, none⟩ (.int .u64 7)).setCell ⟨w.heap.size + 1, k, none⟩ (.bool true)) (k + 1) tt qi seen := by
  have hsz := h.size
  have h0 := txs_step0 (seen := fun i => if i = k then false else seen i) (w := w) (wr := wr) (k := k) (tt := tt) (qi := qi) ⟨h.bel, h.size, h.free, h.tx, h.tf, fun i hi => by
      have := h.ts i hi
      simpa [show i ≠ k by omega] using this, by
      have hm := h.md
      refine ⟨hm.free, fun i hi => ?_, hm.s4, hm.s5, hm.s6, hm.s7, hm.s8, hm.s9⟩
      rw [hm.seen i hi]
      by_cases e : i < k
      · simp [e, show i ≠ k by omega]
      · simp [e]⟩ hk (by simp)
  rw [hsz] at h0 ⊢
  refine ⟨(h0.bel.setCell (by show w.heap.size ≤ w.heap.size + 2 + k; omega) _).setCell (by show w.heap.size ≤ w.heap.size + 1; omega) _, by have := h0.size; simpa using this, (h0.free.set _ _ _).set _ _ _, fun i hi => cset (cset (h0.tx i hi) (by omega)) (by omega), fun i hi => ((h0.tf i hi).set _ _ _).set _ _ _, fun i hi => ?_, ?_⟩
  · refine cset ?_ (by omega)
    by_cases e : i = k
    · subst e
      rw [csame (h0.ts i hi), hs]
      rfl
    · rw [cset (h0.ts i hi) (by omega)]
      simp [e]
  · have hm := (h0.md.keep (w' := (((wr.alloc (.cells txn0 47)).setCell ⟨w.heap.size, k, none⟩ (.pointer (some ⟨w.heap.size + 2 + k, 0, none⟩))).setCell ⟨w.heap.size + 2 + k, 11, none⟩ (.int .u64 7))) (Below.heap_setCell _ _ _ _ (by simp; omega))).setSeen hk
    refine ⟨hm.free, fun i hi => ?_, hm.s4, hm.s5, hm.s6, hm.s7, hm.s8, hm.s9⟩
    rw [hm.seen i hi]
    by_cases e : i = k
    · subst e; simp [hs]
    · simp [e]


/-! ### The lists that the law fills: holders (rows of four cells), the queue (rows of pointers) -/

/-- 'x = append(x, y)' on a row of one's own, as one step of a region that draws. -/
theorem step_append_own {P : Program} {ops : Array Oper} {o : Oper} {a : Act} {w : World} {K : Act → World → Prop} {Q : Exit → Act → World → Prop} {E : Prop} (hgd : o.guard = none) (s x : Operand) (t : TypeId)
    (ho : o.op = .call { callee := .builtin .append, args := #[s, x], argTypes := #[t, t] })
    (base : Nat) (e : TypeId) (i : TypeInfo) (z : Value) (size bytes : Nat) (ht : P.underlying t = some (.slice e)) (hi : P.info? e = some i) (hz : i.zero = some z)
    (hsize : i.size = size) (hby : i.bytes = bytes) (hzs : z.cells.size = size) (hsz : 0 < size)
    (v : Value) (n : Nat) (xs : List Value) (hs : a.eval s = v) (hown : w.ownsRow base e size v n xs)
    (ad : Addr) (m c : Nat) (news : List Value) (hx : a.eval x = .slice (some ad) m c) (hl : news.length = m * size) (hnews : ∀ j u, news[j]? = some u → w.cell? (ad.add j) = some u) (h1 : ∀ u ∈ news, u.oneCell' = true)
    (h63 : n + m ≤ maxLen) (hbytes : (n + m) * bytes ≤ 140737488355328) (hbase : base ≤ w.heap.size)
    (h : ∀ va vn vc w', w'.ownsRow base e size (.slice va vn vc) (n + m) (xs ++ news) → w.grownBy w' v.ownBlock → K (a.put o.dst (.slice va vn vc)) w') :
    if Region.wanted o (yielded ops a.tmps) = true then Oper.wp P o a w K Q else E := by
  have hw : Region.wanted o (yielded ops a.tmps) = true := by simp [Region.wanted, hgd]
  rw [if_pos hw]
  refine wp_append_own w s x t ho base e i z size bytes ht hi hz hsize hby hzs hsz v n xs hs hown ad m c news hx hl hnews h1 h63 hbytes hbase ?_
  intro v' w' hown' hg _
  have hex : ∃ a n c, v' = .slice a n c := by
    rcases hown'.2 with ⟨h, _⟩ | ⟨g, cap, cur, h, _⟩ <;> exact ⟨_, _, _, h⟩
  obtain ⟨va, vn, vc, rfl⟩ := hex
  exact h va vn vc w' hown' hg

/-- 'append' ONTO A ROW OF ONE's OWN, AS AN EQUATION FOR THE WALK OF A REGION THAT DRAWS: the value and the world behind it are named ahead of the walk; the equation stands on the operation as the walk meets it. -/
theorem op_append_own {P : Program} (w : World) (base : Nat) (t ty e : TypeId) (i : TypeInfo) (z : Value) (size bytes : Nat) (ht : P.underlying t = some (.slice e)) (hi : P.info? e = some i) (hz : i.zero = some z)
    (hsize : i.size = size) (hby : i.bytes = bytes) (hzs : z.cells.size = size) (hsz : 0 < size)
    (v : Value) (n : Nat) (xs : List Value) (hown : w.ownsRow base e size v n xs)
    (a : Addr) (m c : Nat) (news : List Value) (hl : news.length = m * size) (hnews : ∀ j u, news[j]? = some u → w.cell? (a.add j) = some u) (h1 : ∀ u ∈ news, u.oneCell' = true)
    (h63 : n + m ≤ maxLen) (hbytes : (n + m) * bytes ≤ 140737488355328) (hbase : base ≤ w.heap.size) (s x d : Nat) :
    ∃ va vn vc w', (∀ (A : Act) (K : Act → World → Prop) (Q : Exit → Act → World → Prop) (pos : String) (after : Array Edge), A.eval (.tmp s) = v → A.eval (.tmp x) = .slice (some a) m c →
        Oper.wp P { dst := some d, op := .call { callee := .builtin .append, args := #[.tmp s, .tmp x], argTypes := #[t, t] }, type := ty, pos := pos, after := after, guard := none } A w K Q = K (A.put (some d) (.slice va vn vc)) w') ∧
      w'.ownsRow base e size (.slice va vn vc) (n + m) (xs ++ news) ∧ w.grownBy w' v.ownBlock := by
  obtain ⟨v', w', hr, hown', hg, _⟩ := run_append_own (P := P) w base t ty e i z size bytes ht hi hz hsize hby hzs hsz v n xs hown a m c news hl hnews h1 h63 hbytes hbase
  have hex : ∃ a n c, v' = .slice a n c := by
    rcases hown'.2 with ⟨h, _⟩ | ⟨g, cap, cur, h, _⟩ <;> exact ⟨_, _, _, h⟩
  obtain ⟨va, vn, vc, rfl⟩ := hex
  refine ⟨va, vn, vc, w', fun A K Q pos after h1 h2 => ?_, hown', hg⟩
  unfold Oper.wp execOp
  simp only [resolve, invoke, builtin, Sem.run_bind, Sem.run_pure, Result.andThen_ok, List.map_toArray, List.map_cons, List.map_nil, h1, h2, hr]
  rfl

/-- The cells of a slice of one element that was just built. -/
theorem row_new {W : World} {n : Nat} (hn : W.heap.size = n) (l : List Value) (t : TypeId) : ∀ j u, l[j]? = some u → (W.alloc (.cells l.toArray t)).cell? ((⟨n, 0, none⟩ : Addr).add j) = some u := by
  intro j u hj
  rw [Addr.add_lit, ← hn, Nat.zero_add]
  obtain ⟨hlt, _⟩ := List.getElem?_eq_some_iff.1 hj
  have := (World.rowIs_alloc W l.toArray t (fun i => l.getD i undef) (fun i hi => by simp at hi; simp [List.getD, hi])).cell (i := j) (by simpa using hlt)
  rw [this]
  simp [List.getD, hj]

theorem own_ne {w : World} {base e size n : Nat} {v : Value} {xs : List Value} (h : w.ownsRow base e size v n xs) {b t : Nat} {c : Array Value} {f : Nat × Nat} (hb : w.heap[b]? = some (.cells c t f)) (hne : e ≠ t) : some b ≠ v.ownBlock := by
  intro e1
  obtain ⟨_, c', hc'⟩ := own_row h b e1.symm
  rw [hb] at hc'
  simp at hc'
  exact hne hc'.2.1.symm

def hcell (B : Nat) (x : Nat × Nat) : List Value := [ptr (B + 2 + x.1), .int .u8 (x.2 : Nat), .int .u64 0, .int .i64 0]
def hcells (B : Nat) (hs : Nat → Nat × Nat) : Nat → List Value
  | 0 => []
  | i + 1 => hcells B hs i ++ hcell B (hs i)

theorem hcells_length (B : Nat) (hs : Nat → Nat × Nat) : ∀ i, (hcells B hs i).length = i * 4
  | 0 => rfl
  | i + 1 => by simp [hcells, hcells_length B hs i, hcell]; omega

theorem hcells_at (B : Nat) (hs : Nat → Nat × Nat) (i j : Nat) (hj : j < 4) : ∀ n, i < n → (hcells B hs n)[i * 4 + j]? = (hcell B (hs i))[j]?
  | 0, h => absurd h (by omega)
  | n + 1, h => by
    have hl := hcells_length B hs n
    simp only [hcells]
    by_cases e : i = n
    · subst e
      rw [List.getElem?_append_right (by omega), hl]
      congr 1
      omega
    · rw [List.getElem?_append_left (by omega)]
      exact hcells_at B hs i j hj n (by omega)

structure Hold (w1 wr : World) (B i : Nat) (hs : Nat → Nat × Nat) : Prop where
  bel : Below (B + 6) w1 wr
  size : B + 7 ≤ wr.heap.size
  free : Free wr (B + 6)
  l16 : wr.cell? ⟨B + 6, 16, none⟩ = some (.slice none 0 0)
  l9 : ∃ v, wr.cell? ⟨B + 6, 9, none⟩ = some v ∧ wr.ownsRow (B + 7) 64 4 v i (hcells B hs i)

def ls0 : Array Value := #[.string ⟨#[]⟩, .string ⟨#[]⟩, .int .i64 0, .int .i32 0, .int .u32 0, .bool false, .bool false, .bool false, .int .u32 0, .slice none 0 0, .pointer none, .int .u8 0, .int .u64 0, .int .i64 0, .map none, .int .u64 0, .slice none 0 0, .pointer none]

theorem hold_start (w1 : World) (B : Nat) (hs : Nat → Nat × Nat) (h : w1.heap.size = B + 6) : Hold w1 (w1.alloc (.cells ls0 74)) B 0 hs := by
  have ha : ∀ (j : Nat) (v : Value), ls0[j]? = some v → (w1.alloc (.cells ls0 74)).cell? ⟨B + 6, j, none⟩ = some v := fun j v hv => by
    obtain ⟨hlt, _⟩ := Array.getElem?_eq_some_iff.1 hv
    have := (World.rowIs_alloc w1 ls0 74 (fun i => ls0.getD i undef) (fun i hi => by simp [Array.getD, hi])).cell (i := j) hlt
    rw [h] at this
    rw [this]
    simp [Array.getD, hlt]
    simpa [hlt] using hv
  exact ⟨(Below.refl _ _).alloc (by omega) _, by simp [h], h ▸ Free.new w1 ls0 74, ha _ _ rfl, _, ha _ _ rfl, World.ownsRow_nil _ _ _ _⟩

theorem hold_step {w1 wr W w5 : World} {B i : Nat} {hs : Nat → Nat × Nat} {v v' : Value} (h : Hold w1 wr B i hs) (h9 : wr.cell? ⟨B + 6, 9, none⟩ = some v) (hown0 : wr.ownsRow (B + 7) 64 4 v i (hcells B hs i))
    (hW : ∀ k, k < wr.heap.size → W.heap[k]? = wr.heap[k]?) (hWs : wr.heap.size ≤ W.heap.size) (hWo : W.os = wr.os ∧ W.tape = wr.tape ∧ W.output = wr.output)
    (hown : w5.ownsRow (B + 7) 64 4 v' (i + 1) (hcells B hs i ++ hcell B (hs i))) (hg : W.grownBy w5 v.ownBlock) : Hold w1 (w5.setCell ⟨B + 6, 9, none⟩ v') B (i + 1) hs := by
  have hsz := h.size
  have hv : ∀ k, v.ownBlock = some k → B + 7 ≤ k := fun k hk => (hown0.lt k hk).1
  have keep : ∀ k, k < B + 7 → w5.heap[k]? = wr.heap[k]? := fun k hk => (hg.block k (by omega) (fun e => by have := hv k e.symm; omega)).trans (hW k (by omega))
  refine ⟨h.bel.trans ⟨hg.os.trans hWo.1, hg.tape.trans hWo.2.1, hg.output.trans hWo.2.2, by have := hg.size; simp; omega, fun k hk => ?_⟩, by have := hg.size; simp; omega, (h.free.of_block (keep _ (by omega))).set _ _ _, cset (ckeep h.l16 (keep _ (by omega))) (by omega), v', csame (ckeep h9 (keep _ (by omega))), ?_⟩
  · rw [Below.heap_setCell _ _ _ _ (by simp; omega)]
    exact keep k (by omega)
  · exact own_set hown (by omega) _

/-- The queue: i requests are laid, all from block N on. -/
structure Que (w2 wr : World) (B N i : Nat) (qs : Nat → Nat × Nat) (rq : Nat → Nat) : Prop where
  os : wr.os = w2.os
  tape : wr.tape = w2.tape
  output : wr.output = w2.output
  size : N ≤ wr.heap.size
  keep : ∀ k, k < N → k ≠ B + 6 → wr.heap[k]? = w2.heap[k]?
  free : Free wr (B + 6)
  l9 : wr.cell? ⟨B + 6, 9, none⟩ = w2.cell? ⟨B + 6, 9, none⟩
  l16 : ∃ v, wr.cell? ⟨B + 6, 16, none⟩ = some v ∧ wr.ownsRow N 77 1 v i ((List.range i).map fun j => ptr (rq j))
  rb : ∀ j, j < i → N ≤ rq j
  rt : ∀ j, j < i → ∃ c, wr.heap[rq j]? = some (.cells c 85 (0, 0))
  r0 : ∀ j, j < i → wr.cell? ⟨rq j, 0, none⟩ = some (ptr (B + 2 + (qs j).1))
  r2 : ∀ j, j < i → wr.cell? ⟨rq j, 2, none⟩ = some (.int .u8 ((qs j).2 : Nat))

/-- Behind one round: the request is laid at block r of W, the slice has grown, its header is stored. -/
theorem que_step {w2 wr W w5 : World} {B N i r : Nat} {qs : Nat → Nat × Nat} {rq : Nat → Nat} {v v' : Value} (h : Que w2 wr B N i qs rq) (h16 : wr.cell? ⟨B + 6, 16, none⟩ = some v) (hown0 : wr.ownsRow N 77 1 v i ((List.range i).map fun j => ptr (rq j))) (hN : B + 7 ≤ N)
    (hW : ∀ k, k < wr.heap.size → W.heap[k]? = wr.heap[k]?) (hWs : wr.heap.size ≤ W.heap.size) (hWo : W.os = wr.os ∧ W.tape = wr.tape ∧ W.output = wr.output)
    (hr : wr.heap.size ≤ r) (hrt : ∃ c, W.heap[r]? = some (.cells c 85 (0, 0))) (hr0 : W.cell? ⟨r, 0, none⟩ = some (ptr (B + 2 + (qs i).1))) (hr2 : W.cell? ⟨r, 2, none⟩ = some (.int .u8 ((qs i).2 : Nat)))
    (hownW : W.ownsRow N 77 1 v i ((List.range i).map fun j => ptr (rq j)))
    (hown : w5.ownsRow N 77 1 v' (i + 1) (((List.range i).map fun j => ptr (rq j)) ++ [ptr r])) (hg : W.grownBy w5 v.ownBlock) :
    Que w2 (w5.setCell ⟨B + 6, 16, none⟩ v') B N (i + 1) qs (fun j => if j = i then r else rq j) := by
  have hsz := h.size
  have hv : ∀ k, v.ownBlock = some k → N ≤ k := fun k hk => (hown0.lt k hk).1
  have keep : ∀ k, k < N → w5.heap[k]? = wr.heap[k]? := fun k hk => (hg.block k (by omega) (fun e => by have := hv k e.symm; omega)).trans (hW k (by omega))
  have keepT : ∀ (k : Nat) (c : Array Value), W.heap[k]? = some (.cells c 85 (0, 0)) → w5.heap[k]? = W.heap[k]? := fun k c hc => hg.block k (Array.getElem?_eq_some_iff.1 hc).1 (own_ne hownW hc (by decide))
  have hall : ∀ j : Nat, j < i + 1 → ∃ c, W.heap[if j = i then r else rq j]? = some (.cells c 85 (0, 0)) := fun j hj => by
    by_cases e : j = i
    · simp only [e, if_true]; exact hrt
    · simp only [e, if_false]
      obtain ⟨c, hc⟩ := h.rt j (by omega)
      exact ⟨c, (hW _ (Array.getElem?_eq_some_iff.1 hc).1).trans hc⟩
  have hge : ∀ j : Nat, j < i + 1 → N ≤ (if j = i then r else rq j) := fun j hj => by
    by_cases e : j = i
    · simp only [e, if_true]; omega
    · simp only [e, if_false]; exact h.rb j (by omega)
  have hcl : ∀ j : Nat, j < i + 1 → ∀ (o : Nat) (x : Value), W.cell? ⟨if j = i then r else rq j, o, none⟩ = some x → (w5.setCell ⟨B + 6, 16, none⟩ v').cell? ⟨if j = i then r else rq j, o, none⟩ = some x := fun j hj o x hx => by
    obtain ⟨c, hc⟩ := hall j hj
    have := hge j hj
    exact cset (ckeep hx (keepT _ c hc)) (by omega)
  refine ⟨hg.os.trans (hWo.1.trans h.os), hg.tape.trans (hWo.2.1.trans h.tape), hg.output.trans (hWo.2.2.trans h.output), by have := hg.size; simp; omega, fun k hk hne => ?_, (h.free.of_block (keep _ (by omega))).set _ _ _, ?_, ⟨v', csame (ckeep h16 (keep _ (by omega))), ?_⟩, hge, fun j hj => ?_, fun j hj => ?_, fun j hj => ?_⟩
  · rw [Below.heap_setCell _ _ _ _ hne, keep k hk]
    exact h.keep k hk hne
  · rw [World.cell?_setCell_other _ _ _ _ (fun e => by have := congrArg Addr.off e; simp at this), ← h.l9]
    exact World.cell?_of_block (w := wr) (a := ⟨B + 6, 9, none⟩) (keep (B + 6) (by omega))
  · have e : (List.range (i + 1)).map (fun j => ptr (if j = i then r else rq j)) = (List.range i).map (fun j => ptr (rq j)) ++ [ptr r] := by
      rw [List.range_succ, List.map_append]
      congr 1
      · refine List.map_congr_left fun j hj => ?_
        have : j < i := List.mem_range.1 hj
        simp [show j ≠ i by omega]
      · simp
    rw [e]
    exact own_set hown (by omega) _
  · obtain ⟨c, hc⟩ := hall j hj
    have := hge j hj
    exact ⟨c, by rw [Below.heap_setCell _ _ _ _ (by simp; omega)]; exact (keepT _ c hc).trans hc⟩
  · refine hcl j hj _ _ ?_
    by_cases e : j = i
    · simp only [e, if_true]; exact hr0
    · simp only [e, if_false]
      have := h.r0 j (by omega)
      exact ckeep this (hW _ (World.block_lt_of_cell? _ _ this))
  · refine hcl j hj _ _ ?_
    by_cases e : j = i
    · simp only [e, if_true]; exact hr2
    · simp only [e, if_false]
      have := h.r2 j (by omega)
      exact ckeep this (hW _ (World.block_lt_of_cell? _ _ this))

end Go.Proofs.YbulkcahwDoor.Ho
