/-
  THE WALK of order.New at no messages delivered.
-/
import Derived.Test.YbulkcaikQu
import Derived.Laws.IdiomRangeMap
namespace Go.Proofs.Ybulkcaik.Qu
open Go.RowKit
set_option linter.unusedVariables false

theorem info86 : (Yba.prog.info? 86).map (fun i => (i.zero, i.size, i.bytes)) = some (some (.pointer none), 1, 8) := by kernel_rfl

def head (pb : Nat → Nat) (j : Nat) : Value := .pointer (some ⟨pb j, 0, none⟩)
def heads (pb : Nat → Nat) (l : Nat) : List Value := (List.range l).map (head pb)
def p0 (j : Nat) : PV := ⟨nm j, false, 0, 0, 0, false, 0⟩

/-- The queue, its peers being made. -/
structure Mk (w0 w : World) (k qb dm : Nat) (v : Value) (pb : Nat → Nat) : Prop where
  bel : Below w0.heap.size w0 w
  own : w.ownsRow w0.heap.size 86 1 v k (heads pb k)
  q : ∃ f, w.rowIs qb 93 12 f ∧ f 0 = v ∧ f 2 = .map (some dm)
  d : MapAt w dm 0 (.map [])
  p : ∀ j, j < k → PeerAt w (pb j) (pb j - 2) (p0 j)
  f : ∀ j, j < k → MapAt w (pb j - 2) 0 (.map [])
  bq : w0.heap.size ≤ qb
  bp : ∀ j, j < k → w0.heap.size + 2 ≤ pb j
  inc : ∀ j j', j < j' → j' < k → pb j < pb j'

/-- The blocks that a new peer takes: six maps, then the peer. -/
def laid (w : World) (c : Array Value) : World := ((((((w.alloc (.map #[] 0)).alloc (.map #[] 0)).alloc (.map #[] 0)).alloc (.map #[] 0)).alloc (.map #[] 0)).alloc (.map #[] 0)).alloc (.cells c 98)

theorem blk_new (w : World) (o : Obj) : (w.alloc o).heap[w.heap.size]? = some o := by
  show (w.heap.push _)[w.heap.size]? = _
  simp

theorem blk_at (w : World) (o : Obj) {b : Nat} (hb : b = w.heap.size) : (w.alloc o).heap[b]? = some o := by
  rw [hb]; exact blk_new w o

theorem laid_size (w : World) (c : Array Value) : (laid w c).heap.size = w.heap.size + 7 := by simp [laid]

theorem laid_old (w : World) (c : Array Value) {b : Nat} (hb : b < w.heap.size) : (laid w c).heap[b]? = w.heap[b]? := by
  unfold laid
  rw [Below.heap_alloc _ _ _ (by simp; omega), Below.heap_alloc _ _ _ (by simp; omega), Below.heap_alloc _ _ _ (by simp; omega), Below.heap_alloc _ _ _ (by simp; omega), Below.heap_alloc _ _ _ (by simp; omega), Below.heap_alloc _ _ _ (by simp; omega), Below.heap_alloc _ _ _ hb]

theorem laid_map (w : World) (c : Array Value) : (laid w c).heap[w.heap.size + 4]? = some (.map #[] 0) := by
  unfold laid
  rw [Below.heap_alloc _ _ _ (by simp), Below.heap_alloc _ _ _ (by simp)]
  exact blk_at _ _ (by simp)

theorem laid_peer (w : World) (c : Array Value) : (laid w c).heap[w.heap.size + 6]? = some (.cells c 98) := blk_at _ _ (by simp)

theorem map_empty {w : World} {b : Nat} (h : w.heap[b]? = some (.map #[] 0)) : MapAt w b 0 (.map []) :=
  ⟨#[], 0, h, ⟨by simp, MapKept.stamped_empty 0, by simp⟩, Nat.le_refl _, rfl⟩

/-- A look-up in a map that holds nothing. -/
theorem look_empty {w : World} {b n : Nat} (h : MapAt w b n (.map [])) (s : ByteArray) (hs : s.size ≤ maxLen) : (Instr.lookup 89 (.map (some b)) (.string s) false).run Yba.prog w = .ok (.int .u64 0) w := by
  obtain ⟨c, hrun, hat, _⟩ := h.lookup_int (Maps.string_keyed Yba.underlying9) Yba.underlying89 Yba.underlying22 (by kernel_rfl) (key := .string s) (Go.WideMaps.keyOf_string_mk Yba.underlying9 hs)
  simp [DataW.atKey] at hat
  rw [hrun, ← hat]

theorem own_ne {w : World} {base e size n : Nat} {v : Value} {xs : List Value} (h : w.ownsRow base e size v n xs) {b : Nat} (hr : ∀ c, w.heap[b]? ≠ some (.cells c e)) : some b ≠ v.ownBlock := by
  intro hb
  rcases h.2 with ⟨rfl, _⟩ | ⟨g, cap, cur, rfl, _, hg, _⟩
  · simp [Value.ownBlock] at hb
  · simp only [Value.ownBlock, Option.some.injEq] at hb
    subst hb
    exact hr _ hg

theorem getD_of {c : Array Value} {i : Nat} {v d : Value} (h : c[i]? = some v) : c.getD i d = v := by
  simp only [Array.getD_eq_getD_getElem?, h, Option.getD_some]

theorem mk_next {w wr w1 : World} {k qb dm : Nat} {v : Value} {pb : Nat → Nat} {c : Array Value} {o : Obj} {ga : Option Addr} {gl gcap : Nat} (hM : Mk w wr k qb dm v pb)
    (hc : c.size = 23 ∧ c[0]? = some (.string (nm k)) ∧ c[1]? = some (.bool false) ∧ c[7]? = some (.int .u64 0) ∧ c[9]? = some (.int .u64 0) ∧ c[10]? = some (.int .u64 0) ∧ c[11]? = some (.bool false) ∧ c[12]? = some (.int .u64 0) ∧ c[19]? = some (.map (some (wr.heap.size + 4))))
    (hown : w1.ownsRow w.heap.size 86 1 (.slice ga gl gcap) (k + 1) (heads pb k ++ [.pointer (some ⟨wr.heap.size + 6, 0, none⟩)]))
    (hg : ((laid wr c).alloc o).grownBy w1 v.ownBlock) :
    w1.cell? ⟨qb, 0, none⟩ = some v ∧ w1.frozen? ⟨qb, 0, none⟩ = false ∧
    Mk w (w1.setCell ⟨qb, 0, none⟩ (.slice ga gl gcap)) (k + 1) qb dm (.slice ga gl gcap) (fun j => if j = k then wr.heap.size + 6 else pb j) := by
  obtain ⟨fq, hfr, hf0, hf2⟩ := hM.q
  obtain ⟨cq, hcq, hcq'⟩ := hfr
  have hfr : wr.rowIs qb 93 12 fq := ⟨cq, hcq, hcq'⟩
  have lq := hfr.lt
  have hsz := hM.bel.size
  have hls := laid_size wr c
  have hlt : ∀ b, v.ownBlock = some b → w.heap.size ≤ b ∧ b < wr.heap.size := hM.own.lt
  have keep : ∀ b, b < wr.heap.size → (∀ cc, wr.heap[b]? ≠ some (.cells cc 86)) → w1.heap[b]? = wr.heap[b]? := fun b hb hne => by
    rw [hg.block b (by simp [hls]; omega) (own_ne hM.own hne), Below.heap_alloc _ _ _ (by omega), laid_old _ _ hb]
  have new : ∀ b, wr.heap.size ≤ b → b < wr.heap.size + 7 → w1.heap[b]? = (laid wr c).heap[b]? := fun b h1 h2 => by
    rw [hg.block b (by simp [hls]; omega) (fun e => by have := (hlt _ e.symm).2; omega), Below.heap_alloc _ _ _ (by omega)]
  have kq := keep qb lq (fun cc e => by rw [hcq] at e; cases e)
  have rq : w1.rowIs qb 93 12 fq := hfr.of_block kq
  have e1 : ∀ b, b ≠ qb → (w1.setCell ⟨qb, 0, none⟩ (.slice ga gl gcap)).heap[b]? = w1.heap[b]? := fun b hb => Below.heap_setCell _ _ _ _ hb
  have dm' : dm ≠ qb := (hM.d.ne hcq).symm
  have pm : ∀ j, j < k → ∀ (u : Nat → Nat), PeerAt (w1.setCell ⟨qb, 0, none⟩ (.slice ga gl gcap)) (pb j) (pb j - 2) (p0 j) ∧ MapAt (w1.setCell ⟨qb, 0, none⟩ (.slice ga gl gcap)) (pb j - 2) 0 (.map []) := fun j hj _ => by
    obtain ⟨cj, hcj⟩ := (hM.p j hj).blk
    have lj := (hM.p j hj).lt
    refine ⟨(hM.p j hj).of_block ((e1 _ ?_).trans (keep _ lj fun cc e => by rw [hcj] at e; cases e)), (hM.f j hj).of_block ((e1 _ ?_).trans (keep _ (hM.f j hj).lt fun cc e => (hM.f j hj).ne e rfl))⟩
    · rintro e; rw [e, hcq] at hcj; cases hcj
    · exact ((hM.f j hj).ne hcq).symm
  refine ⟨by rw [rq.cell (by omega), hf0], rq.frozen 0, ⟨?_, ?_, ⟨_, rq.set 0 _, by simp, by simp [hf2]⟩, ?_, fun j hj => ?_, fun j hj => ?_, hM.bq, fun j hj => ?_, fun j j' hjj hj' => ?_⟩⟩
  · refine Below.setCell ?_ (show w.heap.size ≤ qb from hM.bq) _
    refine Below.grown ?_ hg (by simp [hls]; omega) (fun b hb => (hlt b hb).1)
    refine Below.alloc ?_ (by omega) _
    unfold laid
    exact (((((((hM.bel.alloc hsz _).alloc (by simp; omega) _).alloc (by simp; omega) _).alloc (by simp; omega) _).alloc (by simp; omega) _).alloc (by simp; omega) _).alloc (by simp; omega) _)
  · have eh : heads pb k ++ [Value.pointer (some ⟨wr.heap.size + 6, 0, none⟩)] = heads (fun j => if j = k then wr.heap.size + 6 else pb j) (k + 1) := by
      simp only [heads, List.range_succ, List.map_append, List.map_cons, List.map_nil]
      congr 1
      · refine List.map_congr_left fun j hj => ?_
        have : j < k := List.mem_range.1 hj
        simp [head, show j ≠ k by omega]
      · simp [head]
    rw [← eh]
    refine ⟨hown.1, ?_⟩
    rcases hown.2 with h | ⟨g, cap, cur, hv, hb, hgb, hr⟩
    · exact .inl h
    · refine .inr ⟨g, cap, cur, hv, hb, (e1 g ?_).trans hgb, hr⟩
      rintro rfl
      rw [kq, hcq] at hgb
      cases hgb
  · exact hM.d.of_block ((e1 _ dm').trans (keep _ hM.d.lt fun cc e => hM.d.ne e rfl))
  · by_cases e : j = k
    · subst e
      simp only [if_true]
      have hb : w1.heap[wr.heap.size + 6]? = some (.cells c 98) := (new _ (by omega) (by omega)).trans (laid_peer wr c)
      obtain ⟨h23, h0, h1, h7, h9, h10, h11, h12, h19⟩ := hc
      refine ⟨fun i => c.getD i (.bool false), ⟨c, (e1 _ (by omega)).trans hb, h23, fun i hi => by simp [h23, hi]⟩, getD_of h0, getD_of h1, getD_of h7, getD_of h9, getD_of h10, getD_of h11, getD_of h12, getD_of h19⟩
    · simp only [e, if_false]
      exact (pm j (by omega) pb).1
  · by_cases e : j = k
    · subst e
      simp only [if_true]
      have hb : w1.heap[wr.heap.size + 4]? = some (.map #[] 0) := (new _ (by omega) (by omega)).trans (laid_map wr c)
      exact map_empty ((e1 _ (by omega)).trans hb)
    · simp only [e, if_false]
      exact (pm j (by omega) pb).2
  · by_cases e : j = k
    · subst e; simp; omega
    · simp only [e, if_false]; exact hM.bp j (by omega)
  · have e1 : j ≠ k := by omega
    by_cases e : j' = k
    · subst e; simp only [e1, if_true, if_false]; have := (hM.p j (by omega)).lt; omega
    · simp only [e, e1, if_false]; exact hM.inc j j' hjj (by omega)

theorem mk_reads {w wr : World} {k qb dm : Nat} {v : Value} {pb : Nat → Nat} (hM : Mk w wr k qb dm v pb) :
    (∀ c, ((((((((wr.alloc (.map #[] 0)).alloc (.map #[] 0)).alloc (.map #[] 0)).alloc (.map #[] 0)).alloc (.map #[] 0)).alloc (.map #[] 0)).alloc (.cells c 98))).cell? ⟨qb, 0, none⟩ = some v) ∧
    (∀ c, ((((((((wr.alloc (.map #[] 0)).alloc (.map #[] 0)).alloc (.map #[] 0)).alloc (.map #[] 0)).alloc (.map #[] 0)).alloc (.map #[] 0)).alloc (.cells c 98))).cell? ⟨qb, 2, none⟩ = some (.map (some dm))) ∧
    (∀ c, (Instr.lookup 89 (.map (some dm)) (.string (nm k)) false).run Yba.prog ((((((((wr.alloc (.map #[] 0)).alloc (.map #[] 0)).alloc (.map #[] 0)).alloc (.map #[] 0)).alloc (.map #[] 0)).alloc (.map #[] 0)).alloc (.cells c 98))) =
      .ok (.int .u64 0) ((((((((wr.alloc (.map #[] 0)).alloc (.map #[] 0)).alloc (.map #[] 0)).alloc (.map #[] 0)).alloc (.map #[] 0)).alloc (.map #[] 0)).alloc (.cells c 98)))) := by
  obtain ⟨fq, hfr, hf0, hf2⟩ := hM.q
  have lq := hfr.lt
  refine ⟨fun c => ?_, fun c => ?_, fun c => ?_⟩
  · exact (World.cell?_of_block (w := wr) (w' := laid wr c) (a := ⟨qb, 0, none⟩) (laid_old wr c lq)).trans (by rw [hfr.cell (by omega), hf0])
  · exact (World.cell?_of_block (w := wr) (w' := laid wr c) (a := ⟨qb, 2, none⟩) (laid_old wr c lq)).trans (by rw [hfr.cell (by omega), hf2])
  · exact look_empty (w := laid wr c) (hM.d.of_block (laid_old wr c hM.d.lt)) (nm k) (by show 3 ≤ maxLen; unfold maxLen; omega)

def qc (H : Nat) : Array Value := #[.slice none 0 0, .map (some (H + 1)), .map (some (H + 1 + 1)), .string ⟨#[]⟩, .int .u64 0, .int .u64 0, .int .i64 0, .string ⟨#[]⟩, .string ⟨#[]⟩, .int .u64 0, .int .u64 0, .int .u64 0]

theorem cell_last (w : World) (c : Array Value) (t b i : Nat) (hb : b = w.heap.size) : (w.alloc (.cells c t)).cell? ⟨b, i, none⟩ = c[i]? := by
  have h := blk_at w (.cells c t) hb
  simp only [World.cell?]
  rw [h]
  simp

theorem next_start (w : World) (c0 c1 : Array Value) (ty : TypeId) : (Instr.next (.pointer (some ⟨w.heap.size + 1 + 1 + 1 + 1, 0, none⟩)) false ty).run Yba.prog (((((w.alloc (.cells c0 91)).alloc (.map #[] 0)).alloc (.map #[] 0)).alloc (.cells c1 93)).alloc (.mapIter none 0 #[] 0)) =
    .ok (.tuple #[.bool false]) (((((w.alloc (.cells c0 91)).alloc (.map #[] 0)).alloc (.map #[] 0)).alloc (.cells c1 93)).alloc (.mapIter none 0 #[] 0)) := by
  have h := run_next_nilMap (P := Yba.prog) ((((w.alloc (.cells c0 91)).alloc (.map #[] 0)).alloc (.map #[] 0)).alloc (.cells c1 93)) ty 0 0 #[]
  simpa using h

theorem mk_start (w : World) (c0 : Array Value) : Mk w (((((w.alloc (.cells c0 91)).alloc (.map #[] 0)).alloc (.map #[] 0)).alloc (.cells (qc w.heap.size) 93)).alloc (.mapIter none 0 #[] 0)) 0 (w.heap.size + 1 + 1 + 1) (w.heap.size + 1 + 1) (.slice none 0 0) (fun _ => 0) := by
  refine ⟨?_, by simpa [heads] using World.ownsRow_nil _ w.heap.size 86 1, ?_, ?_, fun j hj => absurd hj (by omega), fun j hj => absurd hj (by omega), by omega, fun j hj => absurd hj (by omega), fun j j' _ hj => absurd hj (by omega)⟩
  · exact (((((Below.refl _ _).alloc (Nat.le_refl _) _).alloc (by simp) _).alloc (by simp; omega) _).alloc (by simp; omega) _).alloc (by simp; omega) _
  · refine ⟨fun i => (qc w.heap.size).getD i (.bool false), ⟨qc w.heap.size, ?_, rfl, fun i hi => by simp [qc, hi]⟩, rfl, rfl⟩
    rw [Below.heap_alloc _ _ _ (by simp)]
    exact blk_at _ _ (by simp)
  · refine map_empty ?_
    rw [Below.heap_alloc _ _ _ (by simp), Below.heap_alloc _ _ _ (by simp)]
    exact blk_at _ _ (by simp)

theorem mk_end {w wr : World} {n qb dm : Nat} {v : Value} {pb : Nat → Nat} (hM : Mk w wr n qb dm v pb) (h0 : 0 < n) : ∃ gb gc, Qu wr w.heap.size qb gb n gc pb p0 (fun _ => 0) (fun _ => .map []) := by
  obtain ⟨fq, hfr, hf0, hf2⟩ := hM.q
  have hown := hM.own
  rcases hown.2 with ⟨_, h⟩ | ⟨g, cap, cur, rfl, hbg, hg, _⟩
  · omega
  · obtain ⟨cq, hcq, _⟩ := id hfr
    refine ⟨g, cap, ⟨by rw [hfr.cell (by omega), hf0], ⟨_, hcq⟩, ⟨_, hg⟩, fun j hj => ?_, hM.p, hM.f, hM.bq, hbg, hM.bp, hM.inc⟩⟩
    rw [hown.cellAt j (by omega)]
    simp [heads, hj, head]

set_option maxRecDepth 100000 in
set_option maxHeartbeats 1000000 in
theorem new_any (w : World) (nb n nc : Nat) (hn : n ≤ 300) (h0 : 0 < n) (hnb : ∀ j, j < n → w.cell? ⟨nb, j, none⟩ = some (.string (nm j))) :
    Calls Yba.prog 14 #[.slice (some ⟨nb, 0, none⟩) n nc, .map none, .agg #[.string ⟨#[]⟩, .int .u64 0, .int .u64 0, .int .i64 0, .string ⟨#[]⟩, .string ⟨#[]⟩], .int .u64 0] w fun e w' =>
      ∃ qb gb gc pb, e = .returned (.pointer (some ⟨qb, 0, none⟩)) ∧ Qu w' w.heap.size qb gb n gc pb p0 (fun _ => 0) (fun _ => .map []) ∧ Below w.heap.size w w' := by
  obtain ⟨i0, hi, hz0, hz1, hz2⟩ := info_parts info86
  have hmm := fun t w => run_makeMap (P := Yba.prog) t w
  have hrg : ∀ wx : World, (Instr.range 89 (.map none)).run Yba.prog wx = _ := fun wx => run_range_nilMap wx 89 9 22 Yba.underlying89
  go_enter Yba.func14, Yba.ntmps14
  go_wp2_with fail
  go_loopg [10, 11] 0 (fun g s10 s11 wr => g = 0 ∧ Hid (Mk w wr 0 (w.heap.size + 1 + 1 + 1) (w.heap.size + 1 + 1) (.slice none 0 0) (fun _ => 0)) ∧ ∀ ty, (Instr.next (.pointer (some ⟨w.heap.size + 1 + 1 + 1 + 1, 0, none⟩)) false ty).run Yba.prog wr = .ok (.tuple #[.bool false]) wr)
  case atStart =>
    refine ⟨rfl, ?_, fun ty => ?_⟩
    · exact mk_start w _
    · exact next_start w _ _ ty
  case round =>
    obtain ⟨rfl, hM0, hnx⟩ := hrel
    clear hrg
    go_wp2_with fail
    clear hnx
    go_loopg [36] n (fun g s36 wr => ∃ (k : Nat) (v : Value) (pb : Nat → Nat), k ≤ n ∧ g = n - k ∧ s36 = .int .i64 (k : Nat) ∧ Mk w wr k (w.heap.size + 1 + 1 + 1) (w.heap.size + 1 + 1) v pb)
    case atStart => exact ⟨0, _, _, Nat.zero_le _, rfl, rfl, hM0.out⟩
    case round =>
      obtain ⟨k, v, pb, hk, rfl, rfl, hM⟩ := hrel
      clear hM0
      by_cases hlt : k < n
      · have hd : decide ((k : Int) < (n : Int)) = true := decide_eq_true (by omega)
        have hlo : nb < w.heap.size := World.block_lt_of_cell? _ _ (hnb k hlt)
        have c1 : wr.cell? ⟨nb, k, none⟩ = some (.string (nm k)) := (hM.bel.cell (p := ⟨nb, k, none⟩) hlo).trans (hnb k hlt)
        have hsz := hM.bel.size
        obtain ⟨l0, l2, hlk⟩ := mk_reads hM
        clear hnb
        go_wp2_with (at_builtin; refine wpList_append_own _ rfl _ _ 87 rfl w.heap.size 86 i0 (.pointer none) 1 8 Yba.underlying87 hi hz0 hz1 hz2 rfl (by decide) _ _ _ rfl ((((((((hM.own.alloc _).alloc _).alloc _).alloc _).alloc _).alloc _).alloc _).alloc _) ⟨wr.heap.size + 1 + 1 + 1 + 1 + 1 + 1 + 1, 0, none⟩ 1 1 [.pointer (some ⟨wr.heap.size + 1 + 1 + 1 + 1 + 1 + 1, 0, none⟩)] rfl rfl ?c1 ?c2 ?c3 ?c4 ?c5 ?_)
        case c1 =>
          intro j u hj
          match j, hj with
          | 0, hj => simp at hj; subst hj; exact cell_last _ _ _ _ 0 (by simp)
        case c2 => intro u hu; simp at hu; subst hu; rfl
        case c3 => unfold maxLen; omega
        case c4 => omega
        case c5 => simp; omega
        intro v' w1 hown' hgrow _
        have hshape := hown'.2
        obtain ⟨gb, gcap, rfl⟩ : ∃ gb gcap, v' = .slice (some ⟨gb, 0, none⟩) (k + 1) gcap := by
          rcases hshape with ⟨_, h⟩ | ⟨g, cap, cur, rfl, _⟩
          · omega
          · exact ⟨g, cap, rfl⟩
        obtain ⟨x0, x1, hM'⟩ := mk_next hM (by exact ⟨rfl, rfl, rfl, rfl, rfl, rfl, rfl, rfl, rfl⟩) hown' hgrow
        have HM' := (show Hid _ from hM')
        clear hM' hown' hgrow hshape hM l0 l2 hlk c1
        go_wp2
        go_roundg (n - (k + 1))
        case measure => go_light; omega
        case rel => go_light; exact ⟨k + 1, _, _, by omega, rfl, by go_num, HM'.out⟩
      · have hd : decide ((k : Int) < (n : Int)) = false := decide_eq_false (by omega)
        obtain rfl : k = n := by omega
        obtain ⟨gb, gc, hQ⟩ := mk_end hM h0
        go_wp2
        go_ret
        exact ⟨_, gb, gc, pb, rfl, hQ, hM.bel⟩

end Go.Proofs.Ybulkcaik.Qu
