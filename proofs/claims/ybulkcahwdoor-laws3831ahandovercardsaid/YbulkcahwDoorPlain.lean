/-
  THE PLAIN LAW of handOver: what the search's state becomes. No Go in sight.
-/
namespace Go.Proofs.YbulkcahwDoor.Ho

/-- The table of lock compatibility: held h, asked a. -/
def cmp (h a : Nat) : Bool :=
  (h == 1 && decide (1 ≤ a) && decide (a ≤ 4)) || (h == 2 && (a == 1 || a == 2)) || (h == 3 && (a == 1 || a == 3)) || (h == 4 && a == 1)

structure St where
  seen : Nat → Bool
  back : Bool
  stk : List Nat
  skip : Option Nat
  skAt : Int

/-- u is met for the first time. -/
def markS (s : St) (u : Nat) : St := { s with seen := fun i => if i = u then true else s.seen i, stk := s.stk ++ [u] }

def reach (tt : Bool) (u : Nat) (s : St) : Bool × St :=
  if u = 0 then (tt, { s with back := tt })
  else if s.seen u = true then (false, s)
  else (false, markS s u)

def confl (tt : Bool) (qi u : Nat) (at' : Int) (s : St) : Bool × St :=
  if u = qi then (false, if s.skip = some qi then s else { s with skip := some qi, skAt := at' }) else reach tt u s

/-- The holders' loop. -/
def holds (tt : Bool) (qi mode : Nat) : List (Nat × Nat) → St → Bool × St
  | [], s => (false, s)
  | (u, m) :: es, s => if cmp m mode = true then holds tt qi mode es s else
      if (confl tt qi u (-1) s).1 = true then (true, (confl tt qi u (-1) s).2) else holds tt qi mode es (confl tt qi u (-1) s).2

/-- The queue's loop, from place k on. -/
def queue (tt : Bool) (qi mode : Nat) : List (Nat × Nat) → Nat → St → Bool × Nat × St
  | [], k, s => (false, k, s)
  | (u, m) :: es, k, s => if cmp m mode = true then queue tt qi mode es (k + 1) s else
      if (confl tt qi u k s).1 = true then (true, k, (confl tt qi u k s).2) else queue tt qi mode es (k + 1) (confl tt qi u k s).2

/-- The skipped transaction, handed over now. -/
def redo (tt : Bool) (qi at' : Nat) (s : St) : Bool × St :=
  match s.skip with
  | some u => if u ≠ qi ∧ s.skAt < (at' : Int) then reach tt u { s with skip := none } else (false, s)
  | none => (false, s)

/-- handOver, the walk for q's mode begun afresh. -/
def handF (tt : Bool) (qi mode : Nat) (hl ql : List (Nat × Nat)) (at' : Nat) (s : St) : Bool × Nat × St :=
  if (holds tt qi mode hl s).1 = true then (true, 0, (holds tt qi mode hl s).2) else queue tt qi mode (ql.take at') 0 (holds tt qi mode hl s).2

/-- handOver, the walk gone on with. -/
def handN (tt : Bool) (qi mode : Nat) (ql : List (Nat × Nat)) (at' up : Nat) (s : St) : Bool × Nat × St :=
  if (redo tt qi at' s).1 = true then (true, up, (redo tt qi at' s).2) else queue tt qi mode ((ql.take at').drop up) up (redo tt qi at' s).2

def ents (n : Nat) (f : Nat → Nat × Nat) : List (Nat × Nat) := (List.range n).map f

theorem ents_drop (n : Nat) (f : Nat → Nat × Nat) (i : Nat) (h : i < n) : (ents n f).drop i = f i :: (ents n f).drop (i + 1) := by
  have hl : i < (ents n f).length := by simpa [ents] using h
  rw [List.drop_eq_getElem_cons hl]
  simp [ents]

theorem ents_end (n : Nat) (f : Nat → Nat × Nat) (i : Nat) (h : n ≤ i) : (ents n f).drop i = [] := List.drop_eq_nil_of_le (by simpa [ents] using h)

theorem ents_take (n : Nat) (f : Nat → Nat × Nat) (k : Nat) (h : k ≤ n) : (ents n f).take k = ents k f := by
  simp only [ents, ← List.map_take, List.take_range, Nat.min_eq_left h]

/-- One round of the holders' loop. -/
theorem holds_yes {tt : Bool} {qi mode u m : Nat} {es : List (Nat × Nat)} {s : St} (h : cmp m mode = true) : holds tt qi mode ((u, m) :: es) s = holds tt qi mode es s := by simp [holds, h]
theorem holds_hit {tt : Bool} {qi mode u m : Nat} {es : List (Nat × Nat)} {s : St} (h : cmp m mode = false) (hc : (confl tt qi u (-1) s).1 = true) : holds tt qi mode ((u, m) :: es) s = (true, (confl tt qi u (-1) s).2) := by simp [holds, h, hc]
theorem holds_on {tt : Bool} {qi mode u m : Nat} {es : List (Nat × Nat)} {s : St} (h : cmp m mode = false) (hc : (confl tt qi u (-1) s).1 = false) : holds tt qi mode ((u, m) :: es) s = holds tt qi mode es (confl tt qi u (-1) s).2 := by simp [holds, h, hc]
theorem queue_yes {tt : Bool} {qi mode u m k : Nat} {es : List (Nat × Nat)} {s : St} (h : cmp m mode = true) : queue tt qi mode ((u, m) :: es) k s = queue tt qi mode es (k + 1) s := by simp [queue, h]
theorem queue_hit {tt : Bool} {qi mode u m k : Nat} {es : List (Nat × Nat)} {s : St} (h : cmp m mode = false) (hc : (confl tt qi u k s).1 = true) : queue tt qi mode ((u, m) :: es) k s = (true, k, (confl tt qi u k s).2) := by simp [queue, h, hc]
theorem queue_on {tt : Bool} {qi mode u m k : Nat} {es : List (Nat × Nat)} {s : St} (h : cmp m mode = false) (hc : (confl tt qi u k s).1 = false) : queue tt qi mode ((u, m) :: es) k s = queue tt qi mode es (k + 1) (confl tt qi u k s).2 := by simp [queue, h, hc]

theorem handF_hit {tt : Bool} {qi mode : Nat} {hl ql : List (Nat × Nat)} {at' : Nat} {s t : St} (h : holds tt qi mode hl s = (true, t)) : handF tt qi mode hl ql at' s = (true, 0, t) := by simp [handF, h]
theorem handF_on {tt : Bool} {qi mode : Nat} {hl ql : List (Nat × Nat)} {at' : Nat} {s t : St} (h : holds tt qi mode hl s = (false, t)) : handF tt qi mode hl ql at' s = queue tt qi mode (ql.take at') 0 t := by simp [handF, h]

theorem handN_stay {tt : Bool} {qi mode : Nat} {ql : List (Nat × Nat)} {at' up : Nat} {s : St} (h : ∀ u, s.skip = some u → u ≠ qi → (at' : Int) ≤ s.skAt) : handN tt qi mode ql at' up s = queue tt qi mode ((ql.take at').drop up) up s := by
  have hr : redo tt qi at' s = (false, s) := by
    unfold redo
    split
    · rename_i u hu
      rw [if_neg (fun hc => by have := h u hu hc.1; omega)]
    · rfl
  simp [handN, hr]
theorem handN_redo {tt : Bool} {qi mode : Nat} {ql : List (Nat × Nat)} {at' up u : Nat} {s : St} (hu : s.skip = some u) (hne : u ≠ qi) (hlt : s.skAt < (at' : Int)) :
    handN tt qi mode ql at' up s = if (reach tt u { s with skip := none }).1 = true then (true, up, (reach tt u { s with skip := none }).2) else queue tt qi mode ((ql.take at').drop up) up (reach tt u { s with skip := none }).2 := by
  have hr : redo tt qi at' s = reach tt u { s with skip := none } := by
    unfold redo
    rw [hu]
    simp [hne, hlt]
  rw [handN, hr]

theorem reach_len (tt : Bool) (u : Nat) (s : St) : (reach tt u s).2.stk.length ≤ s.stk.length + 1 := by
  unfold reach
  split
  · simp
  · split
    · simp
    · simp [markS]

theorem confl_len (tt : Bool) (qi u : Nat) (a : Int) (s : St) : (confl tt qi u a s).2.stk.length ≤ s.stk.length + 1 := by
  unfold confl
  split
  · split <;> simp
  · exact reach_len _ _ _

/-- Every number on the stack, and the skipped one, is one of the four. -/
def Small (s : St) : Prop := (∀ u ∈ s.stk, u < 4) ∧ ∀ u, s.skip = some u → u < 4

theorem reach_small {tt : Bool} {u : Nat} {s : St} (h : Small s) (hu : u < 4) : Small (reach tt u s).2 := by
  unfold reach
  split
  · exact h
  · split
    · exact h
    · refine ⟨fun x hx => ?_, h.2⟩
      rcases List.mem_append.1 hx with hx | hx
      · exact h.1 x hx
      · simp at hx; omega

theorem confl_small {tt : Bool} {qi u : Nat} {a : Int} {s : St} (h : Small s) (hu : u < 4) (_hq : qi < 4) : Small (confl tt qi u a s).2 := by
  unfold confl
  split
  · split
    · exact h
    · exact ⟨h.1, fun x hx => by simp at hx; omega⟩
  · exact reach_small h hu

end Go.Proofs.YbulkcahwDoor.Ho
