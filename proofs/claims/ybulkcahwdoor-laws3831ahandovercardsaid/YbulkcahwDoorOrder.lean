/-
  A REGION THAT DRAWS ITS ORDER AND WHOSE LAST OPERATION, number f, WAITS FOR ALL OTHERS AND WRITES A CELL THAT ONE OF THEM READS ('x.f = append(x.f, y)'): what holds of the world ('S') is asked till f has come up, and no longer. By the library's laws on orders (Derived/OrdersHeld.lean).
-/
import Derived.OrdersHeld
import Derived.StillTail
namespace Go.Proofs.YbulkcahwDoor.Ho

section
variable {P : Program} {ops : Array Oper} {Q : Exit → Act → World → Prop} {md : Region.Mode} {S : World → Prop} {f : Nat}

def AnyE (P : Program) (md : Region.Mode) (ops : Array Oper) (Q : Exit → Act → World → Prop) (S : World → Prop) (f : Nat) : Nat → Array Bool → Act → World → Prop
  | 0, listed, a, w => Region.ready md ops listed = [] ∧ Q .normal a w
  | fuel + 1, listed, a, w => (Region.ready md ops listed = [] → Q .normal a w) ∧
    ∀ i ∈ Region.ready md ops listed, wpOp P ops Q i (fun a' w' => ((listed.setIfInBounds i true).getD f false = true ∨ S w') ∧ AnyE P md ops Q S f fuel (listed.setIfInBounds i true) a' w') a w

theorem any_of_E : ∀ (fuel : Nat) (listed : Array Bool) (a : Act) (w : World), AnyE P md ops Q S f fuel listed a w → wpAny P md ops Q fuel listed a w
  | 0, _, _, _, h => h
  | fuel + 1, _, _, _, h => ⟨h.1, fun i hi => wpOp_mono (fun a' w' h' => any_of_E fuel _ a' w' h'.2) (h.2 i hi)⟩

theorem anyE_first {i : Nat} {oi : Oper} {v : Value} (hi : ops[i]? = some oi) (hsel : ∀ (j : Nat) (o : Oper) cs b, ops[j]? = some o → o.op ≠ .select cs b)
    (hQ : ∀ c a w, Q (.panic c) (a.put oi.dst v) w → Q (.panic c) a w) (hfi : f ≠ i) (hw : Region.waitsFor md ops f i = true) :
    ∀ (fuel : Nat) (listed : Array Bool) (a : Act) (w : World),
      (∀ j oj, ops[j]? = some oj → j ≠ i → listed.getD j true = false → (∀ e ∈ oj.after, Region.binds md e = true → e.on ≠ i) → oi.apart ops oj = true) →
      i ∈ Region.ready md ops listed → listed.getD f false = false → YieldsIf P ops S oi v a → S w →
      AnyE P md ops Q S f fuel (listed.setIfInBounds i true) (a.put oi.dst v) w → AnyE P md ops Q S f (fuel + 1) listed a w := by
  intro fuel
  induction fuel with
  | zero =>
    intro listed a w _ hr _ hy hS H
    refine ⟨fun h => (by rw [h] at hr; cases hr), fun j hj => ?_⟩
    by_cases e : j = i
    · subst e
      exact hy.wpOp hi hS ⟨.inr hS, H⟩
    · have hm := ready_mono hj e
      rw [H.1] at hm
      cases hm
  | succ fuel ih =>
    intro listed a w hfree hr hlf hy hS H
    refine ⟨fun h => (by rw [h] at hr; cases hr), fun j hj => ?_⟩
    by_cases e : j = i
    · subst e
      exact hy.wpOp hi hS ⟨.inr hS, H⟩
    · have h1 := H.2 j (ready_mono hj e)
      obtain ⟨hjun, oj, hoj, hall⟩ := mem_ready.1 hj
      have hnot : ∀ x ∈ oj.after, Region.binds md x = true → x.on ≠ i := by
        intro x hx hb heq
        have a1 := hall x hx hb
        have a0 := (mem_ready.1 hr).1
        rw [heq] at a1
        rcases Nat.lt_or_ge i listed.size with h' | h'
        · simp [h'] at a0 a1
          rw [a0] at a1
          cases a1
        · simp [Array.getElem?_eq_none h'] at a1
      have hjf : j ≠ f := by
        intro ejf
        obtain ⟨of, hof, x, hx, hb, hon⟩ := Region.waitsFor_spec hw
        rw [ejf] at hoj
        rw [hof] at hoj
        cases hoj
        exact hnot x hx hb hon
      have h2 := wpOp_putIf hoj (hfree j oj hoj e hjun hnot) (fun cs b => hsel i oi cs b hi) (fun cs b => hsel j oj cs b hoj) hQ hy h1
      have hlf' : (listed.setIfInBounds j true).getD f false = false := by rw [getD_set_ne false hjf]; exact hlf
      have hfree' : ∀ k ok, ops[k]? = some ok → k ≠ i → (listed.setIfInBounds j true).getD k true = false → (∀ x ∈ ok.after, Region.binds md x = true → x.on ≠ i) → oi.apart ops ok = true := by
        intro k ok hk hki hun hno
        refine hfree k ok hk hki ?_ hno
        by_cases hjk : j = k
        · subst hjk; exact hjun
        · rw [getD_set_ne true hjk] at hun
          exact hun
      refine wpOp_mono (fun a' w' h3 => ?_) h2
      have hS' : S w' := by
        rcases h3.2.1 with hc | hc
        · rw [getD_set_ne false hjf, getD_set_ne false (Ne.symm hfi), hlf] at hc
          cases hc
        · exact hc
      refine ⟨.inr hS', ih _ a' w' hfree' (ready_mono hr (Ne.symm e)) hlf' h3.1 hS' ?_⟩
      rw [Array.setIfInBounds_comm _ _ e]
      exact h3.2.2

/-- Take number i first. -/
theorem anyE_take {i : Nat} {oi : Oper} {v : Value} {fuel : Nat} {listed : Array Bool} {a : Act} {w : World} (hi : ops[i]? = some oi)
    (hB : (Region.noSelect ops && Region.free md ops listed i && (Region.ready md ops listed).contains i && Region.waitsFor md ops f i && (f != i) && !(listed.getD f false)) = true)
    (hQ : ∀ c a w, Q (.panic c) (a.put oi.dst v) w → Q (.panic c) a w) (hw : Region.wanted oi (yielded ops a.tmps) = true) (hy : ∀ w', S w' → (execOp a.eval oi).run P w' = .ok (.value v) w') (hS : S w)
    (h : AnyE P md ops Q S f fuel (listed.setIfInBounds i true) (a.put oi.dst v) w) : AnyE P md ops Q S f (fuel + 1) listed a w := by
  simp only [Bool.and_eq_true, bne_iff_ne, Bool.not_eq_true'] at hB
  obtain ⟨⟨⟨⟨⟨b1, b2⟩, b3⟩, b4⟩, b5⟩, b6⟩ := hB
  exact anyE_first hi (Region.noSelect_spec b1) hQ b5 b4 fuel listed a w (Region.free_spec hi b2) (by simpa using b3) b6 (.inl ⟨hw, hy⟩) hS h

/-- Only number i may come up now: it is run. -/
theorem anyE_only {i : Nat} {oi : Oper} {fuel : Nat} {listed : Array Bool} {a : Act} {w : World} (hi : ops[i]? = some oi) (hr : Region.ready md ops listed = [i]) (hg : oi.guard = none)
    (h : ∀ K : Act → World → Prop, (∀ a' w', ((listed.setIfInBounds i true).getD f false = true ∨ S w') → AnyE P md ops Q S f fuel (listed.setIfInBounds i true) a' w' → K a' w') → oi.wp P a w K Q) : AnyE P md ops Q S f (fuel + 1) listed a w := by
  refine ⟨fun h0 => (by rw [hr] at h0; cases h0), fun j hj => ?_⟩
  rw [hr] at hj
  simp at hj
  subst hj
  unfold wpOp
  rw [hi]
  simp only [Region.wanted, hg, if_true]
  exact .inl (h _ fun a' w' h1 h2 => ⟨h1, h2⟩)

theorem anyE_done {fuel : Nat} {listed : Array Bool} {a : Act} {w : World} (hr : Region.ready md ops listed = []) (h : Q .normal a w) : AnyE P md ops Q S f fuel listed a w := by
  cases fuel with
  | zero => exact ⟨hr, h⟩
  | succ n => exact ⟨fun _ => h, by rw [hr]; simp⟩

theorem region_E {id : Nat} {a : Act} {w : World} (hm : P.follows .mixedOrders = true) (h : AnyE P .any ops Q S f ops.size (Array.replicate ops.size false) a w.drew) : (Code.region id ops true).wp P Q a w :=
  wp_region_any hm (any_of_E _ _ _ _ h)
end
end Go.Proofs.YbulkcahwDoor.Ho
