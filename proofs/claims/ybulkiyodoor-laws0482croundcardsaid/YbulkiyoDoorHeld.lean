/-
  A REGION THAT DRAWS ITS ORDER, A CONDITION S HELD WHILE ANYTHING IS STILL TO COME UP: the library's 'held' law (Derived/OrdersHeld.lean) with one turn: behind ONE operation, which waits for every other, S is not asked. So S may name a cell that this last operation writes: 't[k] = append(t[k], ..)'. The proof follows the library's own, step by step. Over any program.
-/
import Derived.Deep.RegionHeld
namespace Go.Proofs.YbulkiyoDoor
open Go

section
variable {P : Program} {ops : Array Oper} {Q : Exit → Act → World → Prop} {md : Region.Mode} {S : World → Prop}

/-- Does operation z wait for operation i, by an edge of its own? -/
def waits (md : Region.Mode) (ops : Array Oper) (z i : Nat) : Bool :=
  match ops[z]? with
  | some o => o.after.any fun e => Region.binds md e && e.on == i
  | none => false
/-- Operation z waits for every other. -/
def waitsAll (md : Region.Mode) (ops : Array Oper) (z : Nat) : Bool := (List.range ops.size).all fun i => i == z || waits md ops z i

theorem waits_listed {z i : Nat} {listed : Array Bool} (hw : waits md ops z i = true) (hz : z ∈ Region.ready md ops listed) : listed.getD i false = true := by
  obtain ⟨_, oz, hoz, hall⟩ := mem_ready.1 hz
  unfold waits at hw
  rw [hoz] at hw
  obtain ⟨e, he, hb⟩ := Array.any_eq_true'.1 hw
  simp only [Bool.and_eq_true, beq_iff_eq] at hb
  have := hall e he hb.1
  rw [hb.2] at this
  exact this

/-- Whatever order is picked from here on, and S holds behind every operation but number z. -/
def anyF (P : Program) (md : Region.Mode) (ops : Array Oper) (Q : Exit → Act → World → Prop) (S : World → Prop) (z : Nat) : Nat → Array Bool → Act → World → Prop
  | 0, listed, a, w => Region.ready md ops listed = [] ∧ Q .normal a w
  | fuel + 1, listed, a, w =>
    (Region.ready md ops listed = [] → Q .normal a w) ∧
    ∀ i ∈ Region.ready md ops listed, wpOp P ops Q i (fun a' w' => (i ≠ z → S w') ∧ anyF P md ops Q S z fuel (listed.setIfInBounds i true) a' w') a w

theorem any_of_F {z : Nat} : ∀ (fuel : Nat) (listed : Array Bool) (a : Act) (w : World), anyF P md ops Q S z fuel listed a w → wpAny P md ops Q fuel listed a w
  | 0, _, _, _, h => h
  | fuel + 1, _, _, _, h => ⟨h.1, fun i hi => wpOp_mono (fun a' w' h' => any_of_F fuel _ a' w' h'.2) (h.2 i hi)⟩

theorem anyF_first {z i : Nat} {oi : Oper} {v : Value} (hi : ops[i]? = some oi) (hsel : ∀ (j : Nat) (o : Oper) cs b, ops[j]? = some o → o.op ≠ .select cs b)
    (hQ : ∀ c a w, Q (.panic c) (a.put oi.dst v) w → Q (.panic c) a w) (hz : waits md ops z i = true) :
    ∀ (fuel : Nat) (listed : Array Bool) (a : Act) (w : World),
      (∀ j oj, ops[j]? = some oj → j ≠ i → listed.getD j true = false → (∀ e ∈ oj.after, Region.binds md e = true → e.on ≠ i) → oi.apart ops oj = true) →
      i ∈ Region.ready md ops listed → YieldsIf P ops S oi v a → S w →
      anyF P md ops Q S z fuel (listed.setIfInBounds i true) (a.put oi.dst v) w → anyF P md ops Q S z (fuel + 1) listed a w := by
  intro fuel
  induction fuel with
  | zero =>
    intro listed a w _ hr hy hS H
    refine ⟨fun h => (by rw [h] at hr; cases hr), fun j hj => ?_⟩
    by_cases hji : j = i
    · subst hji; exact hy.wpOp hi hS ⟨fun _ => hS, H⟩
    · have := ready_mono hj hji
      rw [H.1] at this
      cases this
  | succ fuel ih =>
    intro listed a w hfree hr hy hS H
    have hunl : listed.getD i false = false := by
      have h0 := (mem_ready.1 hr).1
      rcases Nat.lt_or_ge i listed.size with h' | h'
      · simp [h'] at h0 ⊢; exact h0
      · simp [Array.getElem?_eq_none h']
    refine ⟨fun h => (by rw [h] at hr; cases hr), fun j hj => ?_⟩
    by_cases hji : j = i
    · subst hji; exact hy.wpOp hi hS ⟨fun _ => hS, H⟩
    · have hjz : j ≠ z := fun e1 => by
        subst e1
        have := waits_listed hz hj
        rw [hunl] at this
        cases this
      have h1 := H.2 j (ready_mono hj hji)
      obtain ⟨hjun, oj, hoj, hall⟩ := mem_ready.1 hj
      have hnot : ∀ e ∈ oj.after, Region.binds md e = true → e.on ≠ i := fun e he hb heq => by
        have h1 := hall e he hb
        rw [heq, hunl] at h1
        cases h1
      have h2 := wpOp_putIf hoj (hfree j oj hoj hji hjun hnot) (fun cs b => hsel i oi cs b hi) (fun cs b => hsel j oj cs b hoj) hQ hy h1
      have hfree' : ∀ k ok, ops[k]? = some ok → k ≠ i → (listed.setIfInBounds j true).getD k true = false →
          (∀ e ∈ ok.after, Region.binds md e = true → e.on ≠ i) → oi.apart ops ok = true := fun k ok hk hki hun hno => by
        refine hfree k ok hk hki ?_ hno
        by_cases hjk : j = k
        · subst hjk; exact hjun
        · rw [getD_set_ne true hjk] at hun; exact hun
      refine wpOp_mono (fun a' w' h3 => ?_) h2
      have hS' : S w' := h3.2.1 hjz
      refine ⟨fun _ => hS', ih (listed.setIfInBounds j true) a' w' hfree' (ready_mono hr (Ne.symm hji)) h3.1 hS' ?_⟩
      rw [Array.setIfInBounds_comm _ _ hji]
      exact h3.2.2

/-- Take number i first. -/
theorem anyF_take {z i : Nat} {oi : Oper} {v : Value} {fuel : Nat} {listed : Array Bool} {a : Act} {w : World} (hi : ops[i]? = some oi)
    (hs : Region.noSelect ops = true) (hf : Region.free md ops listed i = true) (hr : (Region.ready md ops listed).contains i = true) (hz : waits md ops z i = true)
    (hQ : ∀ c a w, Q (.panic c) (a.put oi.dst v) w → Q (.panic c) a w) (hy : YieldsIf P ops S oi v a) (hS : S w)
    (h : anyF P md ops Q S z fuel (listed.setIfInBounds i true) (a.put oi.dst v) w) : anyF P md ops Q S z (fuel + 1) listed a w :=
  anyF_first hi (Region.noSelect_spec hs) hQ hz fuel listed a w (Region.free_spec hi hf) (by simpa using hr) hy hS h

/-- One operation alone may come up, and it is not z: behind it S is shown anew. -/
theorem anyF_one {z i : Nat} {o : Oper} {fuel : Nat} {listed : Array Bool} {a : Act} {w : World} (hr : Region.ready md ops listed = [i]) (ho : ops[i]? = some o)
    (h : ∀ K' : Act → World → Prop, Shut (∀ a w, S w → (S w → anyF P md ops Q S z fuel (listed.setIfInBounds i true) a w) → K' a w) → if Region.wanted o (yielded ops a.tmps) = true then Oper.wp P o a w K' Q else K' (a.put o.dst undef) w) :
    anyF P md ops Q S z (fuel + 1) listed a w := by
  refine ⟨fun h0 => (by rw [hr] at h0; cases h0), fun j hj => ?_⟩
  rw [hr] at hj
  simp at hj
  subst hj
  exact wpOp_step ho (fun K' hK => h K' (fun a w hS hW => hK a w ⟨fun _ => hS, hW hS⟩))

/-- Operation z comes up. -/
theorem anyF_last {z : Nat} {o : Oper} {fuel : Nat} {listed : Array Bool} {a : Act} {w : World} (hr : Region.ready md ops listed = [z]) (ho : ops[z]? = some o)
    (h : ∀ K' : Act → World → Prop, Shut (∀ a w, anyF P md ops Q S z fuel (listed.setIfInBounds z true) a w → K' a w) → if Region.wanted o (yielded ops a.tmps) = true then Oper.wp P o a w K' Q else K' (a.put o.dst undef) w) :
    anyF P md ops Q S z (fuel + 1) listed a w := by
  refine ⟨fun h0 => (by rw [hr] at h0; cases h0), fun j hj => ?_⟩
  rw [hr] at hj
  simp at hj
  subst hj
  exact wpOp_step ho (fun K' hK => h K' (fun a w hW => hK a w ⟨fun e1 => absurd rfl e1, hW⟩))

theorem anyF_done {z : Nat} {listed : Array Bool} {a : Act} {w : World} (hr : Region.ready md ops listed = []) (h : Q .normal a w) :
    ∀ fuel, anyF P md ops Q S z fuel listed a w
  | 0 => ⟨hr, h⟩
  | _ + 1 => ⟨fun _ => h, by rw [hr]; simp⟩

/-- The beginning. -/
theorem wp_region_F {id z : Nat} {a : Act} {w : World} (hm : P.follows .mixedOrders = true) (hS : S w.drew)
    (h : S w.drew → anyF P .any ops Q S z ops.size (Array.replicate ops.size false) a w.drew) : (Code.region id ops true).wp P Q a w :=
  wp_region_any hm (any_of_F _ _ _ _ (h hS))

end
end Go.Proofs.YbulkiyoDoor
