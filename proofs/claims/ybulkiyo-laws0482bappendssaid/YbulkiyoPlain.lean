/-
  The plain functions that LawS0482BAppends computes; the clusters that she makes.
-/
import Derived.Test.YbulkiyoAfter
import Derived.Test.YbulkiyoTab
import Derived.Test.YbulkiyoHeld
namespace Go.Proofs.Ybulkiyo
open Go.RowKit
set_option linter.unusedVariables false

/-- Is node l of cluster k done? (Node 0 never is.) -/
def dn (A D : Nat → Bool) (k : Nat) (l : Int) : Bool := if l = 1 then A k else if l = 2 then D k else false
/-- The node behind node l. -/
def nx (A D : Nat → Bool) (k : Nat) (l : Int) : Int := if dn A D k l then l else 0
def lastOf (xs : List Int) : Int := xs.getLast?.getD 0
/-- Cluster k's path goes on. -/
def adv1 (A D : Nat → Bool) (R : Nat → List Int) (k : Nat) : Nat → List Int := fun o => if o = k then R k ++ [nx A D k (lastOf (R k))] else R o
def adv (L A D : Nat → Bool) (R : Nat → List Int) (x : Nat × Int) : Nat → List Int := if L x.1 then adv1 A D R x.1 else R
def advs (L A D : Nat → Bool) (R : Nat → List Int) (l : List (Nat × Int)) : Nat → List Int := l.foldl (adv L A D) R

/-- The four clusters that the law makes, as far as they are read: cluster k's struct lies in block N + 4 + 4 * k, its three nodes in the block ahead of it. -/
structure Cls (N : Nat) (L A D : Nat → Bool) (w : World) : Prop where
  c0 : ∀ k, k < 4 → w.cell? ⟨N + 4 + 4 * k, 0, none⟩ = some (.slice none 0 0)
  c4 : ∀ k, k < 4 → w.cell? ⟨N + 4 + 4 * k, 4, none⟩ = some (.slice (some ⟨N + 3 + 4 * k, 0, none⟩) 3 3)
  c5 : ∀ k, k < 4 → w.cell? ⟨N + 4 + 4 * k, 5, none⟩ = some (.bool (L k))
  n0 : ∀ k, k < 4 → ∀ l : Int, 0 ≤ l → l ≤ 2 → w.cell? ⟨N + 3 + 4 * k, l.toNat * 4, none⟩ = some (.slice none 0 0)
  n2 : ∀ k, k < 4 → ∀ l : Int, 0 ≤ l → l ≤ 2 → w.cell? ⟨N + 3 + 4 * k, l.toNat * 4 + 2, none⟩ = some (.bool (dn A D k l))

theorem Cls.out {N B T : Nat} {L A D : Nat → Bool} {w w' : World} (h : Cls N L A D w) (ho : Out B T w w') (hB : N + 19 ≤ B) (hT : T < N + 3 ∨ N + 19 ≤ T) : Cls N L A D w' :=
  ⟨fun k hk => by rw [ho.cell _ (by omega) (by omega)]; exact h.c0 k hk, fun k hk => by rw [ho.cell _ (by omega) (by omega)]; exact h.c4 k hk,
    fun k hk => by rw [ho.cell _ (by omega) (by omega)]; exact h.c5 k hk, fun k hk l h0 h1 => by rw [ho.cell _ (by omega) (by omega)]; exact h.n0 k hk l h0 h1,
    fun k hk l h0 h1 => by rw [ho.cell _ (by omega) (by omega)]; exact h.n2 k hk l h0 h1⟩

/-- Each list has an element, and all lie in 0 .. 2. -/
def Good (R : Nat → List Int) : Prop := ∀ o, o < 4 → R o ≠ [] ∧ ∀ x ∈ R o, 0 ≤ x ∧ x ≤ 2

theorem lastOf_mem {xs : List Int} (h : xs ≠ []) : lastOf xs ∈ xs := by
  unfold lastOf
  rw [List.getLast?_eq_some_getLast h]
  exact List.getLast_mem h

theorem Good.last {R : Nat → List Int} (h : Good R) {k : Nat} (hk : k < 4) : 0 ≤ lastOf (R k) ∧ lastOf (R k) ≤ 2 := (h k hk).2 _ (lastOf_mem (h k hk).1)

theorem Good.adv1 {A D : Nat → Bool} {R : Nat → List Int} (h : Good R) {k : Nat} (hk : k < 4) : Good (Go.Proofs.Ybulkiyo.adv1 A D R k) := by
  intro o ho
  unfold Go.Proofs.Ybulkiyo.adv1
  by_cases e : o = k
  · subst e
    simp only [if_pos]
    refine ⟨by simp, fun x hx => ?_⟩
    rcases List.mem_append.1 hx with hx | hx
    · exact (h o ho).2 x hx
    · simp at hx
      subst hx
      have := h.last ho
      unfold nx
      split <;> omega
  · simp only [if_neg e]
    exact h o ho

theorem Good.adv {L A D : Nat → Bool} {R : Nat → List Int} (h : Good R) {x : Nat × Int} (hk : x.1 < 4) : Good (Go.Proofs.Ybulkiyo.adv L A D R x) := by
  unfold Go.Proofs.Ybulkiyo.adv
  split
  · exact h.adv1 hk
  · exact h

theorem Good.advs {L A D : Nat → Bool} : ∀ {l : List (Nat × Int)} {R : Nat → List Int} (h : Good R) (hk : ∀ x ∈ l, x.1 < 4), Good (Go.Proofs.Ybulkiyo.advs L A D R l)
  | [], R, h, _ => h
  | x :: l, R, h, hk => Good.advs (l := l) (h.adv (hk x (by simp))) (fun y hy => hk y (by simp [hy]))

theorem advs_snoc (L A D : Nat → Bool) (R : Nat → List Int) (l : List (Nat × Int)) (x : Nat × Int) : advs L A D R (l ++ [x]) = adv L A D (advs L A D R l) x := by
  simp [advs]

theorem adv_len (L A D : Nat → Bool) (R : Nat → List Int) (x : Nat × Int) (o : Nat) : (adv L A D R x o).length ≤ (R o).length + 1 := by
  unfold adv adv1
  split
  · by_cases e : o = x.1
    · subst e; simp
    · simp [e]
  · omega

/-- The lists grow by one a step at the most. -/
theorem advs_len (L A D : Nat → Bool) (o : Nat) : ∀ (l : List (Nat × Int)) (R : Nat → List Int), (advs L A D R l o).length ≤ (R o).length + l.length
  | [], R => by simp [advs]
  | x :: l, R => by
    have h1 := advs_len L A D o l (adv L A D R x)
    have h2 := adv_len L A D R x o
    have h3 : advs L A D R (x :: l) = advs L A D (adv L A D R x) l := rfl
    rw [h3]
    simp only [List.length_cons]
    omega

end Go.Proofs.Ybulkiyo
