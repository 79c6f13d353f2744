/-
  What the first loop of LawS0482BAppends makes: four clusters, their paths, what is expected of the paths.
-/
import Derived.Test.YbulkiyoPlain
namespace Go.Proofs.Ybulkiyo
open Go.RowKit

def upd {α : Type} (f : Nat → α) (k : Nat) (x : α) : Nat → α := fun j => if j = k then x else f j
theorem upd_same {α : Type} (f : Nat → α) (k : Nat) (x : α) : upd f k x k = x := by simp [upd]
theorem upd_other {α : Type} (f : Nat → α) {k j : Nat} (x : α) (h : j ≠ k) : upd f k x j = f j := by simp [upd, h]

/-- The three nodes of a cluster. -/
abbrev nodesObj (a d : Bool) : Obj := .cells #[.slice none 0 0, .bool false, .bool false, .slice none 0 0, .slice none 0 0, .bool false, .bool a, .slice none 0 0, .slice none 0 0, .bool false, .bool d, .slice none 0 0] 46
/-- A cluster whose nodes lie in block b. -/
abbrev clusterObj (b : Nat) (l : Bool) : Obj := .cells #[.slice none 0 0, .slice none 0 0, .int .i64 0, .pointer none, .slice (some ⟨b, 0, none⟩) 3 3, .bool l, .int .i64 0] 43
abbrev oneObj (s : Int) : Obj := .cells #[.int .i32 s] 21

/-- AFTER k ROUNDS. Blocks N, N + 1, N + 2: the tables of the clusters, of the paths, of what is expected; then four blocks a round. -/
structure Set1 (N k : Nat) (L A D : Nat → Bool) (st : Nat → Int) (w0 wr : World) : Prop where
  size : wr.heap.size = N + 3 + 4 * k
  below : Below N w0 wr
  tab : ∀ t, t < 3 → ∀ j, j < 4 → (∃ v, wr.cell? ⟨N + t, j, none⟩ = some v) ∧ wr.frozen? ⟨N + t, j, none⟩ = false
  ptr : ∀ j, j < k → wr.cell? ⟨N, j, none⟩ = some (.pointer (some ⟨N + 4 + 4 * j, 0, none⟩))
  nd : ∀ j, j < k → wr.heap[N + 3 + 4 * j]? = some (nodesObj (A j) (D j))
  cl : ∀ j, j < k → wr.heap[N + 4 + 4 * j]? = some (clusterObj (N + 3 + 4 * j) (L j))
  pa : ∀ j, j < k → wr.cell? ⟨N + 1, j, none⟩ = some (.slice (some ⟨N + 5 + 4 * j, 0, none⟩) 1 1) ∧ wr.heap[N + 5 + 4 * j]? = some (oneObj (st j))
  ex : ∀ j, j < k → wr.cell? ⟨N + 1 + 1, j, none⟩ = some (.slice (some ⟨N + 6 + 4 * j, 0, none⟩) 1 1) ∧ wr.heap[N + 6 + 4 * j]? = some (oneObj (st j))
  st12 : ∀ j, j < k → st j = 1 ∨ st j = 2

theorem Set1.step {N k : Nat} {L A D : Nat → Bool} {st : Nat → Int} {w0 wr W : World} (h : Set1 N k L A D st w0 wr) (hk : k < 4) (l a d : Bool) (s : Int) (hs : s = 1 ∨ s = 2)
    (hW : ((wr.alloc (nodesObj a d)).alloc (clusterObj wr.heap.size l)).drew.drew = W) :
    Set1 N (k + 1) (upd L k l) (upd A k a) (upd D k d) (upd st k s) w0
      (((((W.setCell ⟨N, k, none⟩ (.pointer (some ⟨wr.heap.size + 1, 0, none⟩))).setCell ⟨N + 1, k, none⟩ (.slice (some ⟨W.heap.size, 0, none⟩) 1 1)).setCell ⟨N + 1 + 1, k, none⟩ (.slice (some ⟨W.heap.size + 1, 0, none⟩) 1 1)).alloc (oneObj s)).alloc (oneObj s)) := by
  have hz := h.size
  have zW : W.heap.size = wr.heap.size + 2 := by rw [← hW]; simp
  -- the stores, then the two rows
  generalize hV : ((W.setCell ⟨N, k, none⟩ (.pointer (some ⟨wr.heap.size + 1, 0, none⟩))).setCell ⟨N + 1, k, none⟩ (.slice (some ⟨W.heap.size, 0, none⟩) 1 1)).setCell ⟨N + 1 + 1, k, none⟩ (.slice (some ⟨W.heap.size + 1, 0, none⟩) 1 1) = V
  have zV : V.heap.size = wr.heap.size + 2 := by rw [← hV]; simp [World.setCell, zW]
  have hVb : ∀ b, b ≠ N → b ≠ N + 1 → b ≠ N + 1 + 1 → V.heap[b]? = W.heap[b]? := fun b h0 h1 h2 => by
    rw [← hV, Below.heap_setCell _ _ _ _ (by exact h2), Below.heap_setCell _ _ _ _ (by exact h1), Below.heap_setCell _ _ _ _ (by exact h0)]
  have hWb : ∀ b, b < wr.heap.size → W.heap[b]? = wr.heap[b]? := fun b hb => by
    rw [← hW]
    show ((wr.alloc _).alloc _).heap[b]? = _
    rw [Below.heap_alloc _ _ _ (by simp; omega), Below.heap_alloc _ _ _ hb]
  have hW0 : W.heap[wr.heap.size]? = some (nodesObj a d) := by
    rw [← hW]
    show ((wr.alloc _).alloc _).heap[wr.heap.size]? = _
    rw [Below.heap_alloc _ _ _ (by simp)]
    exact heap_alloc_new _ _
  have hW1 : W.heap[wr.heap.size + 1]? = some (clusterObj wr.heap.size l) := by
    rw [← hW]
    show ((wr.alloc _).alloc _).heap[wr.heap.size + 1]? = _
    have := heap_alloc_new (wr.alloc (nodesObj a d)) (clusterObj wr.heap.size l)
    simpa using this
  -- the final world
  have hF : ∀ b, b < wr.heap.size + 2 → ((V.alloc (oneObj s)).alloc (oneObj s)).heap[b]? = V.heap[b]? := fun b hb => by
    rw [Below.heap_alloc _ _ _ (by simp; omega), Below.heap_alloc _ _ _ (by omega)]
  have hF2 : ((V.alloc (oneObj s)).alloc (oneObj s)).heap[wr.heap.size + 2]? = some (oneObj s) := by
    rw [Below.heap_alloc _ _ _ (by simp; omega), ← zV]
    exact heap_alloc_new _ _
  have hF3 : ((V.alloc (oneObj s)).alloc (oneObj s)).heap[wr.heap.size + 3]? = some (oneObj s) := by
    have := heap_alloc_new (V.alloc (oneObj s)) (oneObj s)
    rw [show (V.alloc (oneObj s)).heap.size = wr.heap.size + 3 by simp; omega] at this
    exact this
  have hcF : ∀ b o, b < wr.heap.size + 2 → ((V.alloc (oneObj s)).alloc (oneObj s)).cell? ⟨b, o, none⟩ = V.cell? ⟨b, o, none⟩ := fun b o hb => World.cell?_of_block (w := V) (hF b hb)
  have hfF : ∀ b o, b < wr.heap.size + 2 → ((V.alloc (oneObj s)).alloc (oneObj s)).frozen? ⟨b, o, none⟩ = V.frozen? ⟨b, o, none⟩ := fun b o hb => World.frozen?_of_block (w := V) (hF b hb)
  have hcW : ∀ b o, b < wr.heap.size → W.cell? ⟨b, o, none⟩ = wr.cell? ⟨b, o, none⟩ := fun b o hb => World.cell?_of_block (w := wr) (hWb b hb)
  have hfW : ∀ b o, b < wr.heap.size → W.frozen? ⟨b, o, none⟩ = wr.frozen? ⟨b, o, none⟩ := fun b o hb => World.frozen?_of_block (w := wr) (hWb b hb)
  obtain ⟨⟨v0, c0⟩, _⟩ := h.tab 0 (by omega) k hk
  obtain ⟨⟨v1, c1⟩, _⟩ := h.tab 1 (by omega) k hk
  obtain ⟨⟨v2, c2⟩, _⟩ := h.tab 2 (by omega) k hk
  have t0 : V.cell? ⟨N, k, none⟩ = some (.pointer (some ⟨wr.heap.size + 1, 0, none⟩)) := by
    rw [← hV, World.cell?_setCell_other _ _ _ _ (by simp), World.cell?_setCell_other _ _ _ _ (by simp)]
    exact World.cell?_setCell_same (u := v0) _ _ _ (by rw [hcW _ _ (by omega)]; exact c0)
  have t1 : V.cell? ⟨N + 1, k, none⟩ = some (.slice (some ⟨W.heap.size, 0, none⟩) 1 1) := by
    rw [← hV, World.cell?_setCell_other _ _ _ _ (by simp)]
    exact World.cell?_setCell_same (u := v1) _ _ _ (by rw [World.cell?_setCell_other _ _ _ _ (by simp), hcW _ _ (by omega)]; exact c1)
  have t2 : V.cell? ⟨N + 1 + 1, k, none⟩ = some (.slice (some ⟨W.heap.size + 1, 0, none⟩) 1 1) := by
    rw [← hV]
    exact World.cell?_setCell_same (u := v2) _ _ _ (by rw [World.cell?_setCell_other _ _ _ _ (by simp), World.cell?_setCell_other _ _ _ _ (by simp), hcW _ _ (by omega)]; exact c2)
  have to : ∀ t j, t < 3 → j ≠ k → V.cell? ⟨N + t, j, none⟩ = wr.cell? ⟨N + t, j, none⟩ := fun t j ht hj => by
    rw [← hV, World.cell?_setCell_other _ _ _ _ (by simp), World.cell?_setCell_other _ _ _ _ (by simp), World.cell?_setCell_other _ _ _ _ (by simp), hcW _ _ (by omega)]
  have tf : ∀ t j, t < 3 → V.frozen? ⟨N + t, j, none⟩ = wr.frozen? ⟨N + t, j, none⟩ := fun t j ht => by
    rw [← hV, World.frozen?_setCell, World.frozen?_setCell, World.frozen?_setCell, hfW _ _ (by omega)]
  refine ⟨by simp; omega, ?_, fun t ht j hj => ?_, fun j hj => ?_, fun j hj => ?_, fun j hj => ?_, fun j hj => ?_, fun j hj => ?_, fun j hj => ?_⟩
  · refine ⟨?_, ?_, ?_, ?_, fun b hb => ?_⟩
    · show V.os = _
      rw [← hV, ← hW]; exact h.below.os
    · show V.tape = _
      rw [← hV, ← hW]; exact h.below.tape
    · show V.output = _
      rw [← hV, ← hW]; exact h.below.output
    · have := h.below.size; simp; omega
    · rw [hF b (by omega), hVb b (by omega) (by omega) (by omega), hWb b (by omega)]
      exact h.below.block b hb
  · rw [hfF _ _ (by omega), tf t j ht, hcF _ _ (by omega)]
    refine ⟨?_, (h.tab t ht j hj).2⟩
    by_cases e : j = k
    · subst e
      rcases (show t = 0 ∨ t = 1 ∨ t = 2 by omega) with rfl | rfl | rfl
      · exact ⟨_, t0⟩
      · exact ⟨_, t1⟩
      · exact ⟨_, t2⟩
    · rw [to t j ht e]; exact (h.tab t ht j hj).1
  · rw [hcF _ _ (by omega)]
    by_cases e : j = k
    · subst e; rw [t0, hz]; congr 4; omega
    · have := to 0 j (by omega) e
      rw [Nat.add_zero] at this
      rw [this]; exact h.ptr j (by omega)
  · rw [hF _ (by omega), hVb _ (by omega) (by omega) (by omega)]
    by_cases e : j = k
    · subst e; rw [← hz, hW0, upd_same, upd_same]
    · rw [hWb _ (by omega), upd_other _ _ e, upd_other _ _ e]; exact h.nd j (by omega)
  · rw [hF _ (by omega), hVb _ (by omega) (by omega) (by omega)]
    by_cases e : j = k
    · subst e; rw [show N + 4 + 4 * j = wr.heap.size + 1 by omega, hW1, upd_same, ← hz]
    · rw [hWb _ (by omega), upd_other _ _ e]; exact h.cl j (by omega)
  · rw [hcF _ _ (by omega)]
    by_cases e : j = k
    · subst e
      refine ⟨by rw [t1, zW, hz]; congr 4; omega, ?_⟩
      rw [show N + 5 + 4 * j = wr.heap.size + 2 by omega, hF2, upd_same]
    · refine ⟨by rw [to 1 j (by omega) e]; exact (h.pa j (by omega)).1, ?_⟩
      rw [hF _ (by omega), hVb _ (by omega) (by omega) (by omega), hWb _ (by omega), upd_other _ _ e]
      exact (h.pa j (by omega)).2
  · rw [hcF _ _ (by omega)]
    by_cases e : j = k
    · subst e
      refine ⟨by rw [t2, zW, hz]; congr 4; omega, ?_⟩
      rw [show N + 6 + 4 * j = wr.heap.size + 3 by omega, hF3, upd_same]
    · refine ⟨by rw [show N + 1 + 1 = N + 2 from rfl, to 2 j (by omega) e]; exact (h.ex j (by omega)).1, ?_⟩
      rw [hF _ (by omega), hVb _ (by omega) (by omega) (by omega), hWb _ (by omega), upd_other _ _ e]
      exact (h.ex j (by omega)).2
  · by_cases e : j = k
    · subst e; rw [upd_same]; exact hs
    · rw [upd_other _ _ e]; exact h.st12 j (by omega)


theorem Set1.start (w : World) :
    Set1 w.heap.size 0 (fun _ => false) (fun _ => false) (fun _ => false) (fun _ => 1) w (((w.alloc (.cells #[.pointer none, .pointer none, .pointer none, .pointer none] 36)).alloc (.cells #[.slice none 0 0, .slice none 0 0, .slice none 0 0, .slice none 0 0] 44)).alloc (.cells #[.slice none 0 0, .slice none 0 0, .slice none 0 0, .slice none 0 0] 44)) := by
  refine ⟨by simp, ((((Below.refl _ w).alloc (Nat.le_refl _) _).alloc (by simp) _).alloc (by simp; omega) _), fun t ht j hj => ?_, fun j hj => by omega, fun j hj => by omega, fun j hj => by omega, fun j hj => by omega, fun j hj => by omega, fun j hj => by omega⟩
  rcases (show t = 0 ∨ t = 1 ∨ t = 2 by omega) with rfl | rfl | rfl
  · rw [Nat.add_zero, World.cell?_alloc_past _ _ _ (by simp; omega), World.cell?_alloc_past _ _ _ (by simp), World.cell?_alloc_at _ _ _ _ rfl, World.frozen?_alloc_past _ _ _ (by simp; omega), World.frozen?_alloc_past _ _ _ (by simp), World.frozen?_alloc_at _ _ _ _ rfl]
    refine ⟨?_, rfl⟩
    rcases (show j = 0 ∨ j = 1 ∨ j = 2 ∨ j = 3 by omega) with rfl | rfl | rfl | rfl <;> exact ⟨_, rfl⟩
  · rw [World.cell?_alloc_past _ _ _ (by simp), World.cell?_alloc_at _ _ _ _ (by simp), World.frozen?_alloc_past _ _ _ (by simp), World.frozen?_alloc_at _ _ _ _ (by simp)]
    refine ⟨?_, rfl⟩
    rcases (show j = 0 ∨ j = 1 ∨ j = 2 ∨ j = 3 by omega) with rfl | rfl | rfl | rfl <;> exact ⟨_, rfl⟩
  · rw [World.cell?_alloc_at _ _ _ _ (by simp), World.frozen?_alloc_at _ _ _ _ (by simp)]
    refine ⟨?_, rfl⟩
    rcases (show j = 0 ∨ j = 1 ∨ j = 2 ∨ j = 3 by omega) with rfl | rfl | rfl | rfl <;> exact ⟨_, rfl⟩

theorem Set1.cls {N : Nat} {L A D : Nat → Bool} {st : Nat → Int} {w0 wr : World} (h : Set1 N 4 L A D st w0 wr) : Cls N L A D wr := by
  refine ⟨fun k hk => ?_, fun k hk => ?_, fun k hk => ?_, fun k hk l h0 h1 => ?_, fun k hk l h0 h1 => ?_⟩
  · simp [World.cell?, h.cl k hk]
  · simp [World.cell?, h.cl k hk]
  · simp [World.cell?, h.cl k hk]
  · rcases (show l = 0 ∨ l = 1 ∨ l = 2 by omega) with rfl | rfl | rfl <;> simp [World.cell?, h.nd k hk]
  · rcases (show l = 0 ∨ l = 1 ∨ l = 2 by omega) with rfl | rfl | rfl <;> simp [World.cell?, h.nd k hk, dn]

/-- Four slices of one number each. -/
theorem tab_of (T B : Nat) (f : Nat → Nat) (st : Nat → Int) (w : World) (hc : ∀ j, j < 4 → w.cell? ⟨T, j, none⟩ = some (.slice (some ⟨f j, 0, none⟩) 1 1) ∧ w.frozen? ⟨T, j, none⟩ = false ∧ w.heap[f j]? = some (oneObj (st j)))
    (hf : ∀ i j, f i = f j → i = j) (hT : ∀ j, f j ≠ T) (hlt : T < w.heap.size) : Tab T B 21 1 (fun o => [st o].map (Value.int .i32)) w := by
  refine ⟨fun o ho => ?_, fun o p v u ho hp hne hv hu g hg => ?_, hlt⟩
  · obtain ⟨h1, h2, h3⟩ := hc o ho
    refine ⟨_, 1, h1, h2, ⟨by simp, Or.inr ⟨f o, 1, _, rfl, Nat.zero_le _, h3, by simp, by simp [maxLen], by simp, by simp⟩⟩, fun g hg => ?_⟩
    simp [Value.ownBlock] at hg
    subst hg
    exact ⟨hT o, Or.inr ⟨_, rfl⟩⟩
  · rw [(hc o ho).1] at hv
    rw [(hc p hp).1] at hu
    cases hv
    cases hu
    simp [Value.ownBlock] at hg ⊢
    subst hg
    exact fun e => hne (hf _ _ e).symm

end Go.Proofs.Ybulkiyo
