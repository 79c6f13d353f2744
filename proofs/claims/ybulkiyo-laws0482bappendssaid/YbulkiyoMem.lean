/-
  The members that come in; the memberships that the second loop of LawS0482BAppends makes of them.
-/
import Derived.Test.YbulkiyoPlain
namespace Go.Proofs.Ybulkiyo
open Go.RowKit

/-- A slice of structs of three bytes: element j's cells hold the three numbers of ms. -/
def Mem3 (x : Addr) (n : Nat) (ms : List (Int × Int × Int)) (w : World) : Prop :=
  ∀ j, j < n → ∃ a b i, ms[j]? = some (a, b, i) ∧ (0 ≤ a ∧ a ≤ 255) ∧ (0 ≤ b ∧ b ≤ 255) ∧ (0 ≤ i ∧ i ≤ 255) ∧
    w.cell? (x.add (j * 3)) = some (.int .u8 a) ∧ w.cell? ((x.add (j * 3)).add 1) = some (.int .u8 b) ∧ w.cell? ((x.add (j * 3)).add 2) = some (.int .u8 i)

theorem Mem3.below {x : Addr} {n : Nat} {ms : List (Int × Int × Int)} {w w' : World} (h : Mem3 x n ms w) (hb : Below w.heap.size w w') : Mem3 x n ms w' := by
  intro j hj
  obtain ⟨a, b, i, h0, h1, h2, h3, c0, c1, c2⟩ := h j hj
  exact ⟨a, b, i, h0, h1, h2, h3, (hb.cell (World.block_lt_of_cell? w _ c0)).trans c0, (hb.cell (World.block_lt_of_cell? w _ c1)).trans c1, (hb.cell (World.block_lt_of_cell? w _ c2)).trans c2⟩

/-- Four slices that are nil. -/
theorem tab_nil (w : World) (N : Nat) : Tab w.heap.size (w.heap.size + 1) 52 3 (fun _ => (([] : List (Nat × Int)).flatMap fun x => ([.pointer (some ⟨N + 4 + 4 * x.1, 0, none⟩), .int .i64 x.1, .int .i64 x.2] : List Value))) (w.alloc (.cells #[.slice none 0 0, .slice none 0 0, .slice none 0 0, .slice none 0 0] 50)) := by
  have hc : ∀ o, o < 4 → (w.alloc (.cells #[.slice none 0 0, .slice none 0 0, .slice none 0 0, .slice none 0 0] 50)).cell? ⟨w.heap.size, o, none⟩ = some (.slice none 0 0) := fun o ho => by
    rw [World.cell?_alloc_at _ _ _ _ rfl]
    rcases (show o = 0 ∨ o = 1 ∨ o = 2 ∨ o = 3 by omega) with rfl | rfl | rfl | rfl <;> rfl
  refine ⟨fun o ho => ⟨_, 0, hc o ho, World.frozen?_alloc_at _ _ _ _ rfl, World.ownsRow_nil _ _ _ _, fun g hg => by simp [Value.ownBlock] at hg⟩, fun o p v u ho hp hne hv hu g hg => ?_, by simp⟩
  rw [hc o ho] at hv
  cases hv
  simp [Value.ownBlock] at hg

/-- The memberships of operation o among ms: cluster and place. -/
def mls (ms : List (Int × Int × Int)) (o : Nat) : List (Nat × Int) :=
  (ms.filter fun m => m.1 % 4 == (o : Int)).map fun m => ((m.2.1 % 4).toNat, m.2.2 % 8)

theorem mls_snoc_yes (ms : List (Int × Int × Int)) (o : Nat) (a b i : Int) (h : a % 4 = (o : Int)) : mls (ms ++ [(a, b, i)]) o = mls ms o ++ [((b % 4).toNat, i % 8)] := by
  simp [mls, List.filter_append, h]
theorem mls_snoc_no (ms : List (Int × Int × Int)) (o : Nat) (a b i : Int) (h : a % 4 ≠ (o : Int)) : mls (ms ++ [(a, b, i)]) o = mls ms o := by
  simp [mls, List.filter_append, h]
theorem mls_le (ms : List (Int × Int × Int)) (o : Nat) : (mls ms o).length ≤ ms.length := by
  simp only [mls, List.length_map]
  exact List.length_filter_le _ _
theorem mls_good (ms : List (Int × Int × Int)) (o : Nat) : ∀ x ∈ mls ms o, x.1 < 4 ∧ 0 ≤ x.2 ∧ x.2 ≤ 7 := by
  intro x hx
  obtain ⟨m, _, rfl⟩ := List.mem_map.1 hx
  simp only
  omega
theorem take_snoc {α : Type} {ms : List α} {j : Nat} {x : α} (h : ms[j]? = some x) : ms.take (j + 1) = ms.take j ++ [x] := by
  obtain ⟨h1, h2⟩ := List.getElem?_eq_some_iff.1 h
  rw [List.take_succ_eq_append_getElem h1, h2]

/-- The cells of a membership. -/
def mcells (N : Nat) (x : Nat × Int) : List Value := [.pointer (some ⟨N + 4 + 4 * x.1, 0, none⟩), .int .i64 x.1, .int .i64 x.2]
def mrows (N : Nat) (ms : List (Int × Int × Int)) : Nat → List Value := fun o => (mls ms o).flatMap (mcells N)

theorem flat_get (N : Nat) : ∀ (l : List (Nat × Int)) (j : Nat) (x : Nat × Int), l[j]? = some x →
    (l.flatMap (mcells N))[j * 3]? = some (.pointer (some ⟨N + 4 + 4 * x.1, 0, none⟩)) ∧ (l.flatMap (mcells N))[j * 3 + 1]? = some (.int .i64 x.1) ∧ (l.flatMap (mcells N))[j * 3 + 2]? = some (.int .i64 x.2)
  | [], j, x, h => by simp at h
  | y :: l, 0, x, h => by
    simp at h
    subst h
    simp [mcells]
  | y :: l, j + 1, x, h => by
    have ih := flat_get N l j x (by simpa using h)
    have e : (y :: l).flatMap (mcells N) = mcells N y ++ l.flatMap (mcells N) := rfl
    have hl : (mcells N y).length = 3 := rfl
    refine ⟨?_, ?_, ?_⟩
    · rw [e, List.getElem?_append_right (by omega), show (j + 1) * 3 - (mcells N y).length = j * 3 by omega]; exact ih.1
    · rw [e, List.getElem?_append_right (by omega), show (j + 1) * 3 + 1 - (mcells N y).length = j * 3 + 1 by omega]; exact ih.2.1
    · rw [e, List.getElem?_append_right (by omega), show (j + 1) * 3 + 2 - (mcells N y).length = j * 3 + 2 by omega]; exact ih.2.2

theorem flat_len (N : Nat) : ∀ (l : List (Nat × Int)), (l.flatMap (mcells N)).length = l.length * 3
  | [] => rfl
  | x :: l => by
    have e : (x :: l).flatMap (mcells N) = mcells N x ++ l.flatMap (mcells N) := rfl
    rw [e, List.length_append, flat_len N l]
    simp [mcells]
    omega

end Go.Proofs.Ybulkiyo
