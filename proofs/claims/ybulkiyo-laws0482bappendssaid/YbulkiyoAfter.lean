/-
  slices.Equal at two slices of the same numbers; (*cluster).event; (*search).after where no node has children.
-/
import Derived.Test.YbulkiyoProg
import Derived.WalkKit
import Derived.WalkSpells
import Derived.Deep.QuietTactic
import Derived.BigQuiet
import Derived.Deep.DeepMust
namespace Go.Proofs.Ybulkiyo
open Go.RowKit
set_option linter.unusedVariables false

set_option maxRecDepth 100000 in
set_option maxHeartbeats 800000 in
/-- slices.Equal over int32, at two slices of the same numbers. -/
theorem equal_same (g1 g2 n c1 c2 : Nat) (xs : List Int) (w : World) (hn : n ≤ 1000000) (hl : n ≤ xs.length)
    (h1 : ∀ j, j < n → w.cell? ⟨g1, j, none⟩ = some (.int .i32 (xs.getD j 0))) (h2 : ∀ j, j < n → w.cell? ⟨g2, j, none⟩ = some (.int .i32 (xs.getD j 0))) :
    Calls Yba.prog 11 #[.slice (some ⟨g1, 0, none⟩) n c1, .slice (some ⟨g2, 0, none⟩) n c2] w fun e w' => e = .returned (.bool true) ∧ ∃ q, w' = w.drewN q := by
  go_enter Yba.func11, Yba.ntmps11
  go_wp2
  go_loopw [13] (fun i wr => ∃ (k q : Nat), k ≤ n ∧ i = .int .i64 k ∧ Hid (wr = w.drewN q)) (fun i _ => n - (intOf i).toNat)
  case atStart => exact ⟨0, 0, Nat.zero_le _, rfl, rfl⟩
  case round =>
    obtain ⟨k, q, hk, rfl, HW⟩ := hrel
    by_cases hlt : k < n
    · have a1 : wr.cell? ⟨g1, k, none⟩ = some (.int .i32 (xs.getD k 0)) := by rw [HW.out]; exact h1 k hlt
      have a2 : wr.cell? ⟨g2, k, none⟩ = some (.int .i32 (xs.getD k 0)) := by rw [HW.out]; exact h2 k hlt
      have hki : (k : Int) < (n : Int) := by omega
      obtain ⟨x, hx⟩ : ∃ x, xs.getD k 0 = x := ⟨_, rfl⟩
      rw [hx] at a1 a2
      clear hx h1 h2
      go_wp2
      go_quiet (fail)
      go_wp2
      go_roundw
      case rel => exact ⟨k + 1, q + nq, by omega, by go_num, by rw [HW.out]; simp [Hid]⟩
      case measure => simp [intOf]; omega
    · go_wp2
      go_ret
      exact ⟨rfl, q, HW.out⟩

set_option maxRecDepth 100000 in
set_option maxHeartbeats 800000 in
/-- (*cluster).event where the cluster names no operations. -/
theorem event_any (c : Nat) (i : Int) (out : Bool) (w : World) (h0 : 0 ≤ i) (h1 : i ≤ 7) (hc : w.cell? ⟨c, 0, none⟩ = some (.slice none 0 0)) :
    Calls Yba.prog 13 #[.pointer (some ⟨c, 0, none⟩), .int .i64 i, .bool out] w fun e w' => e = .returned (.int .i64 i) ∧ w' = w := by
  cases out
  · go_enter Yba.func13, Yba.ntmps13
    go_wp2
    go_ret
    exact ⟨rfl, rfl⟩
  · go_enter Yba.func13, Yba.ntmps13
    go_wp2
    go_ret
    exact ⟨rfl, rfl⟩

set_option maxRecDepth 100000 in
set_option maxHeartbeats 1600000 in
/-- (*search).after at a membership of a cluster whose nodes have no children: the node reached if it is done, else 0. -/
theorem after_any (S T c nd g n cap k : Nat) (i l : Int) (out d : Bool) (w : World) (hk : k < 4) (hi0 : 0 ≤ i) (hi1 : i ≤ 7) (hl0 : 0 ≤ l) (hl1 : l ≤ 2) (hn : n ≤ 1000000)
    (h1 : w.cell? ⟨S, 34, none⟩ = some (.slice (some ⟨T, 0, none⟩) 4 4)) (h2 : w.cell? ⟨T, k, none⟩ = some (.slice (some ⟨g, 0, none⟩) (n + 1) cap)) (h3 : w.cell? ⟨g, n, none⟩ = some (.int .i32 l))
    (h4 : w.cell? ⟨c, 0, none⟩ = some (.slice none 0 0)) (h5 : w.cell? ⟨c, 4, none⟩ = some (.slice (some ⟨nd, 0, none⟩) 3 3))
    (h6 : w.cell? ⟨nd, l.toNat * 4 + 2, none⟩ = some (.bool d)) (h7 : w.cell? ⟨nd, l.toNat * 4, none⟩ = some (.slice none 0 0)) :
    Calls Yba.prog 12 #[.pointer (some ⟨S, 0, none⟩), .agg #[.pointer (some ⟨c, 0, none⟩), .int .i64 k, .int .i64 i], .bool out] w
      fun e w' => e = .returned (.int .i32 (if d then l else 0)) ∧ ∃ q, w' = (w.alloc (.cells #[.pointer (some ⟨c, 0, none⟩), .int .i64 k, .int .i64 i] 52)).drewN q := by
  have lS := World.block_lt_of_cell? w _ h1
  have lT := World.block_lt_of_cell? w _ h2
  have lg := World.block_lt_of_cell? w _ h3
  have lc := World.block_lt_of_cell? w _ h4
  have ln := World.block_lt_of_cell? w _ h6
  have hki : (k : Int) < 4 := by omega
  have hl3 : l < 3 := by omega
  have hne : ∀ w, (binOp .neq 44 (.slice none 0 0) (.slice none 0 0)).run Yba.prog w = .ok (.bool false) w := fun w => run_neq_slice_nil_any w 44 21 _ _ _ _ _ Yba.underlying44
  cases d
  · go_enter Yba.func12, Yba.ntmps12
    go_wp2
    go_quiet (fail)
    go_wp2
    have m0 : ((w.alloc (.cells #[.pointer (some ⟨c, 0, none⟩), .int .i64 k, .int .i64 i] 52)).drewN nq).cell? ⟨w.heap.size, 0, none⟩ = some (.pointer (some ⟨c, 0, none⟩)) := by go_simp
    have m2 : ((w.alloc (.cells #[.pointer (some ⟨c, 0, none⟩), .int .i64 k, .int .i64 i] 52)).drewN nq).cell? ⟨w.heap.size, 2, none⟩ = some (.int .i64 i) := by go_simp
    have k4 : ((w.alloc (.cells #[.pointer (some ⟨c, 0, none⟩), .int .i64 k, .int .i64 i] 52)).drewN nq).cell? ⟨c, 0, none⟩ = some (.slice none 0 0) := by go_simp
    have k5 : ((w.alloc (.cells #[.pointer (some ⟨c, 0, none⟩), .int .i64 k, .int .i64 i] 52)).drewN nq).cell? ⟨c, 4, none⟩ = some (.slice (some ⟨nd, 0, none⟩) 3 3) := by go_simp
    have k7 : ((w.alloc (.cells #[.pointer (some ⟨c, 0, none⟩), .int .i64 k, .int .i64 i] 52)).drewN nq).cell? ⟨nd, l.toNat * 4, none⟩ = some (.slice none 0 0) := by go_simp
    generalize hW : (w.alloc (.cells #[.pointer (some ⟨c, 0, none⟩), .int .i64 k, .int .i64 i] 52)).drewN nq = W at m0 m2 k4 k5 k7 ⊢
    have HW : Hid ((w.alloc (.cells #[.pointer (some ⟨c, 0, none⟩), .int .i64 k, .int .i64 i] 52)).drewN nq = W) := hW
    clear hW h1 h2 h3 h4 h5 h6 h7
    go_quiet ((go_at_call 13; go_must (exact Calls.quiet_of_same (event_any c i out _ hi0 hi1 k4))))
    go_wp2
    go_quiet (fail)
    go_wp2
    go_ret
    refine ⟨rfl, ?_⟩
    rw [← HW.out, World.drewN_drewN]
    exact ⟨_, rfl⟩
  · go_enter Yba.func12, Yba.ntmps12
    go_wp2
    go_quiet (fail)
    go_wp2
    go_ret
    exact ⟨rfl, _, rfl⟩
end Go.Proofs.Ybulkiyo
