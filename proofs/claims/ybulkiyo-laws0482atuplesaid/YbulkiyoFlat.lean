/-
  LawS0482AFlat returns true; nothing that was there before has turned.
-/
import Derived.Test.YbulkiyoRead
import Derived.LaidEql
namespace Go.Proofs.Ybulkiyo
open Go.RowKit
theorem ta_string (s : ByteArray) (w : World) : (Instr.typeAssert (.iface 9 (.string s)) 20 9 true).run Yba.prog w = .ok (.tuple #[.string s, .bool true]) w := by kernel_rfl
theorem ta_int (k : Int) (w : World) : (Instr.typeAssert (.iface 2 (.int .i64 k)) 20 2 true).run Yba.prog w = .ok (.tuple #[.int .i64 k, .bool true]) w := by kernel_rfl
theorem eq_same (a : Addr) (w : World) : (binOp .eql 23 (.iface 82 (.pointer (some a))) (.iface 82 (.pointer (some a)))).run Yba.prog w = .ok (.bool true) w := by
  have h1 : (Yba.prog.info? 82).map (fun i => i.comparable) = some true := by kernel_rfl
  have h2 : (Yba.prog.info? 84).map (fun i => i.size) = some 1 := by kernel_rfl
  cases e1 : Yba.prog.info? 82 with
  | none => rw [e1] at h1; cases h1
  | some i =>
    cases e2 : Yba.prog.info? 84 with
    | none => rw [e2] at h2; cases h2
    | some j =>
      rw [e1] at h1
      exact run_eql_iface_ptr_same (P := Yba.prog) w a Yba.underlying23 Yba.underlying82 e1 (by simpa using h1) e2

set_option maxRecDepth 100000 in
set_option maxHeartbeats 800000 in
theorem flat_tt (k : Int) (s : ByteArray) (w : World) :
    Calls Yba.prog 3 #[.bool true, .int .i64 k, .string s, .bool true] w fun e w' => e = .returned (.bool true) ∧ Below w.heap.size w w' := by
  have hmf : ∀ (fn : Fn) (first cap : Array Value) (w : World), (Instr.makeFunc fn first cap).run Yba.prog w = .ok (.func fn first cap) w := fun _ _ _ _ => rfl
  go_enter Yba.func3, Yba.ntmps3
  go_wp2_with (first | (go_at_call 6; go_in) | (go_at_call 8; go_in))
  refine (read7 (w.heap.size + 1 + 1 + 1 + 1) (w.heap.size + 1 + 1 + 1) w.heap.size (w.heap.size + 1 + 1) 9 (.string s) (.pointer (some ⟨w.heap.size + 1, 0, none⟩)) true _ (by omega) (by omega) (by omega) (by omega) (by omega) (by go_simp) (by go_simp) (by go_simp) (by go_simp) (by go_simp) (by go_simp)).mono ?_
  rintro e w1 ⟨rfl, hR⟩
  have c1 := hR.calls
  obtain ⟨r, c, c2, c3⟩ := hR.log
  have c4 : w1.cell? ⟨w.heap.size, 0, none⟩ = some (.bool true) := by rw [hR.fail]; go_simp
  have c5 : w1.cell? ⟨w.heap.size + 1 + 1, 0, none⟩ = some (.iface 82 (.pointer (some ⟨w.heap.size + 1, 0, none⟩))) := by rw [hR.err]; go_simp
  have HB : Hid (Below w.heap.size w w1) := (((((Below.refl _ w).alloc (Nat.le_refl _) _).alloc (by simp) _).alloc (by simp; omega) _).alloc (by simp; omega) _ |>.alloc (by simp; omega) _).trans (hR.below w.heap.size (by omega) (by omega))
  clear hR
  have h1 := ta_string s
  have h2 := eq_same
  go_wp2
  go_ret
  exact ⟨rfl, HB.out⟩

set_option maxRecDepth 100000 in
set_option maxHeartbeats 800000 in
theorem flat_tf (k : Int) (s : ByteArray) (w : World) :
    Calls Yba.prog 3 #[.bool true, .int .i64 k, .string s, .bool false] w fun e w' => e = .returned (.bool true) ∧ Below w.heap.size w w' := by
  have hmf : ∀ (fn : Fn) (first cap : Array Value) (w : World), (Instr.makeFunc fn first cap).run Yba.prog w = .ok (.func fn first cap) w := fun _ _ _ _ => rfl
  go_enter Yba.func3, Yba.ntmps3
  go_wp2_with (first | (go_at_call 6; go_in) | (go_at_call 8; go_in))
  refine (read7 (w.heap.size + 1 + 1 + 1 + 1) (w.heap.size + 1 + 1 + 1) w.heap.size (w.heap.size + 1 + 1) 9 (.string s) (.pointer (some ⟨w.heap.size + 1, 0, none⟩)) false _ (by omega) (by omega) (by omega) (by omega) (by omega) (by go_simp) (by go_simp) (by go_simp) (by go_simp) (by go_simp) (by go_simp)).mono ?_
  rintro e w1 ⟨rfl, hR⟩
  have c1 := hR.calls
  obtain ⟨r, c, c2, c3⟩ := hR.log
  have c4 : w1.cell? ⟨w.heap.size, 0, none⟩ = some (.bool false) := by rw [hR.fail]; go_simp
  have c5 : w1.cell? ⟨w.heap.size + 1 + 1, 0, none⟩ = some (.iface 82 (.pointer (some ⟨w.heap.size + 1, 0, none⟩))) := by rw [hR.err]; go_simp
  have HB : Hid (Below w.heap.size w w1) := (((((Below.refl _ w).alloc (Nat.le_refl _) _).alloc (by simp) _).alloc (by simp; omega) _).alloc (by simp; omega) _ |>.alloc (by simp; omega) _).trans (hR.below w.heap.size (by omega) (by omega))
  clear hR
  have h1 := ta_string s
  go_wp2
  go_ret
  exact ⟨rfl, HB.out⟩

set_option maxRecDepth 100000 in
set_option maxHeartbeats 800000 in
theorem flat_ft (k : Int) (s : ByteArray) (w : World) :
    Calls Yba.prog 3 #[.bool false, .int .i64 k, .string s, .bool true] w fun e w' => e = .returned (.bool true) ∧ Below w.heap.size w w' := by
  have hmf : ∀ (fn : Fn) (first cap : Array Value) (w : World), (Instr.makeFunc fn first cap).run Yba.prog w = .ok (.func fn first cap) w := fun _ _ _ _ => rfl
  go_enter Yba.func3, Yba.ntmps3
  go_wp2_with (first | (go_at_call 6; go_in) | (go_at_call 8; go_in))
  refine (read7 (w.heap.size + 1 + 1 + 1 + 1) (w.heap.size + 1 + 1 + 1) w.heap.size (w.heap.size + 1 + 1) 2 (.int .i64 k) (.pointer (some ⟨w.heap.size + 1, 0, none⟩)) true _ (by omega) (by omega) (by omega) (by omega) (by omega) (by go_simp) (by go_simp) (by go_simp) (by go_simp) (by go_simp) (by go_simp)).mono ?_
  rintro e w1 ⟨rfl, hR⟩
  have c1 := hR.calls
  obtain ⟨r, c, c2, c3⟩ := hR.log
  have c4 : w1.cell? ⟨w.heap.size, 0, none⟩ = some (.bool true) := by rw [hR.fail]; go_simp
  have c5 : w1.cell? ⟨w.heap.size + 1 + 1, 0, none⟩ = some (.iface 82 (.pointer (some ⟨w.heap.size + 1, 0, none⟩))) := by rw [hR.err]; go_simp
  have HB : Hid (Below w.heap.size w w1) := (((((Below.refl _ w).alloc (Nat.le_refl _) _).alloc (by simp) _).alloc (by simp; omega) _).alloc (by simp; omega) _ |>.alloc (by simp; omega) _).trans (hR.below w.heap.size (by omega) (by omega))
  clear hR
  have h1 := ta_int k
  have h2 := eq_same
  go_wp2
  go_ret
  exact ⟨rfl, HB.out⟩

set_option maxRecDepth 100000 in
set_option maxHeartbeats 800000 in
theorem flat_ff (k : Int) (s : ByteArray) (w : World) :
    Calls Yba.prog 3 #[.bool false, .int .i64 k, .string s, .bool false] w fun e w' => e = .returned (.bool true) ∧ Below w.heap.size w w' := by
  have hmf : ∀ (fn : Fn) (first cap : Array Value) (w : World), (Instr.makeFunc fn first cap).run Yba.prog w = .ok (.func fn first cap) w := fun _ _ _ _ => rfl
  go_enter Yba.func3, Yba.ntmps3
  go_wp2_with (first | (go_at_call 6; go_in) | (go_at_call 8; go_in))
  refine (read7 (w.heap.size + 1 + 1 + 1 + 1) (w.heap.size + 1 + 1 + 1) w.heap.size (w.heap.size + 1 + 1) 2 (.int .i64 k) (.pointer (some ⟨w.heap.size + 1, 0, none⟩)) false _ (by omega) (by omega) (by omega) (by omega) (by omega) (by go_simp) (by go_simp) (by go_simp) (by go_simp) (by go_simp) (by go_simp)).mono ?_
  rintro e w1 ⟨rfl, hR⟩
  have c1 := hR.calls
  obtain ⟨r, c, c2, c3⟩ := hR.log
  have c4 : w1.cell? ⟨w.heap.size, 0, none⟩ = some (.bool false) := by rw [hR.fail]; go_simp
  have c5 : w1.cell? ⟨w.heap.size + 1 + 1, 0, none⟩ = some (.iface 82 (.pointer (some ⟨w.heap.size + 1, 0, none⟩))) := by rw [hR.err]; go_simp
  have HB : Hid (Below w.heap.size w w1) := (((((Below.refl _ w).alloc (Nat.le_refl _) _).alloc (by simp) _).alloc (by simp; omega) _).alloc (by simp; omega) _ |>.alloc (by simp; omega) _).trans (hR.below w.heap.size (by omega) (by omega))
  clear hR
  have h1 := ta_int k
  go_wp2
  go_ret
  exact ⟨rfl, HB.out⟩

/-- LawS0482AFlat at every input. -/
theorem flat_any (a : Bool) (k : Int) (s : ByteArray) (f : Bool) (w : World) :
    Calls Yba.prog 3 #[.bool a, .int .i64 k, .string s, .bool f] w fun e w' => e = .returned (.bool true) ∧ Below w.heap.size w w' := by
  cases a <;> cases f
  · exact flat_ff k s w
  · exact flat_ft k s w
  · exact flat_tf k s w
  · exact flat_tt k s w

end Go.Proofs.Ybulkiyo
