/-
  LawS0482ATuple returns true; nothing that was there before has turned.
-/
import Derived.Test.YbulkiyoFlat
namespace Go.Proofs.Ybulkiyo
open Go.RowKit
theorem ta_slice (p : Option Addr) (l c : Nat) (w : World) : (Instr.typeAssert (.iface 25 (.slice p l c)) 20 25 true).run Yba.prog w = .ok (.tuple #[.slice p l c, .bool true]) w := by kernel_rfl
theorem ta_slice_no (k : Int) (w : World) : (Instr.typeAssert (.iface 2 (.int .i64 k)) 20 25 true).run Yba.prog w = .ok (.tuple #[.slice none 0 0, .bool false]) w := by kernel_rfl
theorem ta_int_no (k : Int) (w : World) : (Instr.typeAssert (.iface 3 (.int .i64 k)) 20 2 true).run Yba.prog w = .ok (.tuple #[.int .i64 0, .bool false]) w := by kernel_rfl
theorem neq_other (a b : Addr) (w : World) {ca cb : Array Value} {ta tb : TypeId} (hne : a ≠ b) (ha : w.heap[a.block]? = some (.cells ca ta (0, 0))) (hb : w.heap[b.block]? = some (.cells cb tb (0, 0))) :
    (binOp .neq 23 (.iface 82 (.pointer (some a))) (.iface 82 (.pointer (some b)))).run Yba.prog w = .ok (.bool true) w := by
  have h1 : (Yba.prog.info? 82).map (fun i => i.comparable) = some true := by kernel_rfl
  have h2 : (Yba.prog.info? 84).map (fun i => i.size) = some 1 := by kernel_rfl
  cases e1 : Yba.prog.info? 82 with
  | none => rw [e1] at h1; cases h1
  | some i =>
    cases e2 : Yba.prog.info? 84 with
    | none => rw [e2] at h2; cases h2
    | some j =>
      rw [e1] at h1
      rw [e2] at h2
      simp at h1 h2
      simp only [binOp]
      simp [Op.equal, Op.maxDepth, run_equalIn_iface_ptr_other (P := Yba.prog) w 9998 Yba.underlying23 Yba.underlying82 e1 h1 e2 (by omega) hne ha hb]

theorem alloc_old {w : World} {k : Nat} {x : Obj} (h : w.heap[k]? = some x) (o : Obj) : (w.alloc o).heap[k]? = some x := by
  rw [Below.heap_alloc _ _ _ (Array.getElem?_eq_some_iff.1 h).1]
  exact h

theorem alloc_new {w : World} {n : Nat} (h : w.heap.size = n) (o : Obj) : (w.alloc o).heap[n]? = some o := by
  rw [← h]
  exact heap_alloc_new _ _

/-- The error that readAs makes is not the error that the law made: six blocks on, and five. -/
theorem neq_six (w : World) (o0 o2 o3 o4 o5 : Obj) (c1 c6 : Array Value) (t1 t6 : TypeId) :
    (binOp .neq 23 (.iface 82 (.pointer (some ⟨w.heap.size + 1 + 1 + 1 + 1 + 1 + 1, 0, none⟩))) (.iface 82 (.pointer (some ⟨w.heap.size + 1, 0, none⟩)))).run Yba.prog (((((((w.alloc o0).alloc (.cells c1 t1)).alloc o2).alloc o3).alloc o4).alloc o5).alloc (.cells c6 t6)) =
      .ok (.bool true) (((((((w.alloc o0).alloc (.cells c1 t1)).alloc o2).alloc o3).alloc o4).alloc o5).alloc (.cells c6 t6)) :=
  neq_other _ _ _ (by simp) (alloc_new (by simp) _) (alloc_old (alloc_old (alloc_old (alloc_old (alloc_old (alloc_new (by simp) _) _) _) _) _) _)
theorem neq_five (w : World) (o0 o2 o3 o4 : Obj) (c1 c6 : Array Value) (t1 t6 : TypeId) :
    (binOp .neq 23 (.iface 82 (.pointer (some ⟨w.heap.size + 1 + 1 + 1 + 1 + 1, 0, none⟩))) (.iface 82 (.pointer (some ⟨w.heap.size + 1, 0, none⟩)))).run Yba.prog ((((((w.alloc o0).alloc (.cells c1 t1)).alloc o2).alloc o3).alloc o4).alloc (.cells c6 t6)) =
      .ok (.bool true) ((((((w.alloc o0).alloc (.cells c1 t1)).alloc o2).alloc o3).alloc o4).alloc (.cells c6 t6)) :=
  neq_other _ _ _ (by simp) (alloc_new (by simp) _) (alloc_old (alloc_old (alloc_old (alloc_old (alloc_new (by simp) _) _) _) _) _)

set_option maxRecDepth 100000 in
set_option maxHeartbeats 800000 in
theorem tuple_1 (a k : Int) (s : ByteArray) (f : Bool) (w : World) (h0 : 0 ≤ a) (h1 : a ≤ 255) (hs : a % 5 = 1) :
    Calls Yba.prog 4 #[.int .u8 a, .int .i64 k, .string s, .bool f] w fun e w' => e = .returned (.bool true) ∧ Below w.heap.size w w' := by
  have hmf : ∀ (fn : Fn) (first cap : Array Value) (w : World), (Instr.makeFunc fn first cap).run Yba.prog w = .ok (.func fn first cap) w := fun _ _ _ _ => rfl
  have t1 := ta_slice
  have t2 := ta_int_no
  have t3 := ta_slice_no
  have t4 := neq_six w
  go_enter Yba.func4, Yba.ntmps4
  go_wp2_with (first | (go_at_call 6; go_in) | (go_at_call 8; go_in))
  go_ret
  exact ⟨rfl, (((((((Below.refl _ w).alloc (Nat.le_refl _) _).alloc (by simp) _).alloc (by simp; omega) _).alloc (by simp; omega) _).alloc (by simp; omega) _).alloc (by simp; omega) _).alloc (by simp; omega) _⟩

set_option maxRecDepth 100000 in
set_option maxHeartbeats 800000 in
theorem tuple_2 (a k : Int) (s : ByteArray) (f : Bool) (w : World) (h0 : 0 ≤ a) (h1 : a ≤ 255) (hs : a % 5 = 2) :
    Calls Yba.prog 4 #[.int .u8 a, .int .i64 k, .string s, .bool f] w fun e w' => e = .returned (.bool true) ∧ Below w.heap.size w w' := by
  have hmf : ∀ (fn : Fn) (first cap : Array Value) (w : World), (Instr.makeFunc fn first cap).run Yba.prog w = .ok (.func fn first cap) w := fun _ _ _ _ => rfl
  have t1 := ta_slice
  have t2 := ta_int_no
  have t3 := ta_slice_no
  have t4 := neq_six w
  go_enter Yba.func4, Yba.ntmps4
  go_wp2_with (first | (go_at_call 6; go_in) | (go_at_call 8; go_in))
  go_ret
  exact ⟨rfl, (((((((Below.refl _ w).alloc (Nat.le_refl _) _).alloc (by simp) _).alloc (by simp; omega) _).alloc (by simp; omega) _).alloc (by simp; omega) _).alloc (by simp; omega) _).alloc (by simp; omega) _⟩

set_option maxRecDepth 100000 in
set_option maxHeartbeats 800000 in
theorem tuple_3 (a k : Int) (s : ByteArray) (f : Bool) (w : World) (h0 : 0 ≤ a) (h1 : a ≤ 255) (hs : a % 5 = 3) :
    Calls Yba.prog 4 #[.int .u8 a, .int .i64 k, .string s, .bool f] w fun e w' => e = .returned (.bool true) ∧ Below w.heap.size w w' := by
  have hmf : ∀ (fn : Fn) (first cap : Array Value) (w : World), (Instr.makeFunc fn first cap).run Yba.prog w = .ok (.func fn first cap) w := fun _ _ _ _ => rfl
  have t1 := ta_slice
  have t2 := ta_int_no
  have t3 := ta_slice_no
  have t4 := neq_five w
  go_enter Yba.func4, Yba.ntmps4
  go_wp2_with (first | (go_at_call 6; go_in) | (go_at_call 8; go_in))
  go_ret
  exact ⟨rfl, ((((((Below.refl _ w).alloc (Nat.le_refl _) _).alloc (by simp) _).alloc (by simp; omega) _).alloc (by simp; omega) _).alloc (by simp; omega) _).alloc (by simp; omega) _⟩

set_option maxRecDepth 100000 in
set_option maxHeartbeats 800000 in
theorem tuple_4 (a k : Int) (s : ByteArray) (f : Bool) (w : World) (h0 : 0 ≤ a) (h1 : a ≤ 255) (hs : a % 5 = 4) :
    Calls Yba.prog 4 #[.int .u8 a, .int .i64 k, .string s, .bool f] w fun e w' => e = .returned (.bool true) ∧ Below w.heap.size w w' := by
  have hmf : ∀ (fn : Fn) (first cap : Array Value) (w : World), (Instr.makeFunc fn first cap).run Yba.prog w = .ok (.func fn first cap) w := fun _ _ _ _ => rfl
  have t1 := ta_slice
  have t2 := ta_int_no
  have t3 := ta_slice_no
  have t4 := neq_six w
  go_enter Yba.func4, Yba.ntmps4
  go_wp2_with (first | (go_at_call 6; go_in) | (go_at_call 8; go_in))
  go_ret
  exact ⟨rfl, (((((((Below.refl _ w).alloc (Nat.le_refl _) _).alloc (by simp) _).alloc (by simp; omega) _).alloc (by simp; omega) _).alloc (by simp; omega) _).alloc (by simp; omega) _).alloc (by simp; omega) _⟩

set_option maxRecDepth 100000 in
set_option maxHeartbeats 800000 in
theorem tuple_0t (a k : Int) (s : ByteArray) (w : World) (h0 : 0 ≤ a) (h1 : a ≤ 255) (hs : a % 5 = 0) :
    Calls Yba.prog 4 #[.int .u8 a, .int .i64 k, .string s, .bool true] w fun e w' => e = .returned (.bool true) ∧ Below w.heap.size w w' := by
  have hmf : ∀ (fn : Fn) (first cap : Array Value) (w : World), (Instr.makeFunc fn first cap).run Yba.prog w = .ok (.func fn first cap) w := fun _ _ _ _ => rfl
  have t1 := ta_slice
  have t2 := ta_int k
  go_enter Yba.func4, Yba.ntmps4
  go_wp2_with (first | (go_at_call 6; go_in) | (go_at_call 8; go_in))
  refine (read9 (w.heap.size + 1 + 1 + 1 + 1) (w.heap.size + 1 + 1 + 1) w.heap.size (w.heap.size + 1 + 1) 9 (.string s) (.pointer (some ⟨w.heap.size + 1, 0, none⟩)) true _ (by omega) (by omega) (by omega) (by omega) (by omega) (by go_simp) (by go_simp) (by go_simp) (by go_simp) (by go_simp) (by go_simp)).mono ?_
  rintro e w1 ⟨rfl, hR⟩
  have c1 := hR.calls
  obtain ⟨r, c, c2, c3⟩ := hR.log
  have c4 : w1.cell? ⟨w.heap.size, 0, none⟩ = some (.bool true) := by rw [hR.fail]; go_simp
  have c5 : w1.cell? ⟨w.heap.size + 1 + 1, 0, none⟩ = some (.iface 82 (.pointer (some ⟨w.heap.size + 1, 0, none⟩))) := by rw [hR.err]; go_simp
  have HB : Hid (Below w.heap.size w w1) := ((((((Below.refl _ w).alloc (Nat.le_refl _) _).alloc (by simp) _).alloc (by simp; omega) _).alloc (by simp; omega) _ |>.alloc (by simp; omega) _).alloc (by simp; omega) _).trans (hR.below w.heap.size (by omega) (by omega))
  clear hR
  have h1 := ta_string s
  have h2 := eq_same
  go_wp2
  go_ret
  exact ⟨rfl, HB.out⟩

set_option maxRecDepth 100000 in
set_option maxHeartbeats 800000 in
theorem tuple_0f (a k : Int) (s : ByteArray) (w : World) (h0 : 0 ≤ a) (h1 : a ≤ 255) (hs : a % 5 = 0) :
    Calls Yba.prog 4 #[.int .u8 a, .int .i64 k, .string s, .bool false] w fun e w' => e = .returned (.bool true) ∧ Below w.heap.size w w' := by
  have hmf : ∀ (fn : Fn) (first cap : Array Value) (w : World), (Instr.makeFunc fn first cap).run Yba.prog w = .ok (.func fn first cap) w := fun _ _ _ _ => rfl
  have t1 := ta_slice
  have t2 := ta_int k
  go_enter Yba.func4, Yba.ntmps4
  go_wp2_with (first | (go_at_call 6; go_in) | (go_at_call 8; go_in))
  refine (read9 (w.heap.size + 1 + 1 + 1 + 1) (w.heap.size + 1 + 1 + 1) w.heap.size (w.heap.size + 1 + 1) 9 (.string s) (.pointer (some ⟨w.heap.size + 1, 0, none⟩)) false _ (by omega) (by omega) (by omega) (by omega) (by omega) (by go_simp) (by go_simp) (by go_simp) (by go_simp) (by go_simp) (by go_simp)).mono ?_
  rintro e w1 ⟨rfl, hR⟩
  have c1 := hR.calls
  obtain ⟨r, c, c2, c3⟩ := hR.log
  have c4 : w1.cell? ⟨w.heap.size, 0, none⟩ = some (.bool false) := by rw [hR.fail]; go_simp
  have c5 : w1.cell? ⟨w.heap.size + 1 + 1, 0, none⟩ = some (.iface 82 (.pointer (some ⟨w.heap.size + 1, 0, none⟩))) := by rw [hR.err]; go_simp
  have HB : Hid (Below w.heap.size w w1) := ((((((Below.refl _ w).alloc (Nat.le_refl _) _).alloc (by simp) _).alloc (by simp; omega) _).alloc (by simp; omega) _ |>.alloc (by simp; omega) _).alloc (by simp; omega) _).trans (hR.below w.heap.size (by omega) (by omega))
  clear hR
  have h1 := ta_string s
  have h2 := eq_same
  go_wp2
  go_ret
  exact ⟨rfl, HB.out⟩

/-- LawS0482ATuple at every input. -/
theorem tuple_any (a k : Int) (s : ByteArray) (f : Bool) (w : World) (h0 : 0 ≤ a) (h1 : a ≤ 255) :
    Calls Yba.prog 4 #[.int .u8 a, .int .i64 k, .string s, .bool f] w fun e w' => e = .returned (.bool true) ∧ Below w.heap.size w w' := by
  by_cases c0 : a % 5 = 0
  · cases f
    · exact tuple_0f a k s w h0 h1 c0
    · exact tuple_0t a k s w h0 h1 c0
  by_cases c1 : a % 5 = 1
  · exact tuple_1 a k s f w h0 h1 c1
  by_cases c2 : a % 5 = 2
  · exact tuple_2 a k s f w h0 h1 c2
  by_cases c3 : a % 5 = 3
  · exact tuple_3 a k s f w h0 h1 c3
  exact tuple_4 a k s f w h0 h1 (by omega)

end Go.Proofs.Ybulkiyo
