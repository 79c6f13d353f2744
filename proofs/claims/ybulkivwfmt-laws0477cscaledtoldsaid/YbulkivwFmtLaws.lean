/-
  wire.CheckTxnTimeout: nil within the bounds, else an error of fmt.Errorf's; and the two laws over it: each returns true.
-/
import Derived.Test.YbulkivwFmtString
import Derived.WalkSpells
namespace Go.Proofs.YbulkivwFmt
open Go.RowKit Go.Extern.Stop Go.Stop Go.Extern
set_option linter.unusedVariables false
attribute [local go_sem] call7 guardOk fmtA fmtAr act22_118 act22_118w isString22 str22 ptr33 elem33 isError33 ptr32 elem32 isError32

set_option maxHeartbeats 400000 in
theorem check_ok (d : Int) (w : World) (h0 : 1000000 ≤ d) (h1 : d ≤ 3600000000000) :
    Calls Ybaf.prog 5 #[.int .i64 d] w fun e w' => e = .returned .nilIface ∧ w' = w := by
  go_enter Ybaf.func5, Ybaf.ntmps5
  go_wp2
  go_ret
  exact ⟨rfl, rfl⟩

set_option maxHeartbeats 800000 in
theorem check_bad (F : Interp) (d : Int) (w : World) (hF : F.answers w.tape) (h0 : -9223372036854775808 ≤ d) (h1 : d ≤ 9223372036854775807) (hd : d < 1000000 ∨ 3600000000000 < d) :
    Calls Ybaf.prog 5 #[.int .i64 d] w fun e w' => ∃ a : Addr, e = .returned (.iface 33 (.pointer (some a))) ∧ Below w.heap.size w w' := by
  have hF' := answers_open hF
  have H0 : Hid (-9223372036854775808 ≤ d) := h0
  have H1 : Hid (d ≤ 9223372036854775807) := h1
  clear h0 h1
  rcases hd with hd | hd
  all_goals
    go_enter Ybaf.func5, Ybaf.ntmps5
    go_wp2
    apply rows_call nextTurns
    case hr =>
      go_simp
      exact ⟨⟨rfl, rfl, rfl⟩, rfl⟩
    case hi => exact invokeString22 _ _
    case hc =>
      refine (string_any d _ H0.out H1.out).mono ?_
      rintro e w3 ⟨s3, rfl, hs3, hx⟩
      have hb3 : Below w.heap.size w w3 := ((Below.refl _ w).alloc (Nat.le_refl _) _).trans (hx.mono (by simp))
      have hc0 : w3.cell? ⟨w.heap.size, 0, none⟩ = some (.iface 22 (.int .i64 d)) := by rw [hx.cell (by simp)]; go_simp
      have hc1 : w3.cell? ⟨w.heap.size, 1, none⟩ = some (.iface 22 (.int .i64 3600000000000)) := by rw [hx.cell (by simp)]; go_simp
      have hF3 := answers_open (show F.answers w3.tape by rw [hb3.tape]; exact hF)
      have hz3 : w.heap.size < w3.heap.size := by have := hx.size; simp at this; omega
      have HB3 : Hid (Below w.heap.size w w3) := hb3
      clear hx hb3
      apply rows_call nextReturned
      case hr =>
        go_simp
        exact ⟨⟨rfl, rfl, rfl⟩, rfl⟩
      case hi => exact invokeString22 _ _
      case hc =>
        refine (string_any 3600000000000 _ (by omega) (by omega)).mono ?_
        rintro e w4 ⟨s4, rfl, hs4, hx⟩
        have hb4 : Below w.heap.size w w4 := HB3.out.trans (hx.mono (by omega))
        have hc0' : w4.cell? ⟨w.heap.size, 0, none⟩ = some (.iface 22 (.int .i64 d)) := by rw [hx.cell (by exact hz3)]; exact hc0
        have hc1' : w4.cell? ⟨w.heap.size, 1, none⟩ = some (.iface 22 (.int .i64 3600000000000)) := by rw [hx.cell (by exact hz3)]; exact hc1
        have hF4 := answers_open (show F.answers w4.tape by rw [hb4.tape]; exact hF)
        have hz4 : w.heap.size < w4.heap.size := by have := hx.size; omega
        have HB4 : Hid (Below w.heap.size w w4) := hb4
        clear hx hb4 HB3 hc0 hc1 hF3 hz3
        apply rows_value nextReturned
        case hr =>
          go_simp
          exact ⟨rfl, rfl⟩
        case h =>
          go_wp2
          go_ret
          exact ⟨⟨w4.heap.size, 0, none⟩, rfl, (HB4.out.alloc (by omega) _).drew⟩

set_option maxHeartbeats 800000 in
/-- wire.LawS0477CRange returns true. -/
theorem range_any (F : Interp) (n : Int) (w : World) (hF : F.answers w.tape) (h0 : -9223372036854775808 ≤ n) (h1 : n ≤ 9223372036854775807) :
    Calls Ybaf.prog 3 #[.int .i64 n] w fun e w' => e = .returned (.bool true) ∧ Below w.heap.size w w' := by
  have H0 : Hid (-9223372036854775808 ≤ n) := h0
  have H1 : Hid (n ≤ 9223372036854775807) := h1
  clear h0 h1
  by_cases c0 : 1000000 ≤ n
  · by_cases c1 : n ≤ 3600000000000
    · go_enter Ybaf.func3, Ybaf.ntmps3
      go_wp2_with fail
      refine (check_ok n _ c0 c1).mono ?_
      rintro e w1 ⟨rfl, rfl⟩
      go_wp2
      go_ret
      exact ⟨rfl, Below.refl _ _⟩
    · have c1' : decide (n ≤ 3600000000000) = false := by simp; omega
      go_enter Ybaf.func3, Ybaf.ntmps3
      go_wp2_with fail
      refine (check_bad F n _ hF H0.out H1.out (Or.inr (by omega))).mono ?_
      rintro e w1 ⟨a, rfl, hb⟩
      have HB : Hid (Below w.heap.size w w1) := hb
      clear hb
      go_wp2
      go_ret
      exact ⟨rfl, HB.out⟩
  · go_enter Ybaf.func3, Ybaf.ntmps3
    go_wp2_with fail
    refine (check_bad F n _ hF H0.out H1.out (Or.inl (by omega))).mono ?_
    rintro e w1 ⟨a, rfl, hb⟩
    have HB : Hid (Below w.heap.size w w1) := hb
    clear hb
    go_wp2
    go_ret
    exact ⟨rfl, HB.out⟩

set_option maxHeartbeats 800000 in
/-- wire.LawS0477CScaled, below the hour. -/
theorem scaled_in (m x ns : Int) (w : World) (h0 : -2147483648 ≤ m) (h1 : m ≤ 2147483647) (x0 : 0 ≤ x) (x1 : x ≤ 65535) (hns : x % 1000 = ns) (n0 : 0 ≤ ns) (n1 : ns ≤ 999)
    (c0 : 1 ≤ m) (c1 : m < 3600000) :
    Calls Ybaf.prog 4 #[.int .i32 m, .int .u16 x] w fun e w' => e = .returned (.bool true) ∧ Below w.heap.size w w' := by
  go_enter Ybaf.func4, Ybaf.ntmps4
  go_wp2_with fail
  refine (check_ok _ _ (by omega) (by omega)).mono ?_
  rintro e w1 ⟨rfl, rfl⟩
  go_wp2
  go_ret
  exact ⟨rfl, Below.refl _ _⟩

set_option maxHeartbeats 800000 in
/-- .. at the hour. -/
theorem scaled_at (m x ns : Int) (w : World) (h0 : -2147483648 ≤ m) (h1 : m ≤ 2147483647) (x0 : 0 ≤ x) (x1 : x ≤ 65535) (hns : x % 1000 = ns) (n0 : 0 ≤ ns) (n1 : ns ≤ 999)
    (c0 : m = 3600000) (c1 : ns = 0) :
    Calls Ybaf.prog 4 #[.int .i32 m, .int .u16 x] w fun e w' => e = .returned (.bool true) ∧ Below w.heap.size w w' := by
  subst c0
  subst c1
  go_enter Ybaf.func4, Ybaf.ntmps4
  go_wp2_with fail
  refine (check_ok _ _ (by omega) (by omega)).mono ?_
  rintro e w1 ⟨rfl, rfl⟩
  go_wp2
  go_ret
  exact ⟨rfl, Below.refl _ _⟩

set_option maxHeartbeats 800000 in
/-- .. just past the hour. -/
theorem scaled_past (F : Interp) (m x ns : Int) (w : World) (hF : F.answers w.tape) (h0 : -2147483648 ≤ m) (h1 : m ≤ 2147483647) (x0 : 0 ≤ x) (x1 : x ≤ 65535) (hns : x % 1000 = ns) (n0 : 0 ≤ ns) (n1 : ns ≤ 999)
    (c0 : m = 3600000) (c1 : 1 ≤ ns) :
    Calls Ybaf.prog 4 #[.int .i32 m, .int .u16 x] w fun e w' => e = .returned (.bool true) ∧ Below w.heap.size w w' := by
  subst c0
  have c1' : (ns == 0) = false := by simp; omega
  go_enter Ybaf.func4, Ybaf.ntmps4
  go_wp2_with fail
  refine (check_bad F _ _ hF (by omega) (by omega) (by omega)).mono ?_
  rintro e w1 ⟨a, rfl, hb⟩
  have HB : Hid (Below w.heap.size w w1) := hb
  clear hb
  go_wp2
  go_ret
  exact ⟨rfl, HB.out⟩

set_option maxHeartbeats 800000 in
/-- .. far past the hour. -/
theorem scaled_over (F : Interp) (m x ns : Int) (w : World) (hF : F.answers w.tape) (h0 : -2147483648 ≤ m) (h1 : m ≤ 2147483647) (x0 : 0 ≤ x) (x1 : x ≤ 65535) (hns : x % 1000 = ns) (n0 : 0 ≤ ns) (n1 : ns ≤ 999)
    (c0 : 3600000 < m) :
    Calls Ybaf.prog 4 #[.int .i32 m, .int .u16 x] w fun e w' => e = .returned (.bool true) ∧ Below w.heap.size w w' := by
  have c1 : decide (m < 3600000) = false := by simp; omega
  have c2 : (m == 3600000) = false := by simp; omega
  go_enter Ybaf.func4, Ybaf.ntmps4
  go_wp2_with fail
  refine (check_bad F _ _ hF (by omega) (by omega) (by omega)).mono ?_
  rintro e w1 ⟨a, rfl, hb⟩
  have HB : Hid (Below w.heap.size w w1) := hb
  clear hb
  go_wp2
  go_ret
  exact ⟨rfl, HB.out⟩

set_option maxHeartbeats 800000 in
/-- .. below a millisecond. -/
theorem scaled_under (F : Interp) (m x ns : Int) (w : World) (hF : F.answers w.tape) (h0 : -2147483648 ≤ m) (h1 : m ≤ 2147483647) (x0 : 0 ≤ x) (x1 : x ≤ 65535) (hns : x % 1000 = ns) (n0 : 0 ≤ ns) (n1 : ns ≤ 999)
    (c0 : m ≤ 0) :
    Calls Ybaf.prog 4 #[.int .i32 m, .int .u16 x] w fun e w' => e = .returned (.bool true) ∧ Below w.heap.size w w' := by
  have c1 : decide (1 ≤ m) = false := by simp; omega
  go_enter Ybaf.func4, Ybaf.ntmps4
  go_wp2_with fail
  refine (check_bad F _ _ hF (by omega) (by omega) (by omega)).mono ?_
  rintro e w1 ⟨a, rfl, hb⟩
  have HB : Hid (Below w.heap.size w w1) := hb
  clear hb
  go_wp2
  go_ret
  exact ⟨rfl, HB.out⟩

/-- wire.LawS0477CScaled returns true. -/
theorem scaled_any (F : Interp) (m x : Int) (w : World) (hF : F.answers w.tape) (h0 : -2147483648 ≤ m) (h1 : m ≤ 2147483647) (x0 : 0 ≤ x) (x1 : x ≤ 65535) :
    Calls Ybaf.prog 4 #[.int .i32 m, .int .u16 x] w fun e w' => e = .returned (.bool true) ∧ Below w.heap.size w w' := by
  by_cases c0 : 1 ≤ m
  · by_cases c1 : m < 3600000
    · exact scaled_in m x _ w h0 h1 x0 x1 rfl (by omega) (by omega) c0 c1
    · by_cases c2 : m = 3600000
      · by_cases c3 : x % 1000 = 0
        · exact scaled_at m x _ w h0 h1 x0 x1 rfl (by omega) (by omega) c2 c3
        · exact scaled_past F m x _ w hF h0 h1 x0 x1 rfl (by omega) (by omega) c2 (by omega)
      · exact scaled_over F m x _ w hF h0 h1 x0 x1 rfl (by omega) (by omega) (by omega)
  · exact scaled_under F m x _ w hF h0 h1 x0 x1 rfl (by omega) (by omega) (by omega)

end Go.Proofs.YbulkivwFmt
