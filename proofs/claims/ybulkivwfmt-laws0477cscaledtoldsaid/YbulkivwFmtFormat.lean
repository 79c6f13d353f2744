/-
  (time.Duration).format, by the magnitude of its number: it returns a place in its buffer; nothing but the buffer has turned.
-/
import Derived.Test.YbulkivwFmtBuf
import Derived.Lib.LazyBuf
namespace Go.Proofs.YbulkivwFmt
open Go.RowKit

/-- What (time.Duration).format makes of its number: the magnitude u, the sign. -/
def Mag (d u : Int) : Prop := (0 ≤ d ∧ IntKind.u64.wrap d = u) ∨ (d < 0 ∧ IntKind.u64.wrap (-(IntKind.u64.wrap d)) = u)

set_option maxHeartbeats 400000 in
theorem format_zero (b : Nat) (d : Int) (w : World) (hb : Buf b w) (hs : Mag d 0) :
    Calls Ybaf.prog 11 #[.int .i64 d, .pointer (some ⟨b, 0, none⟩)] w fun e w' => ∃ m : Nat, m ≤ 31 ∧ e = .returned (.int .i64 m) ∧ Wrote b w w' := by
  have HW : Hid (Wrote b w w) := Wrote.refl hb
  obtain ⟨⟨x31, hx31⟩, hf31⟩ := hb 31 (by omega)
  obtain ⟨⟨x30, hx30⟩, hf30⟩ := hb 30 (by omega)
  clear hb
  rcases hs with ⟨hd, hu⟩ | ⟨hd, hu⟩
  all_goals
    go_enter Ybaf.func11, Ybaf.ntmps11
    go_wp2
    go_ret
    exact ⟨30, by omega, rfl, (HW.out.set 31 _).set 30 _⟩

set_option maxHeartbeats 400000 in
theorem format_ns (b : Nat) (d u : Int) (w : World) (hb : Buf b w) (hs : Mag d u) (h1 : 1 ≤ u) (h2 : u < 1000) :
    Calls Ybaf.prog 11 #[.int .i64 d, .pointer (some ⟨b, 0, none⟩)] w fun e w' => ∃ m : Nat, m ≤ 31 ∧ e = .returned (.int .i64 m) ∧ Wrote b w w' := by
  have HW : Hid (Wrote b w w) := Wrote.refl hb
  obtain ⟨⟨x31, hx31⟩, hf31⟩ := hb 31 (by omega)
  obtain ⟨⟨x30, hx30⟩, hf30⟩ := hb 30 (by omega)
  clear hb
  rcases hs with ⟨hd, hu⟩ | ⟨hd, hu⟩
  all_goals
    go_enter Ybaf.func11, Ybaf.ntmps11
    go_wp2_with fail
    refine (fmtFrac_le b 30 32 0 u 1000 _ ((HW.out.set 31 _).set 30 _).buf (by omega) (by omega) (by omega) (by omega) (by omega) (by omega)).mono ?_
    rintro e w1 ⟨m, q, hm1, hm2, hq0, hq1, rfl, hW1⟩
    have HW1 : Hid (Wrote b w w1) := ((HW.out.set 31 _).set 30 _).trans hW1
    have hmi : (m : Int) ≤ 32 := by omega
    clear hW1 HW hx30 hx31 hf30 hf31 h1 h2 hu
    go_wp2_with fail
    refine (fmtInt_any b m 32 3 q _ HW1.out.buf (by omega) (by omega) (by omega) (by omega) (by omega) (by omega)).mono ?_
    rintro e w2 ⟨m2, hm3, hm4, rfl, hW2⟩
    have HW2 : Hid (Wrote b w w2) := HW1.out.trans hW2
    clear hW2 HW1
    obtain ⟨m3, rfl⟩ : ∃ m3, m2 = m3 + 1 := ⟨m2 - 1, by omega⟩
    obtain ⟨⟨x, hx⟩, hf⟩ := HW2.out.buf m3 (by omega)
    have hm3i : (m3 : Int) < 32 := by omega
    go_wp2
    go_ret
    first | exact ⟨m3 + 1, by omega, ret_int (by omega), HW2.out⟩ | exact ⟨m3, by omega, ret_int (by omega), HW2.out.set _ _⟩

set_option maxHeartbeats 400000 in
theorem format_ms (b : Nat) (d u : Int) (w : World) (hb : Buf b w) (hs : Mag d u) (h1 : 1000000 ≤ u) (h2 : u < 1000000000) :
    Calls Ybaf.prog 11 #[.int .i64 d, .pointer (some ⟨b, 0, none⟩)] w fun e w' => ∃ m : Nat, m ≤ 31 ∧ e = .returned (.int .i64 m) ∧ Wrote b w w' := by
  have HW : Hid (Wrote b w w) := Wrote.refl hb
  obtain ⟨⟨x31, hx31⟩, hf31⟩ := hb 31 (by omega)
  obtain ⟨⟨x30, hx30⟩, hf30⟩ := hb 30 (by omega)
  clear hb
  rcases hs with ⟨hd, hu⟩ | ⟨hd, hu⟩
  all_goals
    go_enter Ybaf.func11, Ybaf.ntmps11
    go_wp2_with fail
    refine (fmtFrac_le b 30 32 6 u 1000 _ ((HW.out.set 31 _).set 30 _).buf (by omega) (by omega) (by omega) (by omega) (by omega) (by omega)).mono ?_
    rintro e w1 ⟨m, q, hm1, hm2, hq0, hq1, rfl, hW1⟩
    have HW1 : Hid (Wrote b w w1) := ((HW.out.set 31 _).set 30 _).trans hW1
    have hmi : (m : Int) ≤ 32 := by omega
    clear hW1 HW hx30 hx31 hf30 hf31 h1 h2 hu
    go_wp2_with fail
    refine (fmtInt_any b m 32 3 q _ HW1.out.buf (by omega) (by omega) (by omega) (by omega) (by omega) (by omega)).mono ?_
    rintro e w2 ⟨m2, hm3, hm4, rfl, hW2⟩
    have HW2 : Hid (Wrote b w w2) := HW1.out.trans hW2
    clear hW2 HW1
    obtain ⟨m3, rfl⟩ : ∃ m3, m2 = m3 + 1 := ⟨m2 - 1, by omega⟩
    obtain ⟨⟨x, hx⟩, hf⟩ := HW2.out.buf m3 (by omega)
    have hm3i : (m3 : Int) < 32 := by omega
    go_wp2
    go_ret
    first | exact ⟨m3 + 1, by omega, ret_int (by omega), HW2.out⟩ | exact ⟨m3, by omega, ret_int (by omega), HW2.out.set _ _⟩

theorem copyMu (b : Nat) (w : World) (x29 x30 : Int) (h29 : w.cell? ⟨b, 29, none⟩ = some (.int .u8 x29)) (h30 : w.cell? ⟨b, 30, none⟩ = some (.int .u8 x30)) (f29 : w.frozen? ⟨b, 29, none⟩ = false) (f30 : w.frozen? ⟨b, 30, none⟩ = false) :
    (Builtin.copy_ #[39, 9] 3 #[.slice (some ⟨b, 29, none⟩) 3 3, .string ⟨#[194, 181]⟩]).run Ybaf.prog w = .ok (.int .i64 2) ((w.setCell ⟨b, 29, none⟩ (.int .u8 194)).setCell ⟨b, 30, none⟩ (.int .u8 181)) :=
  run_copy_string (P := Ybaf.prog) w 39 9 3 5 b 29 3 3 ⟨#[194, 181]⟩ Ybaf.underlying39 (fun _ => by kernel_rfl) (by decide)
    (fun j hj => by
      have : j = 0 ∨ j = 1 := by simp [ByteArray.size] at hj; omega
      rcases this with rfl | rfl
      · simp [h29]
      · simp [h30])
    (fun j hj => by
      have : j = 0 ∨ j = 1 := by simp [ByteArray.size] at hj; omega
      rcases this with rfl | rfl
      · simp [f29]
      · simp [f30])

set_option maxHeartbeats 400000 in
theorem format_us (b : Nat) (d u : Int) (w : World) (hb : Buf b w) (hs : Mag d u) (h1 : 1000 ≤ u) (h2 : u < 1000000) :
    Calls Ybaf.prog 11 #[.int .i64 d, .pointer (some ⟨b, 0, none⟩)] w fun e w' => ∃ m : Nat, m ≤ 31 ∧ e = .returned (.int .i64 m) ∧ Wrote b w w' := by
  have HW : Hid (Wrote b w w) := Wrote.refl hb
  obtain ⟨⟨x31, hx31⟩, hf31⟩ := hb 31 (by omega)
  have hb1 : Buf b (w.setCell ⟨b, 31, none⟩ (.int .u8 115)) := hb.set 31 115
  obtain ⟨⟨x30, hx30⟩, hf30⟩ := hb1 30 (by omega)
  obtain ⟨⟨x29, hx29⟩, hf29⟩ := hb1 29 (by omega)
  have hcp := copyMu b (w.setCell ⟨b, 31, none⟩ (.int .u8 115)) x29 x30 hx29 hx30 hf29 hf30
  clear hb hb1 hx30 hx29 hf29 hf30
  rcases hs with ⟨hd, hu⟩ | ⟨hd, hu⟩
  all_goals
    go_enter Ybaf.func11, Ybaf.ntmps11
    go_wp2_with fail
    refine (fmtFrac_le b 29 32 3 u 1000 _ (((HW.out.set 31 _).set 29 _).set 30 _).buf (by omega) (by omega) (by omega) (by omega) (by omega) (by omega)).mono ?_
    rintro e w1 ⟨m, q, hm1, hm2, hq0, hq1, rfl, hW1⟩
    have HW1 : Hid (Wrote b w w1) := (((HW.out.set 31 _).set 29 _).set 30 _).trans hW1
    have hmi : (m : Int) ≤ 32 := by omega
    clear hW1 HW hx31 hf31 h1 h2 hu hcp
    go_wp2_with fail
    refine (fmtInt_any b m 32 3 q _ HW1.out.buf (by omega) (by omega) (by omega) (by omega) (by omega) (by omega)).mono ?_
    rintro e w2 ⟨m2, hm3, hm4, rfl, hW2⟩
    have HW2 : Hid (Wrote b w w2) := HW1.out.trans hW2
    clear hW2 HW1
    obtain ⟨m3, rfl⟩ : ∃ m3, m2 = m3 + 1 := ⟨m2 - 1, by omega⟩
    obtain ⟨⟨x, hx⟩, hf⟩ := HW2.out.buf m3 (by omega)
    have hm3i : (m3 : Int) < 32 := by omega
    go_wp2
    go_ret
    first | exact ⟨m3 + 1, by omega, ret_int (by omega), HW2.out⟩ | exact ⟨m3, by omega, ret_int (by omega), HW2.out.set _ _⟩

theorem wrap_div60 (u : Int) (h0 : 0 ≤ u) (h1 : u < 18446744073709551616) : IntKind.u64.wrap (u.tdiv 60) = u / 60 := by
  rw [Int.tdiv_eq_ediv_of_nonneg h0]
  simp [IntKind.wrap, IntKind.bits, IntKind.signed]
  omega

set_option maxHeartbeats 1000000 in
theorem format_s (b : Nat) (d u : Int) (w : World) (hb : Buf b w) (hs : Mag d u) (h1 : 1000000000 ≤ u) (h2 : u ≤ 9223372036854775808) :
    Calls Ybaf.prog 11 #[.int .i64 d, .pointer (some ⟨b, 0, none⟩)] w fun e w' => ∃ m : Nat, m ≤ 31 ∧ e = .returned (.int .i64 m) ∧ Wrote b w w' := by
  have HW : Hid (Wrote b w w) := Wrote.refl hb
  obtain ⟨⟨x31, hx31⟩, hf31⟩ := hb 31 (by omega)
  have H2 : Hid (u ≤ 9223372036854775808) := h2
  clear hb h2
  rcases hs with ⟨hd, hu⟩ | ⟨hd, hu⟩
  all_goals
    go_enter Ybaf.func11, Ybaf.ntmps11
    go_wp2_with fail
    refine (fmtFrac_le b 31 32 9 u 9223372037 _ (HW.out.set 31 _).buf (by omega) (by omega) (by omega) (by omega) (by have := H2.out; omega) (by have := H2.out; omega)).mono ?_
    rintro e w1 ⟨m, q, hm1, hm2, hq0, hq1, rfl, hW1⟩
    have HW1 : Hid (Wrote b w w1) := (HW.out.set 31 _).trans hW1
    have hmi : (m : Int) ≤ 32 := by omega
    clear hW1 HW hx31 hf31 h1 H2 hu
    obtain ⟨q6, hq6, hq60, hq61⟩ : ∃ q6 : Int, IntKind.u64.wrap (q.tdiv 60) = q6 ∧ 0 ≤ q6 ∧ q6 < 153722868 := ⟨q / 60, wrap_div60 q hq0 (by omega), by omega, by omega⟩
    obtain ⟨q7, hq7, hq70, hq71⟩ : ∃ q7 : Int, IntKind.u64.wrap (q6.tdiv 60) = q7 ∧ 0 ≤ q7 ∧ q7 < 2562048 := ⟨q6 / 60, wrap_div60 q6 hq60 (by omega), by omega, by omega⟩
    go_wp2_with fail
    refine (fmtInt_any b m 32 2 (q % 60) _ HW1.out.buf (by omega) (by omega) (by omega) (by omega) (by omega) (by omega)).mono ?_
    rintro e w2 ⟨m2, hm3, hm4, rfl, hW2⟩
    have HW2 : Hid (Wrote b w w2) := HW1.out.trans hW2
    clear hW2 HW1
    obtain ⟨m3, rfl⟩ : ∃ m3, m2 = m3 + 1 := ⟨m2 - 1, by omega⟩
    obtain ⟨⟨x, hx⟩, hf⟩ := HW2.out.buf m3 (by omega)
    have hm3i : (m3 : Int) < 32 := by omega
    have hm3j : (m3 : Int) ≤ 32 := by omega
    by_cases hp : 0 < q6
    · go_wp2_with fail
      refine (fmtInt_any b m3 32 2 (q6 % 60) _ (HW2.out.set _ _).buf (by omega) (by omega) (by omega) (by omega) (by omega) (by omega)).mono ?_
      rintro e w3 ⟨m4, hm5, hm6, rfl, hW3⟩
      have HW3 : Hid (Wrote b w w3) := (HW2.out.set _ _).trans hW3
      clear hW3 HW2 hx hf
      obtain ⟨m5, rfl⟩ : ∃ m5, m4 = m5 + 1 := ⟨m4 - 1, by omega⟩
      obtain ⟨⟨x, hx⟩, hf⟩ := HW3.out.buf m5 (by omega)
      have hm5i : (m5 : Int) < 32 := by omega
      have hm5j : (m5 : Int) ≤ 32 := by omega
      by_cases hp7 : 0 < q7
      · go_wp2_with fail
        refine (fmtInt_any b m5 32 7 q7 _ (HW3.out.set _ _).buf (by omega) (by omega) (by omega) (by omega) (by omega) (by omega)).mono ?_
        rintro e w4 ⟨m6, hm7, hm8, rfl, hW4⟩
        have HW4 : Hid (Wrote b w w4) := (HW3.out.set _ _).trans hW4
        clear hW4 HW3 hx hf
        obtain ⟨m7, rfl⟩ : ∃ m7, m6 = m7 + 1 := ⟨m6 - 1, by omega⟩
        obtain ⟨⟨x, hx⟩, hf⟩ := HW4.out.buf m7 (by omega)
        have hm7i : (m7 : Int) < 32 := by omega
        go_wp2
        go_ret
        first | exact ⟨m7 + 1, by omega, ret_int (by omega), HW4.out⟩ | exact ⟨m7, by omega, ret_int (by omega), HW4.out.set _ _⟩
      · go_wp2
        go_ret
        first | exact ⟨m5 + 1, by omega, ret_int (by omega), HW3.out⟩ | exact ⟨m5, by omega, ret_int (by omega), HW3.out.set _ _⟩
    · go_wp2
      go_ret
      first | exact ⟨m3 + 1, by omega, ret_int (by omega), HW2.out⟩ | exact ⟨m3, by omega, ret_int (by omega), HW2.out.set _ _⟩
theorem mag_some (d : Int) (h0 : -9223372036854775808 ≤ d) (h1 : d ≤ 9223372036854775807) : ∃ u : Int, Mag d u ∧ 0 ≤ u ∧ u ≤ 9223372036854775808 := by
  by_cases hd : 0 ≤ d
  · exact ⟨d, Or.inl ⟨hd, by simp [IntKind.wrap, IntKind.bits, IntKind.signed]; omega⟩, hd, by omega⟩
  · exact ⟨-d, Or.inr ⟨by omega, by simp [IntKind.wrap, IntKind.bits, IntKind.signed]; omega⟩, by omega, by omega⟩

/-- (time.Duration).format at whatever number. -/
theorem format_any (b : Nat) (d : Int) (w : World) (hb : Buf b w) (h0 : -9223372036854775808 ≤ d) (h1 : d ≤ 9223372036854775807) :
    Calls Ybaf.prog 11 #[.int .i64 d, .pointer (some ⟨b, 0, none⟩)] w fun e w' => ∃ m : Nat, m ≤ 31 ∧ e = .returned (.int .i64 m) ∧ Wrote b w w' := by
  obtain ⟨u, hs, hu0, hu1⟩ := mag_some d h0 h1
  by_cases c0 : u = 0
  · subst c0; exact format_zero b d w hb hs
  by_cases c1 : u < 1000
  · exact format_ns b d u w hb hs (by omega) c1
  by_cases c2 : u < 1000000
  · exact format_us b d u w hb hs (by omega) c2
  by_cases c3 : u < 1000000000
  · exact format_ms b d u w hb hs (by omega) c3
  exact format_s b d u w hb hs (by omega) hu1

end Go.Proofs.YbulkivwFmt
