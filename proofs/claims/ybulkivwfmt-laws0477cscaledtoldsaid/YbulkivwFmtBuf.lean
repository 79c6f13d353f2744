/-
  (time.Duration).String, as far as this seat wants it: it returns, with SOME string; nothing that was there before has turned. First the two helpers that write digits into a buffer of 32 bytes, from its end.
-/
import Derived.Test.YbulkivwFmtFacts
import Derived.WalkKit
import Derived.Laws.BytesArg
namespace Go.Proofs.YbulkivwFmt
open Go.RowKit

/-- Block b begins with 32 bytes, none of them a constant's. -/
def Buf (b : Nat) (w : World) : Prop := ∀ i, i < 32 → (∃ x : Int, w.cell? ⟨b, i, none⟩ = some (.int .u8 x)) ∧ w.frozen? ⟨b, i, none⟩ = false

theorem Buf.set {b : Nat} {w : World} (h : Buf b w) (i : Nat) (x : Int) : Buf b (w.setCell ⟨b, i, none⟩ (.int .u8 x)) := by
  intro j hj
  obtain ⟨⟨y, hy⟩, hf⟩ := h j hj
  refine ⟨?_, by rw [World.frozen?_setCell]; exact hf⟩
  by_cases e : i = j
  · subst e; exact ⟨x, World.cell?_setCell_same _ _ _ hy⟩
  · exact ⟨y, by rw [World.cell?_setCell_other _ _ _ _ (by simp)]; exact hy⟩

/-- What is kept while block b is written. -/
structure Wrote (b : Nat) (w w' : World) : Prop where
  buf : Buf b w'
  below : Below b w w'
  size : w'.heap.size = w.heap.size

theorem Wrote.refl {b : Nat} {w : World} (h : Buf b w) : Wrote b w w := ⟨h, Below.refl _ _, rfl⟩
theorem Wrote.trans {b : Nat} {u v w : World} (h : Wrote b u v) (k : Wrote b v w) : Wrote b u w := ⟨k.buf, h.below.trans k.below, k.size.trans h.size⟩
theorem Wrote.set {b : Nat} {u w : World} (h : Wrote b u w) (i : Nat) (x : Int) : Wrote b u (w.setCell ⟨b, i, none⟩ (.int .u8 x)) :=
  ⟨h.buf.set i x, h.below.setCell (Nat.le_refl _) _, by simp [World.setCell, h.size]⟩

theorem ret_int {k : IntKind} {a b : Int} (h : a = b) : Ending.returned (.int k a) = .returned (.int k b) := by rw [h]

theorem ret_two {a b c d : Int} (h : a = b) (k : c = d) : Ending.returned (.tuple #[.int .i64 a, .int .u64 c]) = .returned (.tuple #[.int .i64 b, .int .u64 d]) := by rw [h, k]
theorem step10 {u v : Int} {i : Nat} (h : u = v / 10 ^ i) : Hid (u / 10 = v / 10 ^ (i + 1)) := by
  show _ = _
  rw [h, Int.pow_succ, Int.ediv_ediv_of_nonneg (by exact Int.pow_nonneg (by decide))]
theorem wrap_div10 (u : Int) (h0 : 0 ≤ u) (h1 : u < 18446744073709551616) : IntKind.u64.wrap (u.tdiv 10) = u / 10 := by
  rw [Int.tdiv_eq_ediv_of_nonneg h0]
  simp [IntKind.wrap, IntKind.bits, IntKind.signed]
  omega

set_option maxHeartbeats 400000 in
/-- time.fmtInt: at most k digits of a number below 10^k, written ahead of place n. -/
theorem fmtInt_any (b n c k : Nat) (v : Int) (w : World) (hb : Buf b w) (hn : n ≤ 32) (h1 : 1 ≤ k) (hk : k ≤ n) (h0 : 0 ≤ v) (hv : v < 10 ^ k) (hm : v < 18446744073709551616) :
    Calls Ybaf.prog 13 #[.slice (some ⟨b, 0, none⟩) n c, .int .u64 v] w fun e w' => ∃ m : Nat, m ≤ n ∧ n ≤ m + k ∧ e = .returned (.int .i64 m) ∧ Wrote b w w' := by
  by_cases hz : v = 0
  · subst hz
    clear hv hm
    obtain ⟨m, rfl⟩ : ∃ m, n = m + 1 := ⟨n - 1, by omega⟩
    obtain ⟨⟨x, hx⟩, hf⟩ := hb m (by omega)
    have H : Hid (Buf b w) := hb
    clear hb
    go_enter Ybaf.func13, Ybaf.ntmps13
    go_wp2
    go_ret
    exact ⟨m, by omega, by omega, rfl, (Wrote.refl H.out).set _ _⟩
  · have H : Hid (Buf b w) := hb
    have HV : Hid (v < 10 ^ k) := hv
    have HM : Hid (v < 18446744073709551616) := hm
    have hvb : (v == 0) = false := by simp [hz]
    clear hb hv hz hm
    go_enter Ybaf.func13, Ybaf.ntmps13
    go_wp2
    go_loopw [1, 5] (fun vv i wr => ∃ (u : Int) (m r : Nat), vv = .int .u64 u ∧ i = .int .i64 m ∧ 0 ≤ u ∧ Hid (u < 10 ^ r) ∧ Hid (u < 18446744073709551616) ∧ m ≤ n ∧ r ≤ m ∧ n + r ≤ m + k ∧ Hid (Wrote b w wr))
      (fun vv _ _ => (intOf vv).toNat)
    case atStart => exact ⟨v, n, k, rfl, rfl, h0, HV, HM, Nat.le_refl _, hk, by omega, Wrote.refl H.out⟩
    case round =>
      obtain ⟨u, m, r, rfl, rfl, hu0, HU, HM, hmn, hrm, hnr, HW⟩ := hrel
      by_cases hlt : 0 < u
      · obtain ⟨r', rfl⟩ : ∃ r', r = r' + 1 := by
          cases r with
          | zero => have := HU.out; simp at this; omega
          | succ r' => exact ⟨r', rfl⟩
        obtain ⟨m', rfl⟩ : ∃ m', m = m' + 1 := ⟨m - 1, by omega⟩
        obtain ⟨⟨x, hx⟩, hf⟩ := HW.out.buf m' (by omega)
        go_wp2
        go_roundw
        case rel =>
          refine ⟨u / 10, m', r', by rw [wrap_div10 u hu0 HM.out], by first | rfl | go_num, by omega, ?_, by have := HM.out; show _ < _; omega, by omega, by omega, by omega, HW.out.set _ _⟩
          have := HU.out
          show u / 10 < 10 ^ r'
          rw [Int.pow_succ] at this
          omega
        case measure => simp only [intOf, wrap_div10 u hu0 HM.out]; omega
      · go_wp2
        go_ret
        exact ⟨m, hmn, by omega, rfl, HW.out⟩

set_option maxHeartbeats 800000 in
/-- time.fmtFrac: at most p digits and a point, written ahead of place n; the number is cut by 10^p. -/
theorem fmtFrac_any (b n c p : Nat) (v : Int) (w : World) (hb : Buf b w) (hn : n ≤ 32) (hp9 : p ≤ 9) (hk : p + 1 ≤ n) (h0 : 0 ≤ v) (hm : v < 18446744073709551616) :
    Calls Ybaf.prog 12 #[.slice (some ⟨b, 0, none⟩) n c, .int .u64 v, .int .i64 p] w fun e w' => ∃ m : Nat, m ≤ n ∧ n ≤ m + (p + 1) ∧ e = .returned (.tuple #[.int .i64 m, .int .u64 (v / 10 ^ p)]) ∧ Wrote b w w' := by
  have H : Hid (Buf b w) := hb
  have HM : Hid (v < 18446744073709551616) := hm
  clear hb hm
  go_enter Ybaf.func12, Ybaf.ntmps12
  go_wp2
  go_loopw [1, 8, 9, 10] (fun vv ww pp ii wr => ∃ (u : Int) (m i : Nat) (pr : Bool), vv = .int .u64 u ∧ ww = .int .i64 m ∧ pp = .bool pr ∧ ii = .int .i64 i ∧ i ≤ p ∧ 0 ≤ u ∧ Hid (u = v / 10 ^ i) ∧ Hid (u < 18446744073709551616) ∧ m ≤ n ∧ n ≤ m + i ∧ Hid (Wrote b w wr))
      (fun _ _ _ ii _ => p - (intOf ii).toNat)
  case atStart => exact ⟨v, n, 0, false, rfl, rfl, rfl, rfl, by omega, h0, by simp [Hid], HM, Nat.le_refl _, by omega, Wrote.refl H.out⟩
  case round =>
    obtain ⟨u, m, i, pr, rfl, rfl, rfl, rfl, hip, hu0, HU, HM, hmn, hnm, HW⟩ := hrel
    by_cases hlt : i < p
    · obtain ⟨m', rfl⟩ : ∃ m', m = m' + 1 := ⟨m - 1, by omega⟩
      obtain ⟨⟨x, hx⟩, hf⟩ := HW.out.buf m' (by omega)
      cases pr
      · by_cases hd : u % 10 = 0
        · have hd' : (u % 10 != 0) = false := by simp [hd]
          go_wp2
          go_roundw
          case rel => exact ⟨u / 10, m' + 1, i + 1, false, by rw [wrap_div10 u hu0 HM.out], by first | rfl | go_num, rfl, by first | rfl | go_num, by omega, by omega, step10 HU.out, by have := HM.out; show _ < _; omega, by omega, by omega, HW.out⟩
          case measure => simp [intOf]; omega
        · have hd' : (u % 10 != 0) = true := by simp [hd]
          go_wp2
          go_roundw
          case rel => exact ⟨u / 10, m', i + 1, true, by rw [wrap_div10 u hu0 HM.out], by first | rfl | go_num, rfl, by first | rfl | go_num, by omega, by omega, step10 HU.out, by have := HM.out; show _ < _; omega, by omega, by omega, HW.out.set _ _⟩
          case measure => simp [intOf]; omega
      · go_wp2
        go_roundw
        case rel => exact ⟨u / 10, m', i + 1, true, by rw [wrap_div10 u hu0 HM.out], by first | rfl | go_num, rfl, by first | rfl | go_num, by omega, by omega, step10 HU.out, by have := HM.out; show _ < _; omega, by omega, by omega, HW.out.set _ _⟩
        case measure => simp [intOf]; omega
    · have hi : i = p := by omega
      have HU' : Hid (u = v / 10 ^ p) := by rw [← hi]; exact HU
      clear hi HU
      cases pr
      · go_wp2
        go_ret2
        exact ⟨m, hmn, by omega, ret_two rfl HU'.out, HW.out⟩
      · obtain ⟨m', rfl⟩ : ∃ m', m = m' + 1 := ⟨m - 1, by omega⟩
        obtain ⟨⟨x, hx⟩, hf⟩ := HW.out.buf m' (by omega)
        go_wp2
        go_ret2
        exact ⟨m', by omega, by omega, ret_two rfl HU'.out, HW.out.set _ _⟩

/-- The same with a bound on what is left in the number's place. -/
theorem fmtFrac_le (b n c p : Nat) (v K : Int) (w : World) (hb : Buf b w) (hn : n ≤ 32) (hp9 : p ≤ 9) (hk : p + 1 ≤ n) (h0 : 0 ≤ v) (hm : v < 18446744073709551616) (hK : v < K * 10 ^ p) :
    Calls Ybaf.prog 12 #[.slice (some ⟨b, 0, none⟩) n c, .int .u64 v, .int .i64 p] w fun e w' => ∃ (m : Nat) (q : Int), m ≤ n ∧ n ≤ m + (p + 1) ∧ 0 ≤ q ∧ q < K ∧ e = .returned (.tuple #[.int .i64 m, .int .u64 q]) ∧ Wrote b w w' := by
  refine (fmtFrac_any b n c p v w hb hn hp9 hk h0 hm).mono ?_
  rintro e w' ⟨m, h1, h2, he, hw⟩
  have hp : (0 : Int) < 10 ^ p := Int.pow_pos (by decide)
  exact ⟨m, v / 10 ^ p, h1, h2, Int.ediv_nonneg h0 (Int.le_of_lt hp), Int.ediv_lt_of_lt_mul hp hK, he, hw⟩

end Go.Proofs.YbulkivwFmt
