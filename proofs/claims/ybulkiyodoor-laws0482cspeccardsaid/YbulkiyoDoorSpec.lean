/-
  LawS0482CSpec: the walk.
-/
import Derived.Test.YbulkiyoDoorHex
namespace Go.Proofs.YbulkiyoDoor
open Go.RowKit
set_option linter.unusedVariables false

set_option maxHeartbeats 4000000 in
set_option maxRecDepth 100000 in
/-- zzs0482cdig: a byte's worth as a hexadecimal digit, and whether it is one. -/
theorem dig_any (c : Nat) (hc : c < 256) (w : World) :
    Calls Ybad.prog 6 #[.int .u8 c] w fun e w' => e = .returned (.tuple #[.int .u32 ((dg c).getD 0 : Nat), .bool (dg c).isSome]) ∧ w' = w := by
  by_cases h1 : 48 ≤ c ∧ c ≤ 57
  · obtain ⟨h1, h2⟩ := h1
    have hd : dg c = some (c - 48) := by simp [dg, h1, h2]
    have ed : ((c - 48 : Nat) : Int) = (c : Int) - 48 := by omega
    rw [hd]
    simp only [Option.getD_some, Option.isSome_some, ed]
    clear hd ed
    go_enter Ybad.func6, Ybad.ntmps6
    go_wp2
    go_ret2
    exact ⟨rfl, rfl⟩
  · by_cases h2 : 97 ≤ c ∧ c ≤ 102
    · obtain ⟨h2, h3⟩ := h2
      have hd : dg c = some (c - 87) := by simp [dg, h1, h2, h3]
      have ed : ((c - 87 : Nat) : Int) = (c : Int) - 97 + 10 := by omega
      rw [hd]
      simp only [Option.getD_some, Option.isSome_some, ed]
      clear hd ed h1
      have h57 : 57 < c := by omega
      go_enter Ybad.func6, Ybad.ntmps6
      go_wp2
      go_ret2
      exact ⟨rfl, rfl⟩
    · by_cases h3 : 65 ≤ c ∧ c ≤ 70
      · have hd : dg c = some (c - 55) := by simp [dg, h1, h2, h3]
        obtain ⟨h3, h4⟩ := h3
        have ed : ((c - 55 : Nat) : Int) = (c : Int) - 65 + 10 := by omega
        rw [hd]
        simp only [Option.getD_some, Option.isSome_some, ed]
        clear hd ed h1 h2
        have h57 : 57 < c := by omega
        have h97 : c < 97 := by omega
        go_enter Ybad.func6, Ybad.ntmps6
        go_wp2
        go_ret2
        exact ⟨rfl, rfl⟩
      · have hd : dg c = none := by simp [dg, h1, h2, h3]
        rw [hd]
        simp only [Option.getD_none, Option.isSome_none]
        clear hd
        go_enter Ybad.func6, Ybad.ntmps6
        go_wp2
        all_goals (try (exfalso; omega))
        all_goals go_ret2
        all_goals exact ⟨rfl, rfl⟩

set_option maxHeartbeats 4000000 in
set_option maxRecDepth 100000 in
theorem spec_short (a : Option Addr) (n c : Nat) (h4 : n < 4) (w : World) :
    Calls Ybad.prog 3 #[.slice a n c] w fun e w' => e = .returned (.bool true) ∧ Below w.heap.size w w' := by
  go_enter Ybad.func3, Ybad.ntmps3
  go_wp2_with (go_at_call 5; refine (hexRune_short a n c h4 _).mono ?_; rintro e w' ⟨rfl, rfl⟩)
  go_ret
  exact ⟨rfl, Below.refl _ _⟩

set_option maxHeartbeats 4000000 in
set_option maxRecDepth 100000 in
theorem spec_long (x : Addr) (n c : Nat) (bs : List UInt8) (hbs : bs.length = 4) (h4 : 4 ≤ n) (hnc : n ≤ c) (hn : n ≤ 9223372036854775807) (ev : Value) (w : World) (hv : w.cell? ⟨0, 0, none⟩ = some ev) (hev : ev = .nilIface ∨ ∃ te pe, ev = .iface te pe)
    (hc : ∀ j (hj : j < bs.length), w.cell? (x.add j) = some (.int .u8 (bs[j].toNat : Int))) :
    Calls Ybad.prog 3 #[.slice (some x) n c] w fun e w' => e = .returned (.bool true) ∧ Below w.heap.size w w' := by
  have hH := hexRune_long x n c bs hbs h4 hnc hn ev w hv hev hc
  obtain ⟨⟨r, ok⟩, hr⟩ : ∃ r, hx bs = r := ⟨_, rfl⟩
  rw [hr] at hH
  simp only at hH
  clear hv hev
  go_enter Ybad.func3, Ybad.ntmps3
  go_wp2_with (go_at_call 5; refine hH.mono ?_; rintro e W1 ⟨rfl, HB0⟩)
  have HB : Hid (Below w.heap.size w W1) := HB0
  have hcW : ∀ j (hj : j < bs.length), W1.cell? (x.add j) = some (.int .u8 (bs[j].toNat : Int)) := fun j hj => (HB0.cell (World.block_lt_of_cell? w _ (hc j hj))).trans (hc j hj)
  clear hc hH HB0
  go_loop [5, 6, 7] (fun vv vg vi => ∃ (k acc : Nat) (a : Int) (g : Bool), vv = .int .u32 a ∧ vg = .bool g ∧ vi = .int .i64 k ∧ k ≤ 4 ∧ Hid (a = (acc : Int) ∧ acc < 16 ^ k ∧ (g = true → px 0 bs = px acc (bs.drop k)) ∧ (g = false → px 0 bs = none))) (fun _ _ vi => 4 - (intOf vi).toNat)
  case atStart => exact ⟨0, 0, 0, true, rfl, rfl, rfl, by omega, rfl, by omega, fun _ => rfl, fun h => by cases h⟩
  case round =>
    obtain ⟨k, acc, a, g, rfl, rfl, rfl, hk, hh⟩ := hrel
    obtain ⟨ha, hacc, hg1, hg0⟩ := hh.out
    clear hh
    have a0 : 0 ≤ a := by omega
    by_cases hkn : k < 4
    · have hck := hcW k (by omega)
      have hdrop : bs.drop k = bs[k]'(by omega) :: bs.drop (k + 1) := List.drop_eq_getElem_cons (by omega)
      rw [hdrop] at hg1
      generalize bs[k]'(by omega) = b at hck hg1
      have hb256 : b.toNat < 256 := b.toNat_lt
      have hacc3 : acc < 4096 := by
        have : 16 ^ k ≤ 16 ^ 3 := Nat.pow_le_pow_right (by omega) (by omega)
        omega
      have hpow : 16 ^ (k + 1) = 16 ^ k * 16 := by rw [Nat.pow_succ]
      have a1 : a < 4096 := by omega
      have hdig := fun W => dig_any b.toNat hb256 W
      have hki : (k : Int) < (n : Int) := by omega
      cases hd : dg b.toNat with
      | some d =>
        have hd16 := dg_lt hd
        have HN : Hid (a * 16 + (d : Int) = ((acc * 16 + d : Nat) : Int) ∧ acc * 16 + d < 16 ^ (k + 1) ∧ (g = true → px 0 bs = px (acc * 16 + d) (bs.drop (k + 1))) ∧ (g = false → px 0 bs = none)) := by
          refine ⟨by omega, by omega, fun h => ?_, hg0⟩
          rw [hg1 h]
          simp only [px, hd]
        rw [hd] at hdig
        simp only [Option.getD_some, Option.isSome_some] at hdig
        clear hd hg1 hg0 ha hacc hpow hdrop hcW hr
        go_wp2_with (go_at_call 6; refine (hdig _).mono ?_; rintro e w' ⟨rfl, rfl⟩)
        refine ⟨⟨k + 1, acc * 16 + d, a * 16 + (d : Int), g, (by first | rfl | (congr 1; omega)), rfl, (by first | rfl | (congr 1; omega)), by omega, HN⟩, by simp [intOf]; omega⟩
      | none =>
        have HN : Hid (a * 16 = ((acc * 16 : Nat) : Int) ∧ acc * 16 < 16 ^ (k + 1) ∧ (false = true → px 0 bs = px (acc * 16) (bs.drop (k + 1))) ∧ (false = false → px 0 bs = none)) := by
          refine ⟨by omega, by omega, fun h => (by cases h), fun _ => ?_⟩
          cases g
          · exact hg0 rfl
          · rw [hg1 rfl]; simp only [px, hd]
        rw [hd] at hdig
        simp only [Option.getD_none, Option.isSome_none] at hdig
        clear hd hg1 hg0 ha hacc hpow hdrop hcW hr
        go_wp2_with (go_at_call 6; refine (hdig _).mono ?_; rintro e w' ⟨rfl, rfl⟩)
        refine ⟨⟨k + 1, acc * 16, a * 16, false, (by first | rfl | (congr 1; omega)), rfl, (by first | rfl | (congr 1; omega)), by omega, ⟨HN.out.1, HN.out.2.1, HN.out.2.2.1, fun _ => HN.out.2.2.2 trivial⟩⟩, by simp [intOf]; omega⟩
    · have hkk : k = 4 := by omega
      subst hkk
      have hacc3 : a < 65536 := by omega
      cases g
      · have h0 := hg0 rfl
        have hrr : r = 0 ∧ ok = false := by
          simp [hx, h0] at hr
          exact ⟨hr.1.symm, hr.2⟩
        obtain ⟨rfl, rfl⟩ := hrr
        clear hr hg0 hg1 h0 hcW
        go_wp2
        go_ret
        exact ⟨rfl, HB.out⟩
      · have h0 := hg1 rfl
        rw [List.drop_eq_nil_of_le (by omega)] at h0
        have hrr : r = a ∧ ok = true := by
          simp [hx, h0, px] at hr
          exact ⟨by omega, hr.2⟩
        obtain ⟨rfl, rfl⟩ := hrr
        clear hr hg0 hg1 h0 hcW
        go_wp2
        go_ret
        exact ⟨rfl, HB.out⟩
end Go.Proofs.YbulkiyoDoor
