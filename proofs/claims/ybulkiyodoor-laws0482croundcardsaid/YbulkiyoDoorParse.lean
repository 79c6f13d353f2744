/-
  internal/strconv.ParseUint at base 16, 16 bits, a string of four bytes: what four hexadecimal digits spell, or ErrSyntax.
-/
import Derived.Shelf.Pu.ToError
import Derived.Shelf.Lay
import Derived.Ground.MpProg
import Derived.Test.YbulkiyoDoorProg
import Derived.Test.YbulkiyoDoorChecked
import Derived.Lib.Strings
import Derived.Lib.Walk
import Derived.Lib.ConvBytes
import Derived.Lib.Hide
import Derived.Laws.Strings3
import Derived.Laws.Closers25
import Derived.Laws.Closers25b
import Derived.WalkKit
import Derived.BigCall
import Derived.BigGuard
namespace Go.Proofs.YbulkiyoDoor
open Go.RowKit
set_option linter.unusedVariables false

/-- A byte's worth as a hexadecimal digit. -/
def dg (c : Nat) : Option Nat := if 48 ≤ c ∧ c ≤ 57 then some (c - 48) else if 97 ≤ c ∧ c ≤ 102 then some (c - 87) else if 65 ≤ c ∧ c ≤ 70 then some (c - 55) else none
/-- The number that hexadecimal digits spell. -/
def px : Nat → List UInt8 → Option Nat
  | acc, [] => some acc
  | acc, c :: cs => match dg c.toNat with
    | none => none
    | some d => px (acc * 16 + d) cs

theorem dg_lt {c d : Nat} (h : dg c = some d) : d < 16 := by
  unfold dg at h
  split at h
  · cases h; omega
  · split at h
    · cases h; omega
    · split at h
      · cases h; omega
      · cases h

theorem or32 : ∀ c : Fin 256, (48 ≤ c.val ∧ c.val ≤ 57) ∨ (dg c.val = none ∧ (bits .or .u8 (c.val : Int) 32 < 97 ∨ 102 < bits .or .u8 (c.val : Int) 32)) ∨ ∃ d : Fin 16, dg c.val = some d.val ∧ 10 ≤ d.val ∧ bits .or .u8 (c.val : Int) 32 = d.val + 87 := by decide +kernel

set_option maxHeartbeats 8000000 in
set_option maxRecDepth 100000 in
/-- internal/strconv.ParseUint(t, 16, 16), t of four bytes. -/
theorem parseUint16 (t : ByteArray) (ht : t.size = 4) (w : World) :
    Calls Ybad.prog 8 #[.string t, .int .i64 16, .int .i64 16] w fun e w' => e = .returned (match px 0 t.data.toList with | some n => .tuple #[.int .u64 n, .nilIface] | none => .tuple #[.int .u64 0, .iface 38 (.int .i64 2)]) ∧ w' = Lib.bytesWorld w 5 t := by
  have hemp : t.toList.isEmpty = false := by
    rw [← decide_eq_emptyBytes]
    exact decide_eq_false (fun h => by rw [h] at ht; cases ht)
  have hcv := Lib.run_convert_string_bytes (P := Ybad.prog) w 9 22 5 t (u := .string) Ybad.underlying9 Ybad.underlying22 Ybad.underlying5
  have hB : ∀ j, j < t.size → (Lib.bytesWorld w 5 t).cell? ⟨w.heap.size, j, none⟩ = some (.int .u8 (t.data.toList.getD j 0).toNat) := fun j hj => Lib.bytesWorld_cell w 5 t j hj
  obtain ⟨W1, hW1⟩ : ∃ W1, W1 = Lib.bytesWorld w 5 t := ⟨_, rfl⟩
  rw [← hW1] at hcv hB ⊢
  clear hW1
  obtain ⟨bs, hL⟩ : ∃ bs, bs = t.data.toList := ⟨_, rfl⟩
  have hLn : bs.length = 4 := by rw [hL, ← Lib.size_eq, ht]
  rw [← hL] at hB ⊢
  clear hL
  rw [ht] at hcv hB
  go_enter Ybad.func8, Ybad.ntmps8
  go_wp2
  go_loop [12, 13, 101] (fun vu vn vi => ∃ (k acc : Nat) (a : Int), vu = .bool false ∧ vn = .int .u64 a ∧ vi = .int .i64 k ∧ k ≤ 4 ∧ Hid (a = (acc : Int) ∧ acc < 16 ^ k ∧ px 0 bs = px acc (bs.drop k)))
    (fun _ _ vi => 4 - (intOf vi).toNat)
  case atStart => exact ⟨0, 0, 0, rfl, rfl, rfl, by omega, rfl, by omega, rfl⟩
  case round =>
    obtain ⟨k, acc, a, rfl, rfl, rfl, hk, hh⟩ := hrel
    obtain ⟨ha, hacc, hdec⟩ := hh.out
    clear hh
    have a0 : 0 ≤ a := by omega
    by_cases hkn : k < 4
    · have hc := hB k hkn
      have hdrop : bs.drop k = bs[k]'(by omega) :: bs.drop (k + 1) := List.drop_eq_getElem_cons (by omega)
      have hget : bs.getD k 0 = bs[k]'(by omega) := by simp [List.getD, List.getElem?_eq_getElem (show k < bs.length by omega)]
      rw [hdrop] at hdec
      rw [hget] at hc
      generalize bs[k]'(by omega) = c at hc hdec
      have hc256 : c.toNat < 256 := c.toNat_lt
      clear hB hdrop hget
      have hacc3 : acc < 4096 := by
        have : 16 ^ k ≤ 16 ^ 3 := Nat.pow_le_pow_right (by omega) (by omega)
        omega
      have hpow : 16 ^ (k + 1) = 16 ^ k * 16 := by rw [Nat.pow_succ]
      have a1 : a < 4096 := by omega
      have HS : ∀ d : Nat, dg c.toNat = some d → Hid (a * 16 + (d : Int) = ((acc * 16 + d : Nat) : Int) ∧ acc * 16 + d < 16 ^ (k + 1) ∧ px 0 bs = px (acc * 16 + d) (bs.drop (k + 1))) := fun d hd => by
        have hd16 := dg_lt hd
        refine Lib.hid ⟨by omega, by omega, ?_⟩
        rw [hdec]
        simp only [px, hd]
      have HN : dg c.toNat = none → px 0 bs = none := fun hd => by rw [hdec]; simp only [px, hd]
      obtain ⟨cn, hcn⟩ : ∃ cn, c.toNat = cn := ⟨_, rfl⟩
      rw [hcn] at hc256 HS HN hc
      have h32 := or32 ⟨cn, hc256⟩
      simp only at h32
      clear hdec ha hacc hpow hcn
      rcases h32 with ⟨d0, d1⟩ | ⟨hno, hv⟩ | ⟨d, hd, hd10, hv⟩
      · have HD := HS (cn - 48) (by simp [dg, d0, d1])
        have ed : ((cn - 48 : Nat) : Int) = (cn : Int) - 48 := by omega
        rw [ed] at HD
        clear HS HN ed
        go_wp2
        refine ⟨⟨k + 1, acc * 16 + (cn - 48), a * 16 + ((cn : Int) - 48), rfl, (by first | rfl | (congr 1; omega)), (by first | rfl | (congr 1; omega)), by omega, HD⟩, by simp [intOf]; omega⟩
      · have hnone := HN hno
        have hnd : ¬ (48 ≤ cn ∧ cn ≤ 57) := fun h => by simp [dg, h] at hno
        have hv0 := bits_lo_u8 .or (cn : Int) 32
        have hv1 := bits_hi_u8 .or (cn : Int) 32
        have hu0 := bits_lo_u8 .or 95 32
        have hu1 := bits_hi_u8 .or 95 32
        clear HS HN hno
        go_wp2
        all_goals go_ret2
        all_goals first | exact ⟨rfl, rfl⟩ | exact ⟨by rw [hnone]; rfl, rfl⟩
      · have HD := HS d.val hd
        have hnd : ¬ (48 ≤ cn ∧ cn ≤ 57) := fun h => by
          simp [dg, h] at hd
          omega
        have hne : ¬ cn = 95 := fun h => by simp [dg, h] at hd
        obtain ⟨dn, hdn⟩ : ∃ dn : Nat, d.val = dn := ⟨_, rfl⟩
        have hd16 := d.isLt
        rw [hdn] at HD hv hd10 hd16
        clear HS HN hd hdn
        by_cases hlo : cn < 48
        · go_wp2
          refine ⟨⟨k + 1, acc * 16 + dn, a * 16 + (dn : Int), rfl, (by first | rfl | (congr 1; omega)), (by first | rfl | (congr 1; omega)), by omega, HD⟩, by simp [intOf]; omega⟩
        · have hhi : 57 < cn := by omega
          go_wp2
          refine ⟨⟨k + 1, acc * 16 + dn, a * 16 + (dn : Int), rfl, (by first | rfl | (congr 1; omega)), (by first | rfl | (congr 1; omega)), by omega, HD⟩, by simp [intOf]; omega⟩
    · have hkk : k = 4 := by omega
      subst hkk
      have hF : px acc (bs.drop 4) = some acc := by rw [List.drop_eq_nil_of_le (by omega)]; rfl
      rw [hF] at hdec
      subst ha
      clear hacc hF a0
      go_wp2
      go_ret2
      first | exact ⟨rfl, rfl⟩ | exact ⟨by rw [hdec]; rfl, rfl⟩
end Go.Proofs.YbulkiyoDoor
