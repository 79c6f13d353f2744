/-
  wire.LawS0477ASum returns true; nothing that was there before has turned.
-/
import Derived.Test.YbulkivwBuild
import Derived.Test.YbulkivwKept
namespace Go.Proofs.Ybulkivw
open Go.RowKit

/-- The wrapping sum of the first n numbers from place j on. -/
def rsum (zs : List Int) (n j : Nat) : Int := wrap64 ((zs.take n).drop j).sum

theorem rsum_end (zs : List Int) (n : Nat) : rsum zs n n = 0 := by
  unfold rsum
  rw [List.drop_eq_nil_of_le (by simp; omega)]
  simp [wrap64]

theorem rsum_step (zs : List Int) (n j : Nat) (h : j < n) (hz : n ≤ zs.length) : rsum zs n j = wrap64 (rsum zs n (j + 1) + zs[j]?.getD 0) := by
  unfold rsum
  have hl : j < (zs.take n).length := by simp; omega
  rw [List.drop_eq_getElem_cons hl, List.sum_cons]
  simp only [List.getElem_take, List.getElem?_eq_getElem (show j < zs.length by omega), Option.getD_some]
  unfold wrap64
  omega

theorem rsum_all (zs : List Int) (n : Nat) : rsum zs n 0 = ksum zs n := by simp [rsum, ksum]

theorem ret_true {b : Bool} (h : b = true) : Ending.returned (.bool b) = .returned (.bool true) := by rw [h]

set_option maxHeartbeats 400000 in
theorem sum_long (a : Option Addr) (n c : Nat) (w : World) (h : 1024 < n) (hm : n ≤ 9223372036854775807) :
    Calls Yba.prog 3 #[.slice a n c] w fun e w' => e = .returned (.bool true) ∧ Below w.heap.size w w' := by
  go_enter Yba.func3, Yba.ntmps3
  go_wp2
  go_ret
  exact ⟨rfl, Below.refl _ _⟩

set_option maxHeartbeats 800000 in
theorem sum_none (w : World) : Calls Yba.prog 3 #[.slice none 0 0] w fun e w' => e = .returned (.bool true) ∧ Below w.heap.size w w' := by
  go_enter Yba.func3, Yba.ntmps3
  go_wp2_with fail
  refine (build_none 0 _).mono ?_
  rintro e w1 ⟨rfl, rfl⟩
  go_wp2
  go_loop [5, 6] (fun u i => i = .int .i64 (-1) ∧ u = .int .i64 0) (fun _ i => 0)
  case atStart => exact ⟨rfl, rfl⟩
  case round =>
    obtain ⟨rfl, rfl⟩ := hrel
    go_wp2_with fail
    refine (kept_none w.heap.size 0 _ (by go_simp) (by go_simp) (by go_simp)).mono ?_
    rintro e w1 ⟨rfl, rfl⟩
    go_wp2
    go_ret
    exact ⟨rfl, (Below.refl _ w).alloc (Nat.le_refl _) _⟩

set_option maxHeartbeats 800000 in
theorem sum_some (x : Addr) (n c : Nat) (zs : List Int) (w : World) (hz : n ≤ zs.length) (hbig : n ≤ 1024)
    (hc : ∀ j, j < zs.length → w.cell? (x.add j) = some (.int .i64 (zs.getD j 0))) :
    Calls Yba.prog 3 #[.slice (some x) n c] w fun e w' => e = .returned (.bool true) ∧ Below w.heap.size w w' := by
  go_enter Yba.func3, Yba.ntmps3
  go_wp2_with fail
  refine (build_some x n c 0 zs _ hz hbig hc).mono ?_
  rintro e w1 ⟨rfl, gs, wr, hR, hw1⟩
  have hb1 : Below w.heap.size w w1 := by rw [hw1]; exact hR.below.setCell (Nat.le_refl _) _
  have hcx : ∀ j, j < zs.length → w1.cell? (x.add j) = some (.int .i64 (zs.getD j 0)) := fun j hj => (hb1.cell (World.block_lt_of_cell? w _ (hc j hj))).trans (hc j hj)
  have HB : Hid (Below w.heap.size w w1) := hb1
  have h0 : w1.cell? ⟨w.heap.size, 0, none⟩ = some (.int .i32 0) := by rw [hw1, World.cell?_setCell_other _ _ _ _ (by simp)]; simp [World.cell?, hR.buf]
  have f0 : w1.frozen? ⟨w.heap.size, 0, none⟩ = false := by rw [hw1, World.frozen?_setCell]; simp [World.frozen?, hR.buf]
  have h2 : w1.cell? ⟨w.heap.size, 2, none⟩ = some (.slice (some ⟨w.heap.size + 1, 0, none⟩) n n) := by rw [hw1]; exact World.cell?_setCell_same (u := .slice none 0 0) _ _ _ (by simp [World.cell?, hR.buf])
  have hp : ∀ i, i < n → ∃ g, g ≠ w.heap.size ∧ w1.cell? ⟨w.heap.size + 1, i, none⟩ = some (.pointer (some ⟨g, 0, none⟩)) ∧ w1.cell? ⟨g, 3, none⟩ = some (.int .i64 (zs.getD i 0)) := by
    intro i hi
    obtain ⟨g, hg⟩ : ∃ g, gs[i]? = some g := ⟨gs[i]'(by rw [hR.len]; exact hi), List.getElem?_eq_getElem _⟩
    obtain ⟨g1, g2⟩ := hR.reg i g hg
    refine ⟨g, by omega, ?_, ?_⟩
    · have := hR.own.cells (g := w.heap.size + 1) rfl i (ptr g) (by simp [hg])
      rw [hw1, World.cell?_setCell_other _ _ _ _ (by simp)]
      have hadd : (⟨w.heap.size + 1, 0, none⟩ : Addr).add i = ⟨w.heap.size + 1, i, none⟩ := by unfold Addr.add; split <;> simp_all
      rw [hadd] at this
      exact this
    · rw [hw1, World.cell?_setCell_other _ _ _ _ (by simp)]
      exact g2
  have HK := kept_some w.heap.size (w.heap.size + 1) n n zs w1 hz hbig h0 f0 h2 (by omega) hp
  have HK' : Hid (Calls Yba.prog 7 #[.pointer (some ⟨w.heap.size, 0, none⟩)] w1 fun e w' => e = .returned (.int .i64 (ksum zs n)) ∧ w' = (w1.setCell ⟨w.heap.size, 0, none⟩ (.int .i32 1)).setCell ⟨w.heap.size, 0, none⟩ (.int .i32 0)) := HK
  clear hw1 hR hb1 h0 f0 h2 hp hc HK
  go_wp2
  go_loop [5, 6] (fun u i => ∃ j : Nat, j ≤ n ∧ i = .int .i64 ((j : Int) - 1) ∧ u = .int .i64 (rsum zs n j)) (fun _ i => (intOf i + 1).toNat)
  case atStart => exact ⟨n, Nat.le_refl _, rfl, by rw [rsum_end]⟩
  case round =>
    obtain ⟨j, hj, rfl, rfl⟩ := hrel
    by_cases hlt : 0 < j
    · obtain ⟨j', rfl⟩ : ∃ j', j = j' + 1 := ⟨j - 1, by omega⟩
      have hcj := hcx j' (by omega)
      have HS : Hid (rsum zs n j' = wrap64 (rsum zs n (j' + 1) + zs[j']?.getD 0)) := rsum_step zs n j' (by omega) hz
      clear hcx
      go_wp2
      go_round
      case rel => exact ⟨j', by omega, by go_num, by rw [HS.out]⟩
      case measure => simp [intOf]
    · have hj0 : j = 0 := by omega
      subst hj0
      clear hcx
      go_wp2_with fail
      refine HK'.out.mono ?_
      rintro e w2 ⟨rfl, rfl⟩
      clear HK'
      go_wp2
      go_ret
      exact ⟨ret_true (by rw [rsum_all]; simp), (HB.out.setCell (Nat.le_refl _) _).setCell (Nat.le_refl _) _⟩
end Go.Proofs.Ybulkivw
