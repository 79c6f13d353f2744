/-
  (*wire.RunBuffer).Kept: the wrapping sum of what the regions hold; the lock is free again behind it.
-/
import Derived.Test.YbulkivwLocks
import Derived.WalkKit
import Derived.WalkSpells
import Derived.Conc.MuLone
namespace Go.Proofs.Ybulkivw
open Go.RowKit Go.MuLone

/-- The wrapping sum of the first k numbers. -/
def ksum (zs : List Int) (k : Nat) : Int := wrap64 (zs.take k).sum

theorem ksum_zero (zs : List Int) : ksum zs 0 = 0 := by simp [ksum, wrap64]

theorem ksum_succ (zs : List Int) (k : Nat) (h : k < zs.length) : ksum zs (k + 1) = wrap64 (ksum zs k + zs[k]?.getD 0) := by
  unfold ksum
  rw [List.take_succ_eq_append_getElem h, List.sum_append]
  simp [List.getElem?_eq_getElem h]
  unfold wrap64
  omega

set_option maxRecDepth 100000 in
set_option maxHeartbeats 800000 in
theorem kept_some (B r n c : Nat) (zs : List Int) (w : World) (hz : n ≤ zs.length) (hn : n ≤ 1024) (h0 : w.cell? ⟨B, 0, none⟩ = some (.int .i32 0)) (f0 : w.frozen? ⟨B, 0, none⟩ = false)
    (h2 : w.cell? ⟨B, 2, none⟩ = some (.slice (some ⟨r, 0, none⟩) n c)) (hr : r ≠ B)
    (hp : ∀ i, i < n → ∃ g, g ≠ B ∧ w.cell? ⟨r, i, none⟩ = some (.pointer (some ⟨g, 0, none⟩)) ∧ w.cell? ⟨g, 3, none⟩ = some (.int .i64 (zs.getD i 0))) :
    Calls Yba.prog 7 #[.pointer (some ⟨B, 0, none⟩)] w fun e w' => e = .returned (.int .i64 (ksum zs n)) ∧ w' = (w.setCell ⟨B, 0, none⟩ (.int .i32 1)).setCell ⟨B, 0, none⟩ (.int .i32 0) := by
  have h2' : (w.setCell ⟨B, 0, none⟩ (.int .i32 1)).cell? ⟨B, 2, none⟩ = some (.slice (some ⟨r, 0, none⟩) n c) := by rw [World.cell?_setCell_other _ _ _ _ (by simp)]; exact h2
  have hp' : ∀ i, i < n → ∃ g, (w.setCell ⟨B, 0, none⟩ (.int .i32 1)).cell? ⟨r, i, none⟩ = some (.pointer (some ⟨g, 0, none⟩)) ∧ (w.setCell ⟨B, 0, none⟩ (.int .i32 1)).cell? ⟨g, 3, none⟩ = some (.int .i64 (zs.getD i 0)) := by
    intro i hi
    obtain ⟨g, hg, a, b⟩ := hp i hi
    exact ⟨g, by rw [World.cell?_setCell_other _ _ _ _ (by simp)]; exact a, by rw [World.cell?_setCell_other _ _ _ _ (by simp)]; exact b⟩
  have H0 : Hid ((w.setCell ⟨B, 0, none⟩ (.int .i32 1)).cell? ⟨B, 0, none⟩ = some (.int .i32 1)) := World.cell?_setCell_same w ⟨B, 0, none⟩ (.int .i32 1) h0
  have F0 : Hid ((w.setCell ⟨B, 0, none⟩ (.int .i32 1)).frozen? ⟨B, 0, none⟩ = false) := by rw [Hid, World.frozen?_setCell]; exact f0
  clear h2 hp
  go_enter_defers Yba.func7, Yba.ntmps7
  go_wp2_with (go_at_call 12; refine (lock_free muLib ⟨B, 0, none⟩ _ h0 f0).mono ?_; rintro e w' ⟨rfl, rfl⟩)
  clear h0 f0
  generalize hw1 : w.setCell ⟨B, 0, none⟩ (.int .i32 1) = w1 at *
  have HW1 : Hid (w.setCell ⟨B, 0, none⟩ (.int .i32 1) = w1) := hw1
  clear hw1
  go_loop [3, 18] (fun u i => ∃ k : Nat, k ≤ n ∧ i = .int .i64 k ∧ u = .int .i64 (ksum zs k)) (fun _ i => n - (intOf i).toNat)
  case atStart => exact ⟨0, Nat.zero_le _, rfl, by rw [ksum_zero]⟩
  case round =>
    obtain ⟨k, hk, rfl, rfl⟩ := hrel
    by_cases hlt : k < n
    · obtain ⟨g, ha, hb⟩ := hp' k hlt
      have HS : Hid (ksum zs (k + 1) = wrap64 (ksum zs k + zs[k]?.getD 0)) := ksum_succ zs k (by omega)
      clear hp'
      go_wp2
      go_round
      case rel => exact ⟨k + 1, by omega, by go_num, by rw [HS.out]⟩
      case measure => simp [intOf]; omega
    · have hkn : k = n := by omega
      subst hkn
      clear hp'
      go_wp2
      refine leaves_cons (f := 9) (args := #[.pointer (some ⟨B, 0, none⟩)]) (by simp) (by simp [go_sem]) ?_
      refine (unlock_deferred muLib ⟨B, 0, none⟩ .returning _ H0.out F0.out).mono ?_
      rintro e u' w'' ⟨rfl, rfl, rfl⟩
      exact ⟨_, results_tmp rfl _ _ _, rfl, by rw [HW1.out]⟩

set_option maxRecDepth 100000 in
set_option maxHeartbeats 800000 in
theorem kept_none (B c : Nat) (w : World) (h0 : w.cell? ⟨B, 0, none⟩ = some (.int .i32 0)) (f0 : w.frozen? ⟨B, 0, none⟩ = false)
    (h2 : w.cell? ⟨B, 2, none⟩ = some (.slice none 0 c)) :
    Calls Yba.prog 7 #[.pointer (some ⟨B, 0, none⟩)] w fun e w' => e = .returned (.int .i64 0) ∧ w' = (w.setCell ⟨B, 0, none⟩ (.int .i32 1)).setCell ⟨B, 0, none⟩ (.int .i32 0) := by
  have h2' : (w.setCell ⟨B, 0, none⟩ (.int .i32 1)).cell? ⟨B, 2, none⟩ = some (.slice none 0 c) := by rw [World.cell?_setCell_other _ _ _ _ (by simp)]; exact h2
  have H0 : Hid ((w.setCell ⟨B, 0, none⟩ (.int .i32 1)).cell? ⟨B, 0, none⟩ = some (.int .i32 1)) := World.cell?_setCell_same w ⟨B, 0, none⟩ (.int .i32 1) h0
  have F0 : Hid ((w.setCell ⟨B, 0, none⟩ (.int .i32 1)).frozen? ⟨B, 0, none⟩ = false) := by rw [Hid, World.frozen?_setCell]; exact f0
  clear h2
  go_enter_defers Yba.func7, Yba.ntmps7
  go_wp2_with (go_at_call 12; refine (lock_free muLib ⟨B, 0, none⟩ _ h0 f0).mono ?_; rintro e w' ⟨rfl, rfl⟩)
  clear h0 f0
  generalize hw1 : w.setCell ⟨B, 0, none⟩ (.int .i32 1) = w1 at *
  have HW1 : Hid (w.setCell ⟨B, 0, none⟩ (.int .i32 1) = w1) := hw1
  clear hw1
  go_loop [3, 18] (fun u i => i = .int .i64 0 ∧ u = .int .i64 0) (fun _ i => 0)
  case atStart => exact ⟨rfl, rfl⟩
  case round =>
    obtain ⟨rfl, rfl⟩ := hrel
    go_wp2
    refine leaves_cons (f := 9) (args := #[.pointer (some ⟨B, 0, none⟩)]) (by simp) (by simp [go_sem]) ?_
    refine (unlock_deferred muLib ⟨B, 0, none⟩ .returning _ H0.out F0.out).mono ?_
    rintro e u' w'' ⟨rfl, rfl, rfl⟩
    exact ⟨_, results_tmp rfl _ _ _, rfl, by rw [HW1.out]⟩

end Go.Proofs.Ybulkivw
