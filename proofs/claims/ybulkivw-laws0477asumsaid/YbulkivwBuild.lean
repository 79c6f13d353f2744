/-
  zzs0477abuild: a RunBuffer with one region a number.
-/
import Derived.Test.YbulkivwLocks
import Derived.WalkKit
import Derived.WalkSpells
import Derived.Deep.DeepAppendRoom
namespace Go.Proofs.Ybulkivw
open Go.RowKit
theorem info39 : (Yba.prog.info? 39).map (fun i => (i.zero, i.size, i.bytes)) = some (some (.pointer none), 1, 8) := by kernel_rfl

theorem make39 (n : Nat) (h : n ≤ 1024) (w : World) : (Instr.makeSlice 24 (.int .i64 0) (.int .i64 n)).run Yba.prog w = .ok (.slice (some ⟨w.heap.size, 0, none⟩) 0 n) (w.alloc (.cells (madeCells #[.pointer none] n) 39)) := by
  obtain ⟨i0, hi, hz0, hz1, hz2⟩ := info_parts info39
  have hr := run_make (P := Yba.prog) w 24 39 i0 (.pointer none) Yba.underlying24 hi hz0 .i64 .i64 0 n (by omega) (by omega) (by rw [hz2]; omega) (by omega)
  simpa [hz1, Value.cells] using hr


def ptr (g : Nat) : Value := .pointer (some ⟨g, 0, none⟩)

/-- WHAT zzs0477abuild HAS MADE AFTER k ROUNDS, beside the world w0 in which it was called: its RunBuffer in block w0.heap.size (lock free, no regions yet), the row of its regions in the next block, and for each of the first k numbers a region that holds it. -/
structure Regs (w0 : World) (lim : Int) (n : Nat) (zs : List Int) (k : Nat) (gs : List Nat) (wr : World) : Prop where
  len : gs.length = k
  own : wr.ownsRow (w0.heap.size + 1) 39 1 (.slice (some ⟨w0.heap.size + 1, 0, none⟩) k n) k (gs.map ptr)
  reg : ∀ i g, gs[i]? = some g → w0.heap.size + 1 < g ∧ wr.cell? ⟨g, 3, none⟩ = some (.int .i64 (zs.getD i 0))
  buf : wr.heap[w0.heap.size]? = some (.cells #[.int .i32 0, .int .u32 0, .slice none 0 0, .int .i64 lim] 37)
  below : Below w0.heap.size w0 wr
  size : w0.heap.size + 1 < wr.heap.size

theorem Regs.start (w0 : World) (lim : Int) (n : Nat) (zs : List Int) (hn : n ≤ 1024) :
    Regs w0 lim n zs 0 [] ((w0.alloc (.cells #[.int .i32 0, .int .u32 0, .slice none 0 0, .int .i64 lim] 37)).alloc (.cells (madeCells #[.pointer none] n) 39)) := by
  refine ⟨rfl, ?_, fun i g h => by simp at h, ?_, ?_, by simp⟩
  · have := World.ownsRow_made (base := w0.heap.size + 1) (e := 39) (size := 1) (w0.alloc (.cells #[.int .i32 0, .int .u32 0, .slice none 0 0, .int .i64 lim] 37)) (madeCells #[.pointer none] n) n (by simp) (by unfold maxLen; omega) (by rw [size_madeCells]; omega)
    simpa using this
  · rw [Below.heap_alloc _ _ _ (by simp)]
    exact heap_alloc_new _ _
  · exact ((Below.refl _ w0).alloc (Nat.le_refl _) _).alloc (by simp) _

theorem Regs.step {w0 : World} {lim : Int} {n : Nat} {zs : List Int} {k : Nat} {gs : List Nat} {wr w2 : World} (h : Regs w0 lim n zs k gs wr) (a0 a1 a2 a4 a5 a6 : Value) (z : Int) (hzk : z = zs.getD k 0) (S : Obj)
    (hown : w2.ownsRow (w0.heap.size + 1) 39 1 (.slice (some ⟨w0.heap.size + 1, 0, none⟩) (k + 1) n) (k + 1) (gs.map ptr ++ [.pointer (some ⟨wr.heap.size, 0, none⟩)]))
    (hgrow : ((wr.alloc (.cells #[a0, a1, a2, .int .i64 z, a4, a5, a6] 45)).alloc S).grownBy w2 (some (w0.heap.size + 1))) :
    Regs w0 lim n zs (k + 1) (gs ++ [wr.heap.size]) w2 := by
  have hs := h.size
  have hlt : ∀ g, g < wr.heap.size → g ≠ w0.heap.size + 1 → w2.heap[g]? = wr.heap[g]? := fun g hg hne => by
    rw [hgrow.block g (by simp; omega) (by simpa using hne), Below.heap_alloc _ _ _ (by simp; omega), Below.heap_alloc _ _ _ hg]
  refine ⟨by simp [h.len], by simpa [ptr] using hown, fun i g hg => ?_, ?_, ?_, ?_⟩
  · by_cases e : i < gs.length
    · rw [List.getElem?_append_left e] at hg
      obtain ⟨g1, g2⟩ := h.reg i g hg
      refine ⟨g1, ?_⟩
      have gl := World.block_lt_of_cell? wr _ g2
      rw [World.cell?_of_block (w := wr) (hlt g gl (by omega))]
      exact g2
    · have e' : i = k := by
        have hl := (List.getElem?_eq_some_iff.1 hg).1
        simp [h.len] at hl e
        omega
      subst e'
      rw [List.getElem?_append_right (by omega)] at hg
      simp [h.len] at hg
      subst hg
      refine ⟨hs, ?_⟩
      rw [World.cell?_of_block (w := (wr.alloc (.cells #[a0, a1, a2, .int .i64 z, a4, a5, a6] 45)).alloc S) (hgrow.block wr.heap.size (by simp; omega) (by simp; omega))]
      rw [World.cell?_alloc_past _ _ _ (by simp)]
      rw [World.cell?_alloc_at _ _ _ _ rfl, ← hzk]
      rfl
  · rw [hlt _ (by omega) (by omega)]
    exact h.buf
  · exact ((h.below.alloc (by omega) _).alloc (by simp; omega) _).grown hgrow (by simp; omega) (fun j hj => by simp at hj; omega)
  · have := hgrow.size
    simp at this
    omega

set_option maxHeartbeats 800000 in
theorem build_some (x : Addr) (n c : Nat) (lim : Int) (zs : List Int) (w : World) (hz : n ≤ zs.length) (hbig : n ≤ 1024)
    (hc : ∀ j, j < zs.length → w.cell? (x.add j) = some (.int .i64 (zs.getD j 0))) :
    Calls Yba.prog 6 #[.slice (some x) n c, .int .i64 lim] w fun e w' => e = .returned (.tuple #[.pointer (some ⟨w.heap.size, 0, none⟩), .slice (some ⟨w.heap.size + 1, 0, none⟩) n n]) ∧
      ∃ gs wr, Regs w lim n zs n gs wr ∧ w' = wr.setCell ⟨w.heap.size, 2, none⟩ (.slice (some ⟨w.heap.size + 1, 0, none⟩) n n) := by
  have hne : ∀ w, (binOp .neq 22 (.slice (some x) n c) (.slice none 0 0)).run Yba.prog w = .ok (.bool true) w := fun w => run_neq_slice_nil_any w 22 3 _ _ _ _ _ Yba.underlying22
  have hmk := make39 n hbig
  obtain ⟨i0, hi, hz0, hz1, hz2⟩ := info_parts info39
  go_enter Yba.func6, Yba.ntmps6
  go_wp2
  go_loopw [7, 8] (fun v i wr => ∃ (k : Nat) (gs : List Nat), k ≤ n ∧ i = .int .i64 k ∧ v = .slice (some ⟨w.heap.size + 1, 0, none⟩) k n ∧ Hid (Regs w lim n zs k gs wr))
    (fun _ i _ => n - (intOf i).toNat)
  case atStart => exact ⟨0, [], Nat.zero_le _, rfl, rfl, Regs.start w lim n zs hbig⟩
  case round =>
    obtain ⟨k, gs, hk, rfl, rfl, HR⟩ := hrel
    by_cases hlt : k < n
    · have hcx : wr.cell? (x.add k) = some (.int .i64 (zs.getD k 0)) := (HR.out.below.cell (World.block_lt_of_cell? w _ (hc k (by omega)))).trans (hc k (by omega))
      clear hc
      go_wp2_with (at_builtin; refine wpList_append_own_spare _ rfl _ _ 24 rfl (w.heap.size + 1) 39 i0 1 Yba.underlying24 hi hz1 (w.heap.size + 1) k n _ rfl ((HR.out.own.alloc _).alloc _) ⟨wr.heap.size + 1, 0, none⟩ 1 1 [.pointer (some ⟨wr.heap.size, 0, none⟩)] rfl rfl ?c1 ?c2 ?c3 ?_)
      case c1 =>
        intro j u hj
        match j, hj with
        | 0, hj => simp at hj; subst hj; simp [Addr.add]
      case c2 => intro u hu; simp at hu; subst hu; rfl
      case c3 => omega
      intro w2 hown hgrow
      have R : Hid (Regs w lim n zs (k + 1) (gs ++ [wr.heap.size]) w2) := HR.out.step _ _ _ _ _ _ _ (by simp) _ hown hgrow
      clear hown hgrow HR hcx
      go_wp2
      go_roundw
      case rel => exact ⟨k + 1, gs ++ [wr.heap.size], by omega, by go_num, rfl, R⟩
      case measure => simp [intOf]; omega
    · have hkn : k = n := by omega
      subst hkn
      have h2 : wr.cell? ⟨w.heap.size, 2, none⟩ = some (.slice none 0 0) := by simp [World.cell?, HR.out.buf]
      have f2 : wr.frozen? ⟨w.heap.size, 2, none⟩ = false := by simp [World.frozen?, HR.out.buf]
      clear hc hmk hne hi hz0 hz1 hz2
      go_wp2
      go_ret2
      exact ⟨rfl, gs, wr, HR.out, rfl⟩

set_option maxHeartbeats 800000 in
theorem build_none (lim : Int) (w : World) :
    Calls Yba.prog 6 #[.slice none 0 0, .int .i64 lim] w fun e w' => e = .returned (.tuple #[.pointer (some ⟨w.heap.size, 0, none⟩), .slice none 0 0]) ∧
      w' = w.alloc (.cells #[.int .i32 0, .int .u32 0, .slice none 0 0, .int .i64 lim] 37) := by
  have hne : ∀ w, (binOp .neq 22 (.slice none 0 0) (.slice none 0 0)).run Yba.prog w = .ok (.bool false) w := fun w => run_neq_slice_nil_any w 22 3 _ _ _ _ _ Yba.underlying22
  go_enter Yba.func6, Yba.ntmps6
  go_wp2
  go_loop [7, 8] (fun v i => i = .int .i64 0 ∧ v = .slice none 0 0) (fun _ i => 0)
  case atStart => exact ⟨rfl, rfl⟩
  case round =>
    obtain ⟨rfl, rfl⟩ := hrel
    go_wp2
    go_ret2
    exact ⟨rfl, rfl⟩

end Go.Proofs.Ybulkivw
