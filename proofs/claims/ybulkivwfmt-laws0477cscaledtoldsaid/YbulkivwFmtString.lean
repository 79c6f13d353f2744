/-
  (time.Duration).String: it returns a string of at most 32 bytes; nothing that was there before has turned.
-/
import Derived.Test.YbulkivwFmtFormat
namespace Go.Proofs.YbulkivwFmt
open Go.RowKit

theorem buf_new (w : World) (t : TypeId) (cs : Array Value) (hs : cs.size = 32) (hc : ∀ v ∈ cs.toList, v = .int .u8 0) : Buf w.heap.size (w.alloc (.cells cs t)) := by
  intro i hi
  have hg : cs[i]? = some (.int .u8 0) := by
    rw [Array.getElem?_eq_getElem (by omega)]
    exact congrArg some (hc _ (by simp))
  refine ⟨⟨0, ?_⟩, ?_⟩
  · simp [World.cell?_alloc_at, hg]
  · exact World.frozen?_alloc_at cs t _ i rfl

/-- A value for each place: a list of values. -/
theorem list_of {p : Nat → Int → Prop} (n : Nat) (h : ∀ i, i < n → ∃ x, p i x) : ∃ xs : List Int, xs.length = n ∧ ∀ i, i < n → p i (xs.getD i 0) := by
  induction n with
  | zero => exact ⟨[], rfl, fun i hi => absurd hi (by omega)⟩
  | succ n ih =>
    obtain ⟨xs, hl, hp⟩ := ih fun i hi => h i (by omega)
    obtain ⟨x, hx⟩ := h n (by omega)
    refine ⟨xs ++ [x], by simp [hl], fun i hi => ?_⟩
    by_cases e : i < n
    · have := hp i e
      simp only [List.getD_eq_getElem?_getD] at this ⊢
      rwa [List.getElem?_append_left (by omega)]
    · have e' : i = xs.length := by omega
      subst e'
      simpa [hl] using hx

set_option maxHeartbeats 400000 in
theorem string_any (d : Int) (w : World) (h0 : -9223372036854775808 ≤ d) (h1 : d ≤ 9223372036854775807) :
    Calls Ybaf.prog 9 #[.int .i64 d] w fun e w' => ∃ s : ByteArray, e = .returned (.string s) ∧ s.size ≤ 32 ∧ Below w.heap.size w w' := by
  have H0 : Hid (-9223372036854775808 ≤ d) := h0
  have H1 : Hid (d ≤ 9223372036854775807) := h1
  clear h0 h1
  go_enter Ybaf.func9, Ybaf.ntmps9
  go_wp2_with fail
  refine (format_any w.heap.size d _ (buf_new w _ _ rfl (by simp)) H0.out H1.out).mono ?_
  rintro e w1 ⟨m, hm, rfl, hW⟩
  have hmi : (m : Int) ≤ 32 := by omega
  have hbel : Below w.heap.size w w1 := ((Below.refl _ w).alloc (Nat.le_refl _) _).trans hW.below
  have hne : ¬ (32 = m) := by omega
  obtain ⟨xs, hl, hxs⟩ : ∃ xs : List Int, xs.length = 32 - m ∧ ∀ i, i < 32 - m → w1.cell? ⟨w.heap.size, m + i, none⟩ = some (.int .u8 (xs.getD i 0)) := by
    exact list_of (p := fun i x => w1.cell? ⟨w.heap.size, m + i, none⟩ = some (.int .u8 x)) (32 - m) fun i hi => (hW.buf (m + i) (by omega)).1
  have hcv := run_convert_bytes_arg (P := Ybaf.prog) w1 39 5 Ybaf.underlying39 Ybaf.underlying5 w.heap.size m (32 - m) (32 - m) xs hl hxs 9 Ybaf.underlying9
  have HB : Hid (Below w.heap.size w w1) := hbel
  have HL : Hid (xs.length = 32 - m) := hl
  clear hbel hW hxs hl
  go_wp2
  go_ret
  exact ⟨strOfNums xs, rfl, by rw [strOfNums_size, HL.out]; omega, HB.out⟩
end Go.Proofs.YbulkivwFmt
