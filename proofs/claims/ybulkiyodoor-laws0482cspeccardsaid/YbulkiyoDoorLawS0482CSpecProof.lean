/-
  The row of LawS0482CSpec, and its tied card. The frame is the guide's own way at this function's number and types ('laid' rows: Derived/Test/MaProofs.lean; the card: Derived/Test/ToyasCard.lean).
-/
import Derived.Test.YbulkiyoDoorRows
import Derived.Test.YbulkiyoDoorCards
import Derived.Test.YbulkiyoDoorTie
import Derived.Test.YbulkiyoDoorSpec
import Derived.Test.YbulkiyoDoorLaid
import Derived.SevenTiedAt
namespace Go.Proofs.YbulkiyoDoor.lawS0482CSpec
open Go.ChangeShapes Go.WideShapes Go.ChangeAt Go.RowKit
set_option linter.unusedVariables false

/-! ### The walk -/
theorem walk (a0 : Option Addr) (len0 cap0 : Nat) (w : World) (w0 : IsRow w a0 len0 cap0) (hL : laidMet Ybad.prog laid5 w) :
    Calls Ybad.prog 3 #[.slice a0 len0 cap0] w fun e w' => e = .returned (.bool true) ∧ Below w.heap.size w w' := by
  by_cases h4 : len0 < 4
  · exact spec_short a0 len0 cap0 h4 w
  · rcases w0 with ⟨_, rfl, _⟩ | ⟨x, zs, rfl, h1, h2, h3, h5⟩
    · omega
    · obtain ⟨ev, hv, hev⟩ := errSyntax_of_laid hL
      have hm : cap0 ≤ 9223372036854775807 := by simp only [maxLen] at h2; omega
      refine spec_long x len0 cap0 (zs.take 4) (by rw [List.length_take]; omega) (by omega) h1 (by omega) ev w hv hev (fun j hj => ?_)
      rw [List.length_take] at hj
      have hjz : j < zs.length := by omega
      rw [h5 j hjz]
      simp [List.getD_eq_getElem?_getD, List.getElem?_eq_getElem hjz]

/-! ### The row's step -/
set_option maxRecDepth 100000 in
theorem lifted (os : Os) (started : os.Started) (H : Type) (enc : TypeId × Value → H) :
    ReturnsInHanded {} Ybad.checked os 3 .any (fun w args => (Rows.lawS0482CSpecSpec.pre enc Ybad.prog Ybad.f3 [] false w args ∧ laidMet Ybad.prog laid5 w) ∧ sizedMet enc Ybad.prog Ybad.f3 (OpenSpec.ofChange Rows.lawS0482CSpecSpec) false w args)
      (Rows.lawS0482CSpecSpec.post enc Ybad.prog Ybad.f3 false true false false) := by
  refine returnsInHanded_of_change_and (C := Ybad.checked) (X := fun w _ => laidMet Ybad.prog laid5 w) (fun _ _ _ hh h => h.of_heap hh) own started (by kernel_rfl) Ybad.func3
    (ChangeSpec.witness_at (enc := enc) (C := Ybad.checked) (os := os) (X := fun w _ => laidMet Ybad.prog laid5 w) false (laidWorld os) #[.slice none 0 0] 8 rfl (by kernel_rfl) (by kernel_rfl) (by kernel_rfl) (by kernel_rfl) (by kernel_rfl) (laidWorld_met os _)) ?_
  intro W base args ds gs before hval0 hW _ _ hL _
  have hval : ∀ (j : Nat) t v, Ybad.f3.params[j]? = some t → args[j]? = some v → Value.okWide Ybad.prog W .any base t v := hval0
  have hW' := hW
  obtain ⟨p, q, hA0, hV, rfl, hfz, hnd⟩ := hW
  have hA : DataW.TrodAll enc Ybad.prog W 0 (fun _ => true) true Ybad.f3.params.toList args.toList ds p := hA0
  rw [Ybad.params3] at hA hval
  obtain ⟨v0, vs0, d0, ds0, p0, q0, hargs, rfl, rfl, h0, r0⟩ := trodAll_cons hA
  obtain ⟨rfl, rfl, rfl⟩ := trodAll_nil r0
  obtain rfl : args = #[v0] := by cases args; simp_all
  obtain ⟨rfl, rfl⟩ := trodVars_none hV
  obtain ⟨a0, len0, cap0, rfl⟩ := okWide_slice Ybad.underlying22 (hval 0 22 v0 rfl rfl)
  have k0 := h0
  have lt0 : ∀ x ∈ p0, x.block < W.heap.size := by obtain ⟨m, hm⟩ := k0; exact DataW.trod_lt m _ _ _ hm
  have w0 : IsRow W a0 len0 cap0 := by
    obtain ⟨fuel, hf⟩ := h0
    exact open_bytes (fun _ => rfl) (by simpa [Value.cells] using hf)
  clear hA0 hval0
  refine (walk a0 len0 cap0 W w0 hL).mono fun e W' ⟨he, bel⟩ => ?_
  subst he
  exact ⟨_, rfl, _, _, _, [], _, [], hW', trodAll_mk1 (shut_bool Ybad.underlying4 _), (trodAll_cons_mk (Below.trod laidOut (by kernel_rfl) (of_decide_eq_true (by kernel_rfl)) k0 bel lt0) trodAll_mk0), rfl, bel.frame _, fun h => by cases h⟩

theorem over : Rows.LawS0482CSpecSaid :=
  OpenClaim.holds_of_wide 3 Ybad.f3 rfl rfl rfl rfl rfl rfl rfl ⟨rfl, rfl, rfl, rfl, rfl⟩ rfl rfl rfl rfl rfl (by kernel_rfl) Ybad.func3 (by kernel_rfl)
    (of_decide_eq_true (by kernel_rfl)) (by unfold Func.isWrapper; first | (rw [if_pos (by decide +kernel)]; kernel_rfl) | (rw [if_neg (by decide +kernel)]; exact ⟨rfl, rfl⟩))
    (fun os started H enc _ => lifted os started H enc)

/-- ████ THE STATEMENT ████ -/
theorem proved : Rows.LawS0482CSpecCardSaid :=
  Claim7.holds_tied_plain_at .later [] [.data, .data, .data, .sentinel, .sentinel] true (true, "415c4b79b21205b2923b5d73f67b13f9b9fc0e751cc03446116bf6f308b009ee") true
    over (fun _ h => by cases h) (by kernel_rfl) (fun _ h => by cases h) lawS0482CSpec_row_tie rfl ⟨rfl, rfl⟩ (by kernel_rfl) rfl
    (fun f fn hf hfn => by
      obtain rfl : f = 3 := Option.some.inj ((show Ybad.prog.funcNamed "example.com/tracegauge/tracegauge.LawS0482CSpec" = some 3 by kernel_rfl).symm.trans hf) |>.symm
      obtain rfl : fn = Ybad.f3 := (Option.some.inj (Ybad.func3.symm.trans hfn)).symm
      exact ⟨by kernel_rfl, fun j t ht => by
        rw [Ybad.params3] at ht
        have h3 : t = 22 := by
          rcases j with _ | j
          · simpa using ht.symm
          · simp at ht
        subst h3
        exact (show Ybad.prog.wantsStandIn 22 = false by kernel_rfl)⟩)
    (by kernel_rfl)
#print axioms proved
end Go.Proofs.YbulkiyoDoor.lawS0482CSpec
