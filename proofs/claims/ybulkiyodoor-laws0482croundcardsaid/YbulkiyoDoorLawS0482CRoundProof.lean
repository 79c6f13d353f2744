/-
  The row of LawS0482CRound, and its tied card. The frame is the guide's own way at this function's number and types ('laid' rows: Derived/Test/MaProofs.lean; the card: Derived/Test/ToyasCard.lean).
-/
import Derived.Test.YbulkiyoDoorRows
import Derived.Test.YbulkiyoDoorCards
import Derived.Test.YbulkiyoDoorTie
import Derived.Test.YbulkiyoDoorRound
import Derived.Test.YbulkiyoDoorLaid
import Derived.SevenTiedAt
namespace Go.Proofs.YbulkiyoDoor.lawS0482CRound
open Go.ChangeShapes Go.WideShapes Go.ChangeAt Go.RowKit
set_option linter.unusedVariables false

/-! ### The walk -/
theorem walk (v : Int) (up : Bool) (a0 : Option Addr) (len0 cap0 : Nat) (w : World) (wv : (Lit.int .u16 v).wf = true) (w0 : IsRow w a0 len0 cap0) (hL : laidMet Ybad.prog laid5 w) :
    Calls Ybad.prog 4 #[.int .u16 v, .bool up, .slice a0 len0 cap0] w fun e w' => e = .returned (.bool true) ∧ Below w.heap.size w w' := by
  have hvb : 0 ≤ v ∧ v ≤ 65535 := by
    simp [Lit.wf, IntKind.min, IntKind.max, IntKind.signed, IntKind.bits] at wv
    omega
  by_cases hl : 1024 < len0
  · refine round_long v up a0 len0 cap0 hl ?_ w
    rcases w0 with ⟨_, rfl, _⟩ | ⟨x, zs, _, h1, h2, _⟩
    · omega
    · simp only [maxLen] at h2; omega
  · obtain ⟨ev, hv, hev⟩ := errSyntax_of_laid hL
    have hnc : len0 ≤ cap0 := by
      rcases w0 with ⟨_, rfl, rfl⟩ | ⟨x, zs, _, h1, _⟩
      · omega
      · exact h1
    obtain ⟨d3, e3⟩ : ∃ d : Nat, v / 4096 % 16 = (d : Int) := ⟨(v / 4096 % 16).toNat, by omega⟩
    obtain ⟨d2, e2⟩ : ∃ d : Nat, v / 256 % 16 = (d : Int) := ⟨(v / 256 % 16).toNat, by omega⟩
    obtain ⟨d1, e1⟩ : ∃ d : Nat, v / 16 % 16 = (d : Int) := ⟨(v / 16 % 16).toNat, by omega⟩
    obtain ⟨d0, e0⟩ : ∃ d : Nat, v % 16 = (d : Int) := ⟨(v % 16).toNat, by omega⟩
    rcases w0 with ⟨rfl, rfl, rfl⟩ | ⟨x, zs, rfl, h1, h2, h3, h5⟩
    · exact round_any v up none 0 0 d3 d2 d1 d0 (by omega) (by omega) (by omega) (by omega) (by omega) (by omega) hnc [] ev w hv hev (Or.inl ⟨rfl, rfl, rfl⟩)
    · refine round_any v up (some x) len0 cap0 d3 d2 d1 d0 (by omega) (by omega) (by omega) (by omega) (by omega) (by omega) hnc (zs.take len0) ev w hv hev (Or.inr ⟨x, rfl, by rw [List.length_take]; omega, fun j hj => ?_⟩)
      rw [List.length_take] at hj
      have hjz : j < zs.length := by omega
      rw [h5 j hjz]
      simp [List.getD_eq_getElem?_getD, List.getElem?_eq_getElem hjz]

/-! ### The row's step -/
set_option maxRecDepth 100000 in
theorem lifted (os : Os) (started : os.Started) (H : Type) (enc : TypeId × Value → H) :
    ReturnsInHanded {} Ybad.checked os 4 .any (fun w args => (Rows.lawS0482CRoundSpec.pre enc Ybad.prog Ybad.f4 [] false w args ∧ laidMet Ybad.prog laid5 w) ∧ sizedMet enc Ybad.prog Ybad.f4 (OpenSpec.ofChange Rows.lawS0482CRoundSpec) false w args)
      (Rows.lawS0482CRoundSpec.post enc Ybad.prog Ybad.f4 false true false false) := by
  refine returnsInHanded_of_change_and (C := Ybad.checked) (X := fun w _ => laidMet Ybad.prog laid5 w) (fun _ _ _ hh h => h.of_heap hh) own started (by kernel_rfl) Ybad.func4
    (ChangeSpec.witness_at (enc := enc) (C := Ybad.checked) (os := os) (X := fun w _ => laidMet Ybad.prog laid5 w) false (laidWorld os) #[.int .u16 0, .bool false, .slice none 0 0] 8 rfl (by kernel_rfl) (by kernel_rfl) (by kernel_rfl) (by kernel_rfl) (by kernel_rfl) (laidWorld_met os _)) ?_
  intro W base args ds gs before hval0 hW _ _ hL _
  have hval : ∀ (j : Nat) t v, Ybad.f4.params[j]? = some t → args[j]? = some v → Value.okWide Ybad.prog W .any base t v := hval0
  have hW' := hW
  obtain ⟨p, q, hA0, hV, rfl, hfz, hnd⟩ := hW
  have hA : DataW.TrodAll enc Ybad.prog W 0 (fun _ => true) true Ybad.f4.params.toList args.toList ds p := hA0
  rw [Ybad.params4] at hA hval
  obtain ⟨v0, vs0, d0, ds0, p0, q0, hargs, rfl, rfl, h0, r0⟩ := trodAll_cons hA
  obtain ⟨v1, vs1, d1, ds1, p1, q1, rfl, rfl, rfl, h1, r1⟩ := trodAll_cons r0
  obtain ⟨v2, vs2, d2, ds2, p2, q2, rfl, rfl, rfl, h2, r2⟩ := trodAll_cons r1
  obtain ⟨rfl, rfl, rfl⟩ := trodAll_nil r2
  obtain rfl : args = #[v0, v1, v2] := by cases args; simp_all
  obtain ⟨rfl, rfl⟩ := trodVars_none hV
  obtain ⟨a0, rfl, rfl, rfl, wv⟩ := open_int Ybad.underlying29 (hval 0 29 v0 rfl rfl) h0
  obtain ⟨a1, rfl, rfl, rfl⟩ := open_bool Ybad.underlying4 (hval 1 4 v1 rfl rfl) h1
  obtain ⟨a2, len2, cap2, rfl⟩ := okWide_slice Ybad.underlying22 (hval 2 22 v2 rfl rfl)
  have k2 := h2
  have lt2 : ∀ x ∈ p2, x.block < W.heap.size := by obtain ⟨m, hm⟩ := k2; exact DataW.trod_lt m _ _ _ hm
  have w2 : IsRow W a2 len2 cap2 := by
    obtain ⟨fuel, hf⟩ := h2
    exact open_bytes (fun _ => rfl) (by simpa [Value.cells] using hf)
  clear hA0 hval0
  refine (walk a0 a1 a2 len2 cap2 W wv w2 hL).mono fun e W' ⟨he, bel⟩ => ?_
  subst he
  exact ⟨_, rfl, _, _, _, [], _, [], hW', trodAll_mk1 (shut_bool Ybad.underlying4 _), (trodAll_cons_mk (shut_int Ybad.underlying29 wv) (trodAll_cons_mk (shut_bool Ybad.underlying4 _) (trodAll_cons_mk (Below.trod laidOut (by kernel_rfl) (of_decide_eq_true (by kernel_rfl)) k2 bel lt2) trodAll_mk0))), rfl, bel.frame _, fun h => by cases h⟩

theorem over : Rows.LawS0482CRoundSaid :=
  OpenClaim.holds_of_wide 4 Ybad.f4 rfl rfl rfl rfl rfl rfl rfl ⟨rfl, rfl, rfl, rfl, rfl⟩ rfl rfl rfl rfl rfl (by kernel_rfl) Ybad.func4 (by kernel_rfl)
    (of_decide_eq_true (by kernel_rfl)) (by unfold Func.isWrapper; first | (rw [if_pos (by decide +kernel)]; kernel_rfl) | (rw [if_neg (by decide +kernel)]; exact ⟨rfl, rfl⟩))
    (fun os started H enc _ => lifted os started H enc)

/-- ████ THE STATEMENT ████ -/
theorem proved : Rows.LawS0482CRoundCardSaid :=
  Claim7.holds_tied_plain_at .later [] [.data, .data, .data, .sentinel, .sentinel] true (true, "415c4b79b21205b2923b5d73f67b13f9b9fc0e751cc03446116bf6f308b009ee") true
    over (fun _ h => by cases h) (by kernel_rfl) (fun _ h => by cases h) lawS0482CRound_row_tie rfl ⟨rfl, rfl⟩ (by kernel_rfl) rfl
    (fun f fn hf hfn => by
      obtain rfl : f = 4 := Option.some.inj ((show Ybad.prog.funcNamed "example.com/tracegauge/tracegauge.LawS0482CRound" = some 4 by kernel_rfl).symm.trans hf) |>.symm
      obtain rfl : fn = Ybad.f4 := (Option.some.inj (Ybad.func4.symm.trans hfn)).symm
      exact ⟨by kernel_rfl, fun j t ht => by
        rw [Ybad.params4] at ht
        have h3 : t = 29 ∨ t = 4 ∨ t = 22 := by
          rcases j with _ | _ | _ | j
          · exact Or.inl (by simpa using ht.symm)
          · exact Or.inr (Or.inl (by simpa using ht.symm))
          · exact Or.inr (Or.inr (by simpa using ht.symm))
          · simp at ht
        rcases h3 with rfl | rfl | rfl
        · exact (show Ybad.prog.wantsStandIn 29 = false by kernel_rfl)
        · exact (show Ybad.prog.wantsStandIn 4 = false by kernel_rfl)
        · exact (show Ybad.prog.wantsStandIn 22 = false by kernel_rfl)⟩)
    (by kernel_rfl)
#print axioms proved
end Go.Proofs.YbulkiyoDoor.lawS0482CRound
