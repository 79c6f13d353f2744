/-
  The row of LawS0482BAppends: the frame is the guide's own way at this function's number and types (the members' slice of structs opened element by element), closed by 'Below'.
-/
import Derived.Test.YbulkiyoRows
import Derived.Test.YbulkiyoLaw
import Derived.WalkKit
import Derived.ProofKit
import Derived.OpenShut
import Derived.ShutString
import Derived.ChangeOld
import Derived.Below
import Derived.Deep.Slices
import Derived.Deep.Strs
namespace Go.Proofs.Ybulkiyo.lawS0482BAppends
open Go.ChangeShapes Go.WideShapes Go.ChangeAt Go.RowKit
set_option linter.unusedVariables false

theorem own : ownKnob Yba.prog.godebug = none := by kernel_rfl
theorem laidOut : laidOutB Yba.prog = true := by kernel_rfl

/-- What the walk is told of the members: nil, or a slice of structs of three bytes. -/
def IsMem (w : World) (a : Option Addr) (len cap : Nat) : Prop :=
  (a = none ∧ len = 0 ∧ cap = 0) ∨ ∃ x ms, a = some x ∧ len ≤ cap ∧ cap ≤ maxLen ∧ len ≤ ms.length ∧ Mem3 x len ms w

theorem u8_in {a : Int} (h : (Lit.int .u8 a).wf = true) : 0 ≤ a ∧ a ≤ 255 := by
  simp [Lit.wf, IntKind.min, IntKind.max, IntKind.signed, IntKind.bits] at h
  omega

theorem open_members {H : Type} {enc : TypeId × Value → H} {w : World} {base : Nat} {spare : Nat → Bool} {held : Bool} {a : Option Addr} {len cap fuel : Nat} {x : DataW H × List MemPlace}
    (h : DataW.trod enc Yba.prog w base spare held fuel 33 [.slice a len cap] = some x) : IsMem w a len cap := by
  rcases Go.Deep.open_slice Yba.underlying33 h with ⟨hcs, _⟩ | ⟨y, l, c, m, n, D, Pl, hcs, _, hl, hm, hmm, _, hx⟩
  · simp at hcs
    exact .inl hcs
  · simp at hcs
    obtain ⟨rfl, rfl, rfl⟩ := hcs
    have h3 : Yba.prog.cellsOf 49 = 3 := by kernel_rfl
    have h1 : Yba.prog.cellsOf 5 = 1 := by kernel_rfl
    rw [h3] at hx
    have hlm : len ≤ m := by rw [hmm]; split <;> omega
    have key : ∀ i, i < len → ∃ t : Int × Int × Int, (0 ≤ t.1 ∧ t.1 ≤ 255) ∧ (0 ≤ t.2.1 ∧ t.2.1 ≤ 255) ∧ (0 ≤ t.2.2 ∧ t.2.2 ≤ 255) ∧
        w.cell? (y.add (i * 3)) = some (.int .u8 t.1) ∧ w.cell? ((y.add (i * 3)).add 1) = some (.int .u8 t.2.1) ∧ w.cell? ((y.add (i * 3)).add 2) = some (.int .u8 t.2.2) := by
      intro i hi
      obtain ⟨cs', hc, ht⟩ := hx i (by omega)
      obtain ⟨_, hlen, hcell⟩ := World.cells?_some hc
      obtain ⟨y0, y1, y2, k, _, _, f0, f1, f2⟩ := Go.Deep.trod_struct3 Yba.underlying49 ht
      simp only [h1] at f0 f1 f2
      obtain ⟨a0, e0, _, w0⟩ := DataW.trod_int Yba.underlying5 f0
      obtain ⟨a1, e1, _, w1⟩ := DataW.trod_int Yba.underlying5 f1
      obtain ⟨a2, e2, _, w2⟩ := DataW.trod_int Yba.underlying5 f2
      match cs', hlen with
      | [u0, u1, u2], _ =>
        simp at e0 e1 e2
        subst e0 e1 e2
        refine ⟨(a0, a1, a2), u8_in w0, u8_in w1, u8_in w2, ?_, ?_, ?_⟩
        · have := hcell 0 (by omega); simpa [Addr.add] using this
        · have := hcell 1 (by omega); simpa [Addr.add] using this
        · have := hcell 2 (by omega); simpa [Addr.add] using this
    obtain ⟨f, hf⟩ := Classical.axiomOfChoice (r := fun (i : Nat) (t : Int × Int × Int) => i < len → (0 ≤ t.1 ∧ t.1 ≤ 255) ∧ (0 ≤ t.2.1 ∧ t.2.1 ≤ 255) ∧ (0 ≤ t.2.2 ∧ t.2.2 ≤ 255) ∧
        w.cell? (y.add (i * 3)) = some (.int .u8 t.1) ∧ w.cell? ((y.add (i * 3)).add 1) = some (.int .u8 t.2.1) ∧ w.cell? ((y.add (i * 3)).add 2) = some (.int .u8 t.2.2)) (fun i => by
      by_cases hi : i < len
      · obtain ⟨t, ht⟩ := key i hi
        exact ⟨t, fun _ => ht⟩
      · exact ⟨(0, 0, 0), fun h => absurd h hi⟩)
    refine .inr ⟨y, (List.range len).map f, rfl, hl, hm, by simp, fun j hj => ?_⟩
    obtain ⟨q1, q2, q3, q4, q5, q6⟩ := hf j hj
    exact ⟨(f j).1, (f j).2.1, (f j).2.2, by simp [List.getElem?_map, List.getElem?_range hj], q1, q2, q3, q4, q5, q6⟩

/-! ### The walk -/
theorem walk (a0 : Option Addr) (len0 cap0 : Nat) (a1 : Int) (a2 : Bool) (a3 a4 a5 a6 : Int) (w : World) (w0 : IsMem w a0 len0 cap0) (w1 : (Lit.int .u8 a1).wf = true) (w3 : (Lit.int .u8 a3).wf = true) (w4 : (Lit.int .u8 a4).wf = true) (w5 : (Lit.int .u8 a5).wf = true) (w6 : (Lit.int .u8 a6).wf = true) :
    Calls Yba.prog 5 #[.slice a0 len0 cap0, .int .u8 a1, .bool a2, .int .u8 a3, .int .u8 a4, .int .u8 a5, .int .u8 a6] w fun e w' => e = .returned (.bool true) ∧ Below w.heap.size w w' := by
  by_cases hl : 1024 < len0
  · refine law_long a0 len0 cap0 a1 a3 a4 a5 a6 a2 w hl ?_
    rcases w0 with ⟨_, rfl, _⟩ | ⟨x, ms, _, h1, h2, _⟩
    · omega
    · simp only [maxLen] at h2; omega
  · rcases w0 with ⟨rfl, rfl, rfl⟩ | ⟨x, ms, rfl, h1, h2, h3, h4⟩
    · exact law_any none ⟨0, 0, none⟩ 0 0 a1 a3 a4 a5 a6 a2 [] w (by omega) (by simp) (u8_in w1) (u8_in w3) (u8_in w4) (u8_in w5) (u8_in w6) (fun j hj => absurd hj (by omega)) (fun h => absurd h (by omega))
    · exact law_any (some x) x len0 cap0 a1 a3 a4 a5 a6 a2 ms w (by omega) h3 (u8_in w1) (u8_in w3) (u8_in w4) (u8_in w5) (u8_in w6) h4 (fun _ => rfl)

/-! ### The row's step -/
set_option maxRecDepth 100000 in
theorem lifted (os : Os) (started : os.Started) (H : Type) (enc : TypeId × Value → H) :
    ReturnsInHanded {} Yba.checked os 5 .any (Rows.lawS0482BAppendsSpec.pre6 enc Yba.prog Yba.f5 Rows.lawS0482BAppendsRow.domain false) (Rows.lawS0482BAppendsSpec.post enc Yba.prog Yba.f5 false true false false) := by
  refine returnsInHanded_of_change (C := Yba.checked) own started (by kernel_rfl) Yba.func5
    (ChangeSpec.witness6 (enc := enc) (C := Yba.checked) false ⟨#[], #[.slice none 0 0, .int .u8 0, .bool false, .int .u8 0, .int .u8 0, .int .u8 0, .int .u8 0], []⟩ 8 (by kernel_rfl) (by kernel_rfl) (by kernel_rfl) (by kernel_rfl)) ?_
  intro W base args ds gs before hval0 hW hcnd _
  have hval : ∀ (j : Nat) t v, Yba.f5.params[j]? = some t → args[j]? = some v → Value.okWide Yba.prog W .any base t v := hval0
  have hW' := hW
  obtain ⟨p, q, hA0, hV, rfl, hfz, hnd⟩ := hW
  have hA : DataW.TrodAll enc Yba.prog W 0 (fun _ => true) true Yba.f5.params.toList args.toList ds p := hA0
  rw [Yba.params5] at hA hval
  obtain ⟨v0, vs0, d0, ds0, p0, q0, hargs, rfl, rfl, h0, r0⟩ := trodAll_cons hA
  obtain ⟨v1, vs1, d1, ds1, p1, q1, rfl, rfl, rfl, h1, r1⟩ := trodAll_cons r0
  obtain ⟨v2, vs2, d2, ds2, p2, q2, rfl, rfl, rfl, h2, r2⟩ := trodAll_cons r1
  obtain ⟨v3, vs3, d3, ds3, p3, q3, rfl, rfl, rfl, h3, r3⟩ := trodAll_cons r2
  obtain ⟨v4, vs4, d4, ds4, p4, q4, rfl, rfl, rfl, h4, r4⟩ := trodAll_cons r3
  obtain ⟨v5, vs5, d5, ds5, p5, q5, rfl, rfl, rfl, h5, r5⟩ := trodAll_cons r4
  obtain ⟨v6, vs6, d6, ds6, p6, q6, rfl, rfl, rfl, h6, r6⟩ := trodAll_cons r5
  obtain ⟨rfl, rfl, rfl⟩ := trodAll_nil r6
  obtain rfl : args = #[v0, v1, v2, v3, v4, v5, v6] := by cases args; simp_all
  obtain ⟨rfl, rfl⟩ := trodVars_none hV
  obtain ⟨a0, len0, cap0, rfl⟩ := okWide_slice Yba.underlying33 (hval 0 33 v0 rfl rfl)
  obtain ⟨a1, rfl, rfl, rfl, w1⟩ := open_int Yba.underlying5 (hval 1 5 v1 rfl rfl) h1
  obtain ⟨a2, rfl, rfl, rfl⟩ := open_bool Yba.underlying4 (hval 2 4 v2 rfl rfl) h2
  obtain ⟨a3, rfl, rfl, rfl, w3⟩ := open_int Yba.underlying5 (hval 3 5 v3 rfl rfl) h3
  obtain ⟨a4, rfl, rfl, rfl, w4⟩ := open_int Yba.underlying5 (hval 4 5 v4 rfl rfl) h4
  obtain ⟨a5, rfl, rfl, rfl, w5⟩ := open_int Yba.underlying5 (hval 5 5 v5 rfl rfl) h5
  obtain ⟨a6, rfl, rfl, rfl, w6⟩ := open_int Yba.underlying5 (hval 6 5 v6 rfl rfl) h6
  have k0 := h0
  have lt0 : ∀ x ∈ p0, x.block < W.heap.size := by obtain ⟨m, hm⟩ := k0; exact DataW.trod_lt m _ _ _ hm
  have w0 : IsMem W a0 len0 cap0 := by
    obtain ⟨fuel, hf⟩ := h0
    exact open_members (by simpa [Value.cells] using hf)
  clear hA0 hval0
  simp only [List.append_nil] at hW'
  refine (walk a0 len0 cap0 a1 a2 a3 a4 a5 a6 W w0 w1 w3 w4 w5 w6).mono fun e W' ⟨he, bel⟩ => ?_
  subst he
  exact ⟨_, rfl, _, _, _, [], _, [], hW', trodAll_mk1 (shut_bool Yba.underlying4 _), (trodAll_cons_mk (Below.trod laidOut (by kernel_rfl) (of_decide_eq_true (by kernel_rfl)) k0 bel lt0) (trodAll_cons_mk (shut_int Yba.underlying5 w1) (trodAll_cons_mk (shut_bool Yba.underlying4 _) (trodAll_cons_mk (shut_int Yba.underlying5 w3) (trodAll_cons_mk (shut_int Yba.underlying5 w4) (trodAll_cons_mk (shut_int Yba.underlying5 w5) (trodAll_cons_mk (shut_int Yba.underlying5 w6) trodAll_mk0))))))), rfl, bel.frame _, fun h => by cases h⟩

theorem over : Rows.lawS0482BAppendsRow.holds Yba.pinned (OpenSpec.ofChange Rows.lawS0482BAppendsSpec) :=
  OpenClaim.holds_of_wide 5 Yba.f5 rfl rfl rfl rfl rfl rfl rfl ⟨rfl, rfl, rfl, rfl, rfl⟩ rfl rfl rfl rfl rfl (by kernel_rfl) Yba.func5 (by kernel_rfl)
    (of_decide_eq_true (by kernel_rfl)) (by unfold Func.isWrapper; first | (rw [if_pos (by decide +kernel)]; kernel_rfl) | (rw [if_neg (by decide +kernel)]; exact ⟨rfl, rfl⟩))
    (fun os started H enc _ => lifted os started H enc)

/-- ████ THE STATEMENT ████ -/
theorem proved : Rows.LawS0482BAppendsSaid := over
#print axioms proved
end Go.Proofs.Ybulkiyo.lawS0482BAppends
