/-
  The call of (*search).advance that LawS0482BAppends makes, and the rows behind it: no walk in this text.
-/
import Derived.Test.YbulkiyoAdvance
import Derived.Test.YbulkiyoSet
import Derived.Test.YbulkiyoMem
namespace Go.Proofs.Ybulkiyo
open Go.RowKit
set_option linter.unusedVariables false

/-- A row that leads into a block whose first cell holds a slice: it does not, where its own first element is none. -/
theorem row_not_table {w : World} {e : TypeId} {size : Nat} {v : Value} {m t B : Nat} {xs : List Value} (hown : w.ownsRow 0 e size v m xs) (hsz : 0 < size)
    (hfull : ∀ g, v.ownBlock = some g → B ≤ g ∨ ∃ q, v = .slice q m m) (ht : t < B) {q0 : Option Addr} {l0 c0 : Nat} (hc : w.cell? ⟨t, 0, none⟩ = some (.slice q0 l0 c0))
    (hx : ∀ u, xs[0]? = some u → ∀ q l c, u ≠ .slice q l c) : ∀ g, v.ownBlock = some g → g ≠ t := by
  intro g hg e1
  subst e1
  rcases hfull g hg with h | ⟨q, hq⟩
  · omega
  · rcases hown.2 with ⟨h1, _⟩ | ⟨g', cap, cur, hv, _, hh, hnc, _, hcs, htake⟩
    · rw [h1] at hg; simp [Value.ownBlock] at hg
    · rw [hv] at hq
      cases hq
      rw [hv] at hg
      simp [Value.ownBlock] at hg
      subst hg
      by_cases hm : m = 0
      · subst hm
        have : cur.size = 0 := by rw [hcs]; simp
        have : cur = #[] := Array.size_eq_zero_iff.1 this
        subst this
        simp [World.cell?, hh] at hc
      · have hl : 0 < xs.length := by rw [hown.1]; exact Nat.mul_pos (by omega) hsz
        have h0 := hown.cells (g := g') (by rw [hv]; rfl) 0 xs[0] (by simp [hl])
        have hadd : (⟨g', 0, none⟩ : Addr).add 0 = ⟨g', 0, none⟩ := by unfold Addr.add; simp
        rw [hadd, hc] at h0
        cases h0' : xs[0] with
        | slice a b c => exact hx _ (by rw [List.getElem?_eq_getElem hl]) a b c h0'
        | _ => rw [h0'] at h0; cases h0

/-- What the call leaves of the cells of a slice: by number. -/
theorem row_cells {w : World} {e : TypeId} {size g m cap : Nat} {xs : List Value} (h : w.ownsRow 0 e size (.slice (some ⟨g, 0, none⟩) m cap) m xs) {j : Nat} {u : Value} (hu : xs[j]? = some u) : w.cell? ⟨g, j, none⟩ = some u := by
  have h0 := h.cells (g := g) rfl j u hu
  have hadd : (⟨g, 0, none⟩ : Addr).add j = ⟨g, j, none⟩ := by unfold Addr.add; split <;> simp_all
  rw [hadd] at h0
  exact h0

theorem call_advance (N M oi n : Nat) (out : Bool) (ms : List (Int × Int × Int)) (L A D : Nat → Bool) (sf : Nat → Int) (pl zs : Array Value) (w2 w3 : World) (hn : n ≤ 1024) (hoi : oi < 4)
    (hM : M = N + 19) (hN : N + 20 ≤ w2.heap.size) (hsf : ∀ k, k < 4 → sf k = 1 ∨ sf k = 2)
    (hpl : pl[13]? = some (.slice (some ⟨M, 0, none⟩) 4 4)) (hzs : 34 < zs.size)
    (HT2 : Tab M (M + 1) 52 3 (mrows N (ms.take n)) w2) (HC : Cls N L A D w2)
    (HPA : ∀ k, k < 4 → w2.cell? ⟨N + 1, k, none⟩ = some (.slice (some ⟨N + 5 + 4 * k, 0, none⟩) 1 1) ∧ w2.frozen? ⟨N + 1, k, none⟩ = false ∧ w2.heap[N + 5 + 4 * k]? = some (oneObj (sf k)))
    (HEX : ∃ q l c, w2.cell? ⟨N + 1 + 1, 0, none⟩ = some (.slice q l c))
    (HO : Out w2.heap.size (N + 1 + 1) w2 w3) (W : World)
    (hW : (w3.alloc (.cells pl 63)).alloc (.cells ((zs.setIfInBounds 0 (.pointer (some ⟨w3.heap.size, 0, none⟩))).setIfInBounds 34 (.slice (some ⟨N + 1, 0, none⟩) 4 4)) 78) = W) :
    Calls Yba.prog 10 #[.pointer (some ⟨w3.heap.size + 1, 0, none⟩), .int .i64 oi, .bool out] W fun e w' => e = .returned (.tuple #[]) ∧
      Tab (N + 1) W.heap.size 21 1 (i32s (advs L A D (fun o => [sf o]) (mls (ms.take n) oi))) w' ∧ Out W.heap.size (N + 1) W w' := by
  have g1 : w3.grownBy W none := by rw [← hW]; exact grown_none_trans (grown_alloc _ _) (grown_alloc _ _)
  have hz : W.heap.size = w3.heap.size + 2 := by rw [← hW]; simp
  have h23 := HO.size
  have s0 : W.cell? ⟨w3.heap.size + 1, 0, none⟩ = some (.pointer (some ⟨w3.heap.size, 0, none⟩)) := by
    rw [← hW, World.cell?_alloc_at _ _ _ _ (by simp), Array.getElem?_setIfInBounds_ne (by omega), Array.getElem?_setIfInBounds_self_of_lt (by omega)]
  have s34 : W.cell? ⟨w3.heap.size + 1, 34, none⟩ = some (.slice (some ⟨N + 1, 0, none⟩) 4 4) := by
    rw [← hW, World.cell?_alloc_at _ _ _ _ (by simp), Array.getElem?_setIfInBounds_self_of_lt (by simp; omega)]
  have p13 : W.cell? ⟨w3.heap.size, 13, none⟩ = some (.slice (some ⟨M, 0, none⟩) 4 4) := by
    rw [← hW, World.cell?_alloc_past _ _ _ (by simp), World.cell?_alloc_at _ _ _ _ rfl]
    exact hpl
  have kc : ∀ b o, b < w2.heap.size → b ≠ N + 1 + 1 → W.cell? ⟨b, o, none⟩ = w2.cell? ⟨b, o, none⟩ := fun b o h1 h2 => by
    rw [World.cell?_of_block (w := w3) (g1.block b (by omega) (by simp)), HO.cell _ h1 h2]
  have kf : ∀ b o, b < w2.heap.size → b ≠ N + 1 + 1 → W.frozen? ⟨b, o, none⟩ = w2.frozen? ⟨b, o, none⟩ := fun b o h1 h2 => by
    rw [World.frozen?_of_block (w := w3) (g1.block b (by omega) (by simp)), HO.frozen _ h1 h2]
  have kb : ∀ b, b < w2.heap.size → b ≠ N + 1 + 1 → W.heap[b]? = w2.heap[b]? := fun b h1 h2 => by
    rw [g1.block b (by omega) (by simp), HO.block _ h1 h2]
  have hgood : Good (fun o => [sf o]) := fun o ho => ⟨by simp, fun x hx => by
    simp at hx
    subst hx
    rcases hsf o ho with h | h <;> omega⟩
  have htab : Tab (N + 1) W.heap.size 21 1 (i32s fun o => [sf o]) W := by
    refine tab_of _ _ (fun j => N + 5 + 4 * j) sf W (fun k hk => ?_) (fun i j h => by omega) (fun j => by omega) (by omega)
    obtain ⟨h1, h2, h3⟩ := HPA k hk
    exact ⟨by rw [kc _ _ (by omega) (by omega)]; exact h1, by rw [kf _ _ (by omega) (by omega)]; exact h2, by rw [kb _ (by omega) (by omega)]; exact h3⟩
  have hcls : Cls N L A D W := HC.out (HO.trans (Out.grown g1 (by omega) (fun b hb => by cases hb))) (by omega) (by omega)
  obtain ⟨v, m, hv, hvf, hown, hfull⟩ := HT2.row oi hoi
  have mo : W.cell? ⟨M, oi, none⟩ = some v := by rw [kc _ _ (by omega) (by omega)]; exact hv
  have hlen : (mls (ms.take n) oi).length = m := by
    have e1 := hown.1
    simp only [mrows] at e1
    rw [flat_len] at e1
    omega
  have hm : m ≤ 1024 := by
    have e2 := mls_le (ms.take n) oi
    rw [List.length_take] at e2
    omega
  have hfirst : ∀ u, (mrows N (ms.take n) oi)[0]? = some u → ∀ q l c, u ≠ .slice q l c := by
    intro u hu q l c e1
    simp only [mrows] at hu
    cases h1 : mls (ms.take n) oi with
    | nil => rw [h1] at hu; simp at hu
    | cons y l =>
      rw [h1] at hu
      simp [mcells] at hu
      rw [← hu] at e1
      cases e1
  rcases hown.2 with ⟨h1, h2⟩ | ⟨g, cap, cur, h1, _⟩
  · subst h1
    refine (advance_none (w3.heap.size + 1) w3.heap.size M oi out W hoi s0 p13 mo).mono ?_
    rintro e w' ⟨rfl, rfl⟩
    have e1 : mls (ms.take n) oi = [] := List.length_eq_zero_iff.1 (by omega)
    rw [e1]
    exact ⟨rfl, htab, Out.refl _ _ _⟩
  · subst h1
    have hgl : g < w2.heap.size := (hown.lt g rfl).2
    have hg1 : g ≠ N + 1 := row_not_table hown (by omega) (fun g hg => (hfull g hg).2) (by omega) (HPA 0 (by omega)).1 hfirst g rfl
    obtain ⟨q, l, c, hex⟩ := HEX
    have hg2 : g ≠ N + 1 + 1 := row_not_table hown (by omega) (fun g hg => (hfull g hg).2) (by omega) hex hfirst g rfl
    refine advance_some N (w3.heap.size + 1) w3.heap.size (N + 1) M g m cap oi out L A D (fun o => [sf o]) (mls (ms.take n) oi) W hoi hm hlen (mls_good _ _) hgood (fun o ho => rfl)
      (by omega) (by omega) (by omega) hg1 (by omega) (by omega) s0 s34 p13 mo (fun j hj => ?_) hcls htab
    have hjl : j < (mls (ms.take n) oi).length := by omega
    have hx : (mls (ms.take n) oi)[j]? = some ((mls (ms.take n) oi).getD j (0, 0)) := by
      rw [List.getD_eq_getElem?_getD, List.getElem?_eq_getElem hjl]
      rfl
    obtain ⟨f0, f1, f2⟩ := flat_get N _ j _ hx
    refine ⟨?_, ?_, ?_⟩
    · rw [kc _ _ hgl hg2]; exact row_cells hown f0
    · rw [kc _ _ hgl hg2]; exact row_cells hown f1
    · rw [kc _ _ hgl hg2]; exact row_cells hown f2

/-- The two tables behind the call: row k of each holds the same numbers. -/
theorem rows_same (N n oi : Nat) (ms : List (Int × Int × Int)) (L A D : Nat → Bool) (sf : Nat → Int) (w2 w3 W w5 : World) (hn : n ≤ 1024) (hN : N + 20 ≤ w2.heap.size) (hsf : ∀ k, k < 4 → sf k = 1 ∨ sf k = 2)
    (HPA : ∃ q l c, w2.cell? ⟨N + 1, 0, none⟩ = some (.slice q l c)) (HO : Out w2.heap.size (N + 1 + 1) w2 w3) (g1 : w3.grownBy W none)
    (HT3 : Tab (N + 1 + 1) w2.heap.size 21 1 (i32s (advs L A D (fun o => [sf o]) (mls (ms.take n) oi))) w3)
    (HT5 : Tab (N + 1) W.heap.size 21 1 (i32s (advs L A D (fun o => [sf o]) (mls (ms.take n) oi))) w5) (HO5 : Out W.heap.size (N + 1) W w5) (k : Nat) (hk : k < 4) :
    ∃ (a b p c1 c2 : Nat) (xs : List Int), p ≤ 1000000 ∧ p ≤ xs.length ∧ w5.cell? ⟨N + 1, k, none⟩ = some (.slice (some ⟨a, 0, none⟩) p c1) ∧ w5.cell? ⟨N + 1 + 1, k, none⟩ = some (.slice (some ⟨b, 0, none⟩) p c2) ∧
      (∀ j, j < p → w5.cell? ⟨a, j, none⟩ = some (.int .i32 (xs.getD j 0))) ∧ ∀ j, j < p → w5.cell? ⟨b, j, none⟩ = some (.int .i32 (xs.getD j 0)) := by
  have hgood : Good (advs L A D (fun o => [sf o]) (mls (ms.take n) oi)) := by
    refine Good.advs (fun o ho => ⟨by simp, fun x hx => ?_⟩) (fun x hx => (mls_good _ _ x hx).1)
    simp at hx
    subst hx
    rcases hsf o ho with h | h <;> omega
  have hlen : (advs L A D (fun o => [sf o]) (mls (ms.take n) oi) k).length ≤ 1 + n := by
    have e1 := advs_len L A D k (mls (ms.take n) oi) (fun o => [sf o])
    have e2 := mls_le (ms.take n) oi
    rw [List.length_take] at e2
    simp only [List.length_cons, List.length_nil] at e1
    omega
  have hne := (hgood k hk).1
  generalize advs L A D (fun o => [sf o]) (mls (ms.take n) oi) = R at *
  have h23 := HO.size
  have h3W := g1.size
  obtain ⟨v1, m1, hv1, _, hown1, _⟩ := HT5.row k hk
  obtain ⟨v2, m2, hv2, _, hown2, hfull2⟩ := HT3.row k hk
  obtain ⟨p, a, c1, ⟨hp1, hp2⟩, rfl, _⟩ := row_last hown1 hne
  obtain ⟨p', b, c2, ⟨hp1', hp2'⟩, rfl, _⟩ := row_last hown2 hne
  have e : p' = p := by omega
  subst e
  subst hp2
  subst hp2'
  have hbl : b < w3.heap.size := (hown2.lt b rfl).2
  obtain ⟨q, l, c, hpa⟩ := HPA
  have hb1 : b ≠ N + 1 := row_not_table hown2 (by omega) (fun g hg => (hfull2 g hg).2) (by omega) (by rw [HO.cell _ (by omega) (by omega)]; exact hpa) (by
    intro u hu q l c e1
    simp only [i32s, List.getElem?_map] at hu
    cases h1 : (R k)[0]? with
    | none => rw [h1] at hu; simp at hu
    | some y =>
      rw [h1] at hu
      simp at hu
      rw [← hu] at e1
      cases e1) b rfl
  have k5 : ∀ b o, b < w3.heap.size → b ≠ N + 1 → w5.cell? ⟨b, o, none⟩ = w3.cell? ⟨b, o, none⟩ := fun b o h1 h2 => by
    rw [HO5.cell _ (by omega) h2, World.cell?_of_block (w := w3) (g1.block b h1 (by simp))]
  have hget : ∀ j, j < p' + 1 → (i32s R k)[j]? = some (.int .i32 ((R k).getD j 0)) := fun j hj => by
    simp only [i32s, List.getElem?_map]
    rw [List.getD_eq_getElem?_getD, List.getElem?_eq_getElem (by omega)]
    rfl
  refine ⟨a, b, p' + 1, c1, c2, R k, by omega, by omega, hv1, ?_, fun j hj => row_cells hown1 (hget j hj), fun j hj => ?_⟩
  · rw [k5 _ _ HT3.lt (by omega)]; exact hv2
  · rw [k5 _ _ hbl hb1]; exact row_cells hown2 (hget j hj)

end Go.Proofs.Ybulkiyo
