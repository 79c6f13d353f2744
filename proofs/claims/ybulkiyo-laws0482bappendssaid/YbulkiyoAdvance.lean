/-
  (*search).advance: each membership of the operation moves its cluster's path on.
-/
import Derived.Test.YbulkiyoPlain
namespace Go.Proofs.Ybulkiyo
open Go.RowKit
set_option linter.unusedVariables false
set_option linter.unusedSimpArgs false
theorem info21 : (Yba.prog.info? 21).map (fun i => (i.zero, i.size, i.bytes)) = some (some (.int .i32 0), 1, 4) := by kernel_rfl

/-- The rows of a table of []int32. -/
def i32s (R : Nat → List Int) : Nat → List Value := fun o => (R o).map (Value.int .i32)

/-- The last element of a row that is not empty. -/
theorem row_last {w : World} {v : Value} {m : Nat} {xs : List Int} (h : w.ownsRow 0 21 1 v m (xs.map (Value.int .i32))) (hne : xs ≠ []) :
    ∃ p g cap, (xs.length = p + 1 ∧ m = p + 1) ∧ v = .slice (some ⟨g, 0, none⟩) (p + 1) cap ∧ w.cell? ⟨g, p, none⟩ = some (.int .i32 (lastOf xs)) := by
  have hl := h.1
  simp at hl
  obtain ⟨p, hp⟩ : ∃ p, xs.length = p + 1 := ⟨xs.length - 1, by have := List.length_pos_iff.2 hne; omega⟩
  rcases h.2 with ⟨_, h0⟩ | ⟨g, cap, cur, hv, _⟩
  · omega
  · refine ⟨p, g, cap, ⟨hp, by omega⟩, by rw [hv]; congr 1; omega, ?_⟩
    have := h.cells (g := g) (by rw [hv]; rfl) p (.int .i32 (lastOf xs)) (by
      unfold lastOf
      rw [List.getElem?_map, List.getLast?_eq_getElem?, show xs.length - 1 = p by omega, List.getElem?_eq_getElem (by omega)]
      rfl)
    have hadd : (⟨g, 0, none⟩ : Addr).add p = ⟨g, p, none⟩ := by unfold Addr.add; split <;> simp_all
    rw [hadd] at this
    exact this

set_option maxRecDepth 100000 in
set_option maxHeartbeats 1600000 in
theorem advance_some (N S Pl T M r n c : Nat) (oi : Nat) (out : Bool) (L A D : Nat → Bool) (R : Nat → List Int) (ml : List (Nat × Int)) (w : World)
    (hoi : oi < 4) (hn : n ≤ 1024) (hml : ml.length = n) (hml1 : ∀ x ∈ ml, x.1 < 4 ∧ 0 ≤ x.2 ∧ x.2 ≤ 7) (hR : Good R) (hR1 : ∀ o, o < 4 → (R o).length = 1)
    (hS : S ≠ T) (hPl : Pl ≠ T) (hM : M ≠ T) (hr : r ≠ T) (hT : T < N + 3) (hN : N + 19 ≤ w.heap.size)
    (s0 : w.cell? ⟨S, 0, none⟩ = some (.pointer (some ⟨Pl, 0, none⟩))) (s34 : w.cell? ⟨S, 34, none⟩ = some (.slice (some ⟨T, 0, none⟩) 4 4))
    (p13 : w.cell? ⟨Pl, 13, none⟩ = some (.slice (some ⟨M, 0, none⟩) 4 4)) (mo : w.cell? ⟨M, oi, none⟩ = some (.slice (some ⟨r, 0, none⟩) n c))
    (hrow : ∀ j, j < n → w.cell? ⟨r, j * 3, none⟩ = some (.pointer (some ⟨N + 4 + 4 * (ml.getD j (0, 0)).1, 0, none⟩)) ∧ w.cell? ⟨r, j * 3 + 1, none⟩ = some (.int .i64 (ml.getD j (0, 0)).1) ∧ w.cell? ⟨r, j * 3 + 2, none⟩ = some (.int .i64 (ml.getD j (0, 0)).2))
    (hcls : Cls N L A D w) (htab : Tab T w.heap.size 21 1 (i32s R) w) :
    Calls Yba.prog 10 #[.pointer (some ⟨S, 0, none⟩), .int .i64 oi, .bool out] w fun e w' => e = .returned (.tuple #[]) ∧ Tab T w.heap.size 21 1 (i32s (advs L A D R ml)) w' ∧ Out w.heap.size T w w' := by
  have lS : S < w.heap.size := World.block_lt_of_cell? w _ s0
  have lPl : Pl < w.heap.size := World.block_lt_of_cell? w _ p13
  have lM : M < w.heap.size := World.block_lt_of_cell? w _ mo
  have hoi' : (oi : Int) < 4 := by omega
  go_enter Yba.func10, Yba.ntmps10
  go_wp2
  go_loopw [19] (fun i wr => ∃ (k : Nat), k ≤ n ∧ i = .int .i64 k ∧ Hid (Tab T w.heap.size 21 1 (i32s (advs L A D R (ml.take k))) wr) ∧ Hid (Out w.heap.size T w wr)) (fun i _ => n - (intOf i).toNat)
  case atStart => exact ⟨0, Nat.zero_le _, rfl, by simpa [advs, Hid] using htab, Out.refl _ _ _⟩
  case round =>
    obtain ⟨j, hj, rfl, HT, HO⟩ := hrel
    by_cases hlt : j < n
    · obtain ⟨⟨k, i⟩, hx⟩ : ∃ x, ml.getD j (0, 0) = x := ⟨_, rfl⟩
      have lr : r < w.heap.size := World.block_lt_of_cell? w _ (hrow j hlt).1
      have r0 : wr.cell? ⟨r, j * 3, none⟩ = some (.pointer (some ⟨N + 4 + 4 * k, 0, none⟩)) := by rw [HO.out.cell _ lr hr, (hrow j hlt).1, hx]
      have r1 : wr.cell? ⟨r, j * 3 + 1, none⟩ = some (.int .i64 k) := by rw [HO.out.cell _ lr hr, (hrow j hlt).2.1, hx]
      have r2 : wr.cell? ⟨r, j * 3 + 2, none⟩ = some (.int .i64 i) := by rw [HO.out.cell _ lr hr, (hrow j hlt).2.2, hx]
      have hki : k < 4 ∧ 0 ≤ i ∧ i ≤ 7 := by
        have hm : (k, i) ∈ ml := by
          rw [← hx, List.getD_eq_getElem?_getD, List.getElem?_eq_getElem (by omega)]
          exact List.getElem_mem _
        exact hml1 _ hm
      have hcl : Cls N L A D wr := hcls.out HO.out hN (Or.inl hT)
      have c5 : wr.cell? ⟨N + 4 + 4 * k, 5, none⟩ = some (.bool (L k)) := hcl.c5 k hki.1
      have lwr : w.heap.size ≤ wr.heap.size := HO.out.size
      have lc : N + 4 + 4 * k < wr.heap.size := by omega
      have lrr : r < wr.heap.size := by omega
      have hk4 : (k : Int) < 4 := by omega
      clear hrow mo p13 s0 hcls htab
      cases hL : L k
      · rw [hL] at c5
        go_wp2
        have e2 : ml.take (j + 1) = ml.take j ++ [(k, i)] := by
          rw [List.take_succ_eq_append_getElem (by omega)]
          rw [List.getD_eq_getElem?_getD, List.getElem?_eq_getElem (by omega)] at hx
          simp at hx
          rw [hx]
        have e3 : advs L A D R (ml.take (j + 1)) = advs L A D R (ml.take j) := by
          rw [e2, advs_snoc]
          simp [adv, hL]
        go_roundw
        case rel => exact ⟨j + 1, by omega, by go_num, by rw [e3]; exact HT.out.alloc _, HO.out.trans (Out.grown (grown_alloc _ _) lwr (fun b hb => by cases hb))⟩
        case measure => simp [intOf]; omega
      · rw [hL] at c5
        go_wp2
        obtain ⟨v, m, hv, hvf, hown, hfull⟩ := HT.out.row k hki.1
        obtain ⟨R', hR'⟩ : ∃ R', advs L A D R (ml.take j) = R' := ⟨_, rfl⟩
        have HR' : Hid (advs L A D R (ml.take j) = R') := hR'
        have hgood : Good R' := by rw [← hR']; exact hR.advs (fun x hx => (hml1 x (List.mem_of_mem_take hx)).1)
        have hlen : (R' k).length ≤ 1 + j := by
          have := advs_len L A D k (ml.take j) R
          rw [hR', hR1 k hki.1] at this
          simp at this
          omega
        rw [hR'] at hown HT
        clear hR'
        obtain ⟨p, g, cap, hp, hve, hl⟩ := row_last hown (hgood k hki.1).1
        obtain ⟨l, hle⟩ : ∃ l, lastOf (R' k) = l := ⟨_, rfl⟩
        have hl01 := hgood.last hki.1
        rw [hle] at hl hl01
        obtain ⟨hl0, hl1⟩ := hl01
        have HLE : Hid (lastOf (R' k) = l) := hle
        have hm : m = p + 1 := hp.2
        subst hm
        subst hve
        have hS34 : wr.cell? ⟨S, 34, none⟩ = some (.slice (some ⟨T, 0, none⟩) 4 4) := by rw [HO.out.cell _ lS hS]; exact s34
        have lT : T < wr.heap.size := HT.out.lt
        have lSr : S < wr.heap.size := by omega
        have lg : g < wr.heap.size := World.block_lt_of_cell? wr _ hl
        have ln : N + 3 + 4 * k < wr.heap.size := by omega
        have e4 := hcl.c4 k hki.1
        have e0 := hcl.c0 k hki.1
        have en0 := hcl.n0 k hki.1 l hl0 hl1
        have en2 := hcl.n2 k hki.1 l hl0 hl1
        obtain ⟨i0, hi, hz0, hz1, hz2⟩ := info_parts info21
        have HI : Hid (Yba.prog.info? 21 = some i0 ∧ i0.zero = some (.int .i32 0) ∧ i0.size = 1 ∧ i0.bytes = 4) := ⟨hi, hz0, hz1, hz2⟩
        have HOWN : Hid (wr.ownsRow 0 21 1 (.slice (some ⟨g, 0, none⟩) (p + 1) cap) (p + 1) (i32s R' k)) := hown
        have HFULL : Hid (∀ b, (Value.slice (some ⟨g, 0, none⟩) (p + 1) cap).ownBlock = some b → b ≠ T ∧ (w.heap.size ≤ b ∨ ∃ q, Value.slice (some ⟨g, 0, none⟩) (p + 1) cap = .slice q (p + 1) (p + 1))) := hfull
        clear hi hz0 hz1 hz2 hown hfull hle hcl
        refine wp_region_F (z := 21) (S := fun w' => w'.cell? ⟨S, 34, none⟩ = some (.slice (some ⟨T, 0, none⟩) 4 4) ∧ w'.cell? ⟨wr.heap.size, 0, none⟩ = some (.pointer (some ⟨N + 4 + 4 * k, 0, none⟩)) ∧ w'.cell? ⟨wr.heap.size, 1, none⟩ = some (.int .i64 k) ∧ w'.cell? ⟨wr.heap.size, 2, none⟩ = some (.int .i64 i) ∧ w'.cell? ⟨T, k, none⟩ = some (.slice (some ⟨g, 0, none⟩) (p + 1) cap)) (by kernel_rfl) ?_ (fun hHeld => ?_)
        · refine ⟨?_, ?_, ?_, ?_, ?_⟩ <;> go_simp
        refine anyF_take (i := 0) (v := ?_) rfl (by kernel_rfl) (by kernel_rfl) (by kernel_rfl) (by kernel_rfl) (fun _ _ _ h => h) (Or.inl ⟨by rfl, ?_⟩) hHeld ?_
        rotate_left
        · intro w' hSw
          obtain ⟨q1, q2, q3, q4, q5⟩ := hSw
          go_simp
          try rfl
        simp only [Act.put, List.setIfInBounds_toArray, List.set_cons_zero, List.set_cons_succ]
        refine anyF_take (i := 1) (v := ?_) rfl (by kernel_rfl) (by kernel_rfl) (by kernel_rfl) (by kernel_rfl) (fun _ _ _ h => h) (Or.inl ⟨by rfl, ?_⟩) hHeld ?_
        rotate_left
        · intro w' hSw
          obtain ⟨q1, q2, q3, q4, q5⟩ := hSw
          go_simp
          try rfl
        simp only [Act.put, List.setIfInBounds_toArray, List.set_cons_zero, List.set_cons_succ]
        refine anyF_take (i := 2) (v := ?_) rfl (by kernel_rfl) (by kernel_rfl) (by kernel_rfl) (by kernel_rfl) (fun _ _ _ h => h) (Or.inl ⟨by rfl, ?_⟩) hHeld ?_
        rotate_left
        · intro w' hSw
          obtain ⟨q1, q2, q3, q4, q5⟩ := hSw
          go_simp
          try rfl
        simp only [Act.put, List.setIfInBounds_toArray, List.set_cons_zero, List.set_cons_succ]
        refine anyF_take (i := 3) (v := ?_) rfl (by kernel_rfl) (by kernel_rfl) (by kernel_rfl) (by kernel_rfl) (fun _ _ _ h => h) (Or.inl ⟨by rfl, ?_⟩) hHeld ?_
        rotate_left
        · intro w' hSw
          obtain ⟨q1, q2, q3, q4, q5⟩ := hSw
          go_simp
          try rfl
        simp only [Act.put, List.setIfInBounds_toArray, List.set_cons_zero, List.set_cons_succ]
        refine anyF_take (i := 4) (v := ?_) rfl (by kernel_rfl) (by kernel_rfl) (by kernel_rfl) (by kernel_rfl) (fun _ _ _ h => h) (Or.inl ⟨by rfl, ?_⟩) hHeld ?_
        rotate_left
        · intro w' hSw
          obtain ⟨q1, q2, q3, q4, q5⟩ := hSw
          go_simp
          try rfl
        simp only [Act.put, List.setIfInBounds_toArray, List.set_cons_zero, List.set_cons_succ]
        refine anyF_take (i := 5) (v := ?_) rfl (by kernel_rfl) (by kernel_rfl) (by kernel_rfl) (by kernel_rfl) (fun _ _ _ h => h) (Or.inl ⟨by rfl, ?_⟩) hHeld ?_
        rotate_left
        · intro w' hSw
          obtain ⟨q1, q2, q3, q4, q5⟩ := hSw
          go_simp
          try rfl
        simp only [Act.put, List.setIfInBounds_toArray, List.set_cons_zero, List.set_cons_succ]
        refine anyF_take (i := 6) (v := ?_) rfl (by kernel_rfl) (by kernel_rfl) (by kernel_rfl) (by kernel_rfl) (fun _ _ _ h => h) (Or.inl ⟨by rfl, ?_⟩) hHeld ?_
        rotate_left
        · intro w' hSw
          obtain ⟨q1, q2, q3, q4, q5⟩ := hSw
          go_simp
          try rfl
        simp only [Act.put, List.setIfInBounds_toArray, List.set_cons_zero, List.set_cons_succ]
        refine anyF_take (i := 7) (v := ?_) rfl (by kernel_rfl) (by kernel_rfl) (by kernel_rfl) (by kernel_rfl) (fun _ _ _ h => h) (Or.inl ⟨by rfl, ?_⟩) hHeld ?_
        rotate_left
        · intro w' hSw
          obtain ⟨q1, q2, q3, q4, q5⟩ := hSw
          go_simp
          try rfl
        simp only [Act.put, List.setIfInBounds_toArray, List.set_cons_zero, List.set_cons_succ]
        refine anyF_take (i := 8) (v := ?_) rfl (by kernel_rfl) (by kernel_rfl) (by kernel_rfl) (by kernel_rfl) (fun _ _ _ h => h) (Or.inl ⟨by rfl, ?_⟩) hHeld ?_
        rotate_left
        · intro w' hSw
          obtain ⟨q1, q2, q3, q4, q5⟩ := hSw
          go_simp
          try rfl
        simp only [Act.put, List.setIfInBounds_toArray, List.set_cons_zero, List.set_cons_succ]
        refine anyF_take (i := 9) (v := ?_) rfl (by kernel_rfl) (by kernel_rfl) (by kernel_rfl) (by kernel_rfl) (fun _ _ _ h => h) (Or.inl ⟨by rfl, ?_⟩) hHeld ?_
        rotate_left
        · intro w' hSw
          obtain ⟨q1, q2, q3, q4, q5⟩ := hSw
          go_simp
          try rfl
        simp only [Act.put, List.setIfInBounds_toArray, List.set_cons_zero, List.set_cons_succ]
        refine anyF_take (i := 10) (v := ?_) rfl (by kernel_rfl) (by kernel_rfl) (by kernel_rfl) (by kernel_rfl) (fun _ _ _ h => h) (Or.inl ⟨by rfl, ?_⟩) hHeld ?_
        rotate_left
        · intro w' hSw
          obtain ⟨q1, q2, q3, q4, q5⟩ := hSw
          go_simp
          try rfl
        simp only [Act.put, List.setIfInBounds_toArray, List.set_cons_zero, List.set_cons_succ]
        refine anyF_take (i := 11) (v := ?_) rfl (by kernel_rfl) (by kernel_rfl) (by kernel_rfl) (by kernel_rfl) (fun _ _ _ h => h) (Or.inl ⟨by rfl, ?_⟩) hHeld ?_
        rotate_left
        · intro w' hSw
          obtain ⟨q1, q2, q3, q4, q5⟩ := hSw
          go_simp
          try rfl
        simp only [Act.put, List.setIfInBounds_toArray, List.set_cons_zero, List.set_cons_succ]
        refine anyF_take (i := 12) (v := ?_) rfl (by kernel_rfl) (by kernel_rfl) (by kernel_rfl) (by kernel_rfl) (fun _ _ _ h => h) (Or.inl ⟨by rfl, ?_⟩) hHeld ?_
        rotate_left
        · intro w' hSw
          obtain ⟨q1, q2, q3, q4, q5⟩ := hSw
          go_simp
          try rfl
        simp only [Act.put, List.setIfInBounds_toArray, List.set_cons_zero, List.set_cons_succ]
        refine anyF_take (i := 13) (v := ?_) rfl (by kernel_rfl) (by kernel_rfl) (by kernel_rfl) (by kernel_rfl) (fun _ _ _ h => h) (Or.inl ⟨by rfl, ?_⟩) hHeld ?_
        rotate_left
        · intro w' hSw
          obtain ⟨q1, q2, q3, q4, q5⟩ := hSw
          go_simp
          try rfl
        simp only [Act.put, List.setIfInBounds_toArray, List.set_cons_zero, List.set_cons_succ]
        refine anyF_take (i := 14) (v := ?_) rfl (by kernel_rfl) (by kernel_rfl) (by kernel_rfl) (by kernel_rfl) (fun _ _ _ h => h) (Or.inl ⟨by rfl, ?_⟩) hHeld ?_
        rotate_left
        · intro w' hSw
          obtain ⟨q1, q2, q3, q4, q5⟩ := hSw
          go_simp
          try rfl
        simp only [Act.put, List.setIfInBounds_toArray, List.set_cons_zero, List.set_cons_succ]
        refine anyF_take (i := 15) (v := ?_) rfl (by kernel_rfl) (by kernel_rfl) (by kernel_rfl) (by kernel_rfl) (fun _ _ _ h => h) (Or.inl ⟨by rfl, ?_⟩) hHeld ?_
        rotate_left
        · intro w' hSw
          obtain ⟨q1, q2, q3, q4, q5⟩ := hSw
          go_simp
          try rfl
        simp only [Act.put, List.setIfInBounds_toArray, List.set_cons_zero, List.set_cons_succ]
        refine anyF_take (i := 16) (v := ?_) rfl (by kernel_rfl) (by kernel_rfl) (by kernel_rfl) (by kernel_rfl) (fun _ _ _ h => h) (Or.inl ⟨by rfl, ?_⟩) hHeld ?_
        rotate_left
        · intro w' hSw
          obtain ⟨q1, q2, q3, q4, q5⟩ := hSw
          go_simp
          try rfl
        simp only [Act.put, List.setIfInBounds_toArray, List.set_cons_zero, List.set_cons_succ]
        refine anyF_one (i := 17) (by kernel_rfl) rfl (fun K hK => ?_)
        go_simp
        refine (after_any S T (N + 4 + 4 * k) (N + 3 + 4 * k) g p cap k i l out (dn A D k l) _ hki.1 hki.2.1 hki.2.2 hl0 hl1 (by omega) (by go_simp) (by go_simp) (by go_simp) (by go_simp) (by go_simp) (by go_simp) (by go_simp)).mono ?_
        rintro e w2 ⟨rfl, q, hw2⟩
        have g2 : wr.grownBy w2 none := by rw [hw2]; exact grown_none_trans (grown_none_trans (grown_none_trans (grown_alloc _ _) (grown_drew _)) (grown_alloc _ _)) (grown_drewN _ _)
        have s2 : wr.heap.size < w2.heap.size := by rw [hw2]; simp; omega
        have k0 : ∀ b o, b < wr.heap.size → w2.cell? ⟨b, o, none⟩ = wr.cell? ⟨b, o, none⟩ := fun b o hb => World.cell?_of_block (w := wr) (g2.block b hb (by simp))
        have km : ∀ o, w2.cell? ⟨wr.heap.size, o, none⟩ = (wr.alloc (.cells #[.pointer (some ⟨N + 4 + 4 * k, 0, none⟩), .int .i64 k, .int .i64 i] 52)).cell? ⟨wr.heap.size, o, none⟩ := fun o => by rw [hw2, World.cell?_drewN, World.cell?_alloc_past _ _ _ (by simp)]; rfl
        clear hw2
        refine hK.out _ _ ⟨by rw [k0 _ _ lSr]; exact hS34, by rw [km]; go_simp, by rw [km]; go_simp, by rw [km]; go_simp, by rw [k0 _ _ lT]; exact hv⟩ (fun hHeld2 => ?_)
        clear hK K hHeld
        obtain ⟨nv, hnv⟩ : ∃ nv, (if dn A D k l = true then l else 0) = nv := ⟨_, rfl⟩
        have HNV : Hid (nx A D k l = nv) := hnv
        rw [hnv]
        clear hnv
        refine anyF_one (i := 18) (by kernel_rfl) rfl (fun K hK => ?_)
        go_simp
        have lg2 : g < w2.heap.size := by omega
        refine hK.out _ _ ⟨?_, ?_, ?_, ?_, ?_⟩ (fun hHeld3 => ?_)
        · rw [World.cell?_alloc_past _ _ _ (by omega)]; exact hHeld2.1
        · rw [World.cell?_alloc_past _ _ _ s2]; exact hHeld2.2.1
        · rw [World.cell?_alloc_past _ _ _ s2]; exact hHeld2.2.2.1
        · rw [World.cell?_alloc_past _ _ _ s2]; exact hHeld2.2.2.2.1
        · rw [World.cell?_alloc_past _ _ _ (by omega)]; exact hHeld2.2.2.2.2
        clear hK K
        have g3 : wr.grownBy (w2.alloc (.cells #[.int .i32 nv] 21)) none := grown_none_trans g2 (grown_alloc _ _)
        have hT3 : Tab T w.heap.size 21 1 (i32s R') (w2.alloc (.cells #[.int .i32 nv] 21)) := HT.out.grown g3
        refine anyF_one (i := 19) (by kernel_rfl) rfl (fun K hK => ?_)
        refine step_append_more _ rfl (.tmp 41) (.tmp 46) 44 rfl w.heap.size 21 i0 (.int .i32 0) 1 4 Yba.underlying44 HI.out.1 HI.out.2.1 HI.out.2.2.1 HI.out.2.2.2 rfl (by decide) (.slice (some ⟨g, 0, none⟩) (p + 1) cap) (p + 1) (i32s R' k) rfl (HOWN.out.kept g3 (by simp [Value.ownBlock])) (fun b hb => (HFULL.out b hb).2) ⟨w2.heap.size, 0, none⟩ 1 [.int .i32 nv] rfl rfl (cell_one_new _ _ _) (by simp [Value.oneCell']) (by simp only [maxLen]; omega) (by omega) (by have := g3.size; omega) ?_
        intro v' w4 hown4 hgrow4 hnew4 hwhich4
        obtain ⟨g', cap', hv'⟩ : ∃ g' cap', v' = .slice (some ⟨g', 0, none⟩) (p + 1 + 1) cap' := by
          rcases hown4.2 with ⟨_, h1⟩ | ⟨g', cap', _, h1, _⟩
          · omega
          · exact ⟨g', cap', h1⟩
        subst hv'
        have f4 : w4.frozen? ⟨T, k, none⟩ = false := by
          obtain ⟨row, hg, hrow, hrB⟩ := hgrow4
          have hne : some T ≠ row := by
            intro e1
            have h1 := hrB T e1.symm
            omega
          rw [World.frozen?_of_block (w := w2.alloc (.cells #[.int .i32 nv] 21)) (hg.block T (by simp; omega) hne), World.frozen?_of_block (w := wr) (g3.block T lT (by simp))]
          exact hvf
        have hst := hT3.step hki.1 (by have := g3.size; omega) hHeld3.2.2.2.2 hown4 hgrow4 hnew4 hwhich4
        have k4 : ∀ b o, b < w2.heap.size → (b < w.heap.size ∨ wr.heap.size ≤ b) → w4.cell? ⟨b, o, none⟩ = w2.cell? ⟨b, o, none⟩ := by
          intro b o hb hbg
          obtain ⟨row, hg, hrow, hrB⟩ := hgrow4
          have hne : some b ≠ row := by
            intro e1
            have h1 := hrB b e1.symm
            rcases hrow with rfl | rfl
            · cases e1
            · simp [Value.ownBlock] at e1; omega
          rw [World.cell?_of_block (w := w2.alloc (.cells #[.int .i32 nv] 21)) (hg.block b (by simp; omega) hne), World.cell?_alloc_past _ _ _ hb]
        have lTw : T < w.heap.size := by omega
        refine hK.out _ _ ⟨?_, ?_, ?_, ?_, ?_⟩ (fun hHeld4 => ?_)
        · rw [k4 _ _ (by omega) (Or.inl lS)]; exact hHeld2.1
        · rw [k4 _ _ s2 (Or.inr (Nat.le_refl _))]; exact hHeld2.2.1
        · rw [k4 _ _ s2 (Or.inr (Nat.le_refl _))]; exact hHeld2.2.2.1
        · rw [k4 _ _ s2 (Or.inr (Nat.le_refl _))]; exact hHeld2.2.2.2.1
        · rw [k4 _ _ (by omega) (Or.inl lTw)]; exact hHeld2.2.2.2.2
        clear hK K hHeld2 hHeld3 k4 hgrow4 hnew4 hwhich4 k0 km
        simp only [Act.put, List.getElem_toArray, List.getElem_cons_succ, List.getElem_cons_zero, List.setIfInBounds_toArray, List.set_cons_zero, List.set_cons_succ]
        refine anyF_take (i := 20) (v := ?_) rfl (by kernel_rfl) (by kernel_rfl) (by kernel_rfl) (by kernel_rfl) (fun _ _ _ h => h) (Or.inl ⟨by rfl, ?_⟩) hHeld4 ?_
        rotate_left
        · intro w' hSw
          go_simp
          try rfl
        simp only [Act.put, List.setIfInBounds_toArray, List.set_cons_zero, List.set_cons_succ]
        have c4 := hHeld4.2.2.2.2
        clear hHeld4
        refine anyF_last (by kernel_rfl) rfl (fun K hK => ?_)
        go_simp
        refine hK.out _ _ ?_
        clear hK K
        refine anyF_done (by kernel_rfl) ?_ _
        have hfin : Hid (Tab T w.heap.size 21 1 (i32s (advs L A D R (ml.take (j + 1)))) (w4.setCell ⟨T, k, none⟩ (.slice (some ⟨g', 0, none⟩) (p + 1 + 1) cap')) ∧ Out w.heap.size T w (w4.setCell ⟨T, k, none⟩ (.slice (some ⟨g', 0, none⟩) (p + 1 + 1) cap'))) := by
          refine ⟨?_, HO.out.trans ((Out.grown g3 (by omega) (fun b hb => by cases hb)).trans hst.2)⟩
          have e1 : i32s (advs L A D R (ml.take (j + 1))) = fun p => if p = k then i32s R' k ++ [Value.int .i32 nv] else i32s R' p := by
            have e2 : ml.take (j + 1) = ml.take j ++ [(k, i)] := by
              rw [List.take_succ_eq_append_getElem (by omega)]
              rw [List.getD_eq_getElem?_getD, List.getElem?_eq_getElem (by omega)] at hx
              simp at hx
              rw [hx]
            rw [e2, advs_snoc, HR'.out]
            funext o
            simp only [i32s, adv, adv1, hL, if_true, HLE.out, HNV.out]
            by_cases e3 : o = k
            · simp [e3]
            · simp [e3]
          rw [e1]
          exact hst.1
        clear hst hown4 hT3 g3 HOWN HT
        go_wp2
        go_roundw
        case rel => exact ⟨j + 1, by omega, by go_num, hfin.out.1, hfin.out.2⟩
        case measure => simp [intOf]; omega
    · have hjn : j = n := by omega
      have e1 : ml.take j = ml := by rw [List.take_of_length_le (by omega)]
      have HT' : Hid (Tab T w.heap.size 21 1 (i32s (advs L A D R ml)) wr) := by rw [e1] at HT; exact HT
      clear hrow mo p13 s0 hcls htab HT e1 hml hjn
      go_wp2
      go_end0
      exact ⟨rfl, HT'.out, HO.out⟩

set_option maxRecDepth 100000 in
set_option maxHeartbeats 800000 in
theorem advance_none (S Pl M : Nat) (oi : Nat) (out : Bool) (w : World) (hoi : oi < 4)
    (s0 : w.cell? ⟨S, 0, none⟩ = some (.pointer (some ⟨Pl, 0, none⟩)))
    (p13 : w.cell? ⟨Pl, 13, none⟩ = some (.slice (some ⟨M, 0, none⟩) 4 4)) (mo : w.cell? ⟨M, oi, none⟩ = some (.slice none 0 0)) :
    Calls Yba.prog 10 #[.pointer (some ⟨S, 0, none⟩), .int .i64 oi, .bool out] w fun e w' => e = .returned (.tuple #[]) ∧ w' = w := by
  have hoi' : (oi : Int) < 4 := by omega
  go_enter Yba.func10, Yba.ntmps10
  go_wp2
  go_loop [19] (fun i => i = .int .i64 0) (fun _ => 0)
  case atStart => rfl
  case round =>
    subst hrel
    go_wp2
    go_end0
    exact ⟨rfl, rfl⟩

end Go.Proofs.Ybulkiyo
