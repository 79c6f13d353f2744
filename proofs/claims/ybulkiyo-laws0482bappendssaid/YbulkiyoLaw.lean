/-
  LawS0482BAppends: the walk.
-/
import Derived.Test.YbulkiyoAdvance
import Derived.Test.YbulkiyoSet
import Derived.Test.YbulkiyoMem
import Derived.Test.YbulkiyoCall
import Derived.Deep.RegionHeld
namespace Go.Proofs.Ybulkiyo
open Go.RowKit
set_option linter.unusedVariables false
set_option linter.unusedSimpArgs false

theorem mk34 (w : World) : (Instr.makeSlice 34 (.int .i64 4) (.int .i64 4)).run Yba.prog w = .ok (.slice (some ⟨w.heap.size, 0, none⟩) 4 4) (w.alloc (.cells #[.pointer none, .pointer none, .pointer none, .pointer none] 36)) := by kernel_rfl
theorem mk35 (w : World) : (Instr.makeSlice 35 (.int .i64 4) (.int .i64 4)).run Yba.prog w = .ok (.slice (some ⟨w.heap.size, 0, none⟩) 4 4) (w.alloc (.cells #[.slice none 0 0, .slice none 0 0, .slice none 0 0, .slice none 0 0] 44)) := by kernel_rfl
theorem mk47 (w : World) : (Instr.makeSlice 47 (.int .i64 4) (.int .i64 4)).run Yba.prog w = .ok (.slice (some ⟨w.heap.size, 0, none⟩) 4 4) (w.alloc (.cells #[.slice none 0 0, .slice none 0 0, .slice none 0 0, .slice none 0 0] 50)) := by kernel_rfl
theorem mk37 (w : World) : (Instr.makeSlice 37 (.int .i64 3) (.int .i64 3)).run Yba.prog w = .ok (.slice (some ⟨w.heap.size, 0, none⟩) 3 3) (w.alloc (.cells #[.slice none 0 0, .bool false, .bool false, .slice none 0 0, .slice none 0 0, .bool false, .bool false, .slice none 0 0, .slice none 0 0, .bool false, .bool false, .slice none 0 0] 46)) := by kernel_rfl
theorem info52 : (Yba.prog.info? 52).map (fun i => (i.zero, i.size, i.bytes)) = some (some (.agg #[.pointer none, .int .i64 0, .int .i64 0]), 3, 24) := by kernel_rfl

theorem bd78 : ∃ zs : Array Value, 34 < zs.size ∧ ∀ (w : World) (p t : Nat), (Instr.build 78 #[(0, .pointer (some ⟨p, 0, none⟩)), (34, .slice (some ⟨t, 0, none⟩) 4 4)]).run Yba.prog w = .ok (.agg ((zs.setIfInBounds 0 (.pointer (some ⟨p, 0, none⟩))).setIfInBounds 34 (.slice (some ⟨t, 0, none⟩) 4 4))) w :=
  ⟨(match Yba.prog.info? 78 with | some i => (match i.zero with | some v => v.cells | none => #[]) | none => #[]), by decide +kernel, fun w p t => by kernel_rfl⟩
theorem box78 (w : World) (A : Array Value) : (Instr.box 78 (.agg A)).run Yba.prog w = .ok (.pointer (some ⟨w.heap.size, 0, none⟩)) (w.alloc (.cells A 78)) := by kernel_rfl

theorem wp_build78 {o : Oper} {a : Act} {w : World} {K : Act → World → Prop} {Q : Exit → Act → World → Prop} (x y : Operand) (ho : o.op = .build 78 #[(0, x), (34, y)]) (vx vy r : Value)
    (hx : a.eval x = vx) (hy : a.eval y = vy) (hr : (Instr.build 78 #[(0, vx), (34, vy)]).run Yba.prog w = .ok r w) (h : K (a.put o.dst r) w) : o.wp Yba.prog a w K Q := by
  unfold Oper.wp execOp
  simp only [ho, Sem.run_bind, Sem.run_pure, Result.andThen_ok, List.map_toArray, List.map_cons, List.map_nil, hx, hy, hr]
  exact h

theorem wrap_rem8 (i : Int) (h0 : 0 ≤ i) (h1 : i ≤ 255) : (IntKind.i64.wrap i).tmod 8 = i % 8 := by
  have e : IntKind.i64.wrap i = i := by rw [IntKind.wrap_i64]; omega
  rw [e, Int.tmod_eq_emod_of_nonneg h0]

set_option maxRecDepth 100000 in
set_option maxHeartbeats 8000000 in
theorem law_any (q0 : Option Addr) (x : Addr) (n c : Nat) (o le da db st : Int) (out : Bool) (ms : List (Int × Int × Int)) (w : World) (hn : n ≤ 1024) (hml : n ≤ ms.length) (ho : 0 ≤ o ∧ o ≤ 255) (h1 : 0 ≤ le ∧ le ≤ 255) (h2 : 0 ≤ da ∧ da ≤ 255) (h3 : 0 ≤ db ∧ db ≤ 255) (h4 : 0 ≤ st ∧ st ≤ 255)
    (hms : Mem3 x n ms w) (hq : 0 < n → q0 = some x) :
    Calls Yba.prog 5 #[.slice q0 n c, .int .u8 o, .bool out, .int .u8 le, .int .u8 da, .int .u8 db, .int .u8 st] w fun e w' => e = .returned (.bool true) ∧ Below w.heap.size w w' := by
  have HQ : Hid (0 < n → q0 = some x) := hq
  clear hq
  have m1 := mk34
  have m2 := mk35
  have m3 := mk47
  have m4 := mk37
  obtain ⟨oi, hoi, hoi4⟩ : ∃ oi : Nat, o % 4 = (oi : Int) ∧ oi < 4 := ⟨(o % 4).toNat, by omega, by omega⟩
  go_enter Yba.func5, Yba.ntmps5
  go_wp2
  go_loopw [18] (fun i wr => ∃ (k : Nat) (L A D : Nat → Bool) (sf : Nat → Int), k ≤ 4 ∧ i = .int .i64 k ∧ Hid (Set1 w.heap.size k L A D sf w wr)) (fun i _ => 4 - (intOf i).toNat)
  case atStart => exact ⟨0, _, _, _, _, Nat.zero_le _, rfl, Set1.start w⟩
  case round =>
    obtain ⟨k, L, A, D, sf, hk, rfl, HS⟩ := hrel
    by_cases hlt : k < 4
    · have z : w.heap.size + 3 ≤ wr.heap.size := by rw [HS.out.size]; omega
      obtain ⟨⟨va, a1⟩, a2⟩ := HS.out.tab 0 (by omega) k hlt
      obtain ⟨⟨vb, b1⟩, b2⟩ := HS.out.tab 1 (by omega) k hlt
      obtain ⟨⟨vd, d1⟩, d2⟩ := HS.out.tab 2 (by omega) k hlt
      rw [Nat.add_zero] at a1 a2
      rw [show w.heap.size + 2 = w.heap.size + 1 + 1 from rfl] at d1 d2
      have hk4 : (k : Int) < 4 := by omega
      clear hms m1 m2 m3
      go_wp2
      go_region_held (fun w' => w'.cell? ⟨wr.heap.size + 1, 4, none⟩ = some (.slice (some ⟨wr.heap.size, 0, none⟩) 3 3)) (go_keep) (fail)
      go_wp2
      go_region_held (fun w' => w'.cell? ⟨wr.heap.size + 1, 4, none⟩ = some (.slice (some ⟨wr.heap.size, 0, none⟩) 3 3)) (go_keep) (fail)
      obtain ⟨bA, hbA⟩ : ∃ b : Bool, (bits BinOp.and IntKind.u8 (da / 2 ^ k) 1 == 1) = b := ⟨_, rfl⟩
      obtain ⟨bD, hbD⟩ : ∃ b : Bool, (bits BinOp.and IntKind.u8 (db / 2 ^ k) 1 == 1) = b := ⟨_, rfl⟩
      obtain ⟨bL, hbL⟩ : ∃ b : Bool, (bits BinOp.and IntKind.u8 (le / 2 ^ k) 1 == 1) = b := ⟨_, rfl⟩
      obtain ⟨bS, hbS⟩ : ∃ b : Bool, (bits BinOp.and IntKind.u8 (st / 2 ^ k) 1 == 1) = b := ⟨_, rfl⟩
      simp only [hbA, hbD, hbL]
      clear hbA hbD hbL
      obtain ⟨W, hW⟩ : ∃ W, ((wr.alloc (nodesObj bA bD)).alloc (clusterObj wr.heap.size bL)).drew.drew = W := ⟨_, rfl⟩
      have HW : Hid (((wr.alloc (nodesObj bA bD)).alloc (clusterObj wr.heap.size bL)).drew.drew = W) := hW
      rw [hW]
      have gW : wr.grownBy W none := by rw [← hW]; exact grown_none_trans (grown_none_trans (grown_none_trans (grown_alloc _ _) (grown_alloc _ _)) (grown_drew _)) (grown_drew _)
      have zW : W.heap.size = wr.heap.size + 2 := by rw [← hW]; simp
      have kc : ∀ b o, b < wr.heap.size → W.cell? ⟨b, o, none⟩ = wr.cell? ⟨b, o, none⟩ := fun b o hb => World.cell?_of_block (w := wr) (gW.block b hb (by simp))
      have kf : ∀ b o, b < wr.heap.size → W.frozen? ⟨b, o, none⟩ = wr.frozen? ⟨b, o, none⟩ := fun b o hb => World.frozen?_of_block (w := wr) (gW.block b hb (by simp))
      rw [← kc _ _ (by omega)] at a1 b1 d1
      rw [← kf _ _ (by omega)] at a2 b2 d2
      have l0 : w.heap.size < W.heap.size := by omega
      have l1 : w.heap.size + 1 < W.heap.size := by omega
      have l2 : w.heap.size + 1 + 1 < W.heap.size := by omega
      have l0' : w.heap.size < W.heap.size + 1 := by omega
      have l1' : w.heap.size + 1 < W.heap.size + 1 := by omega
      have l2' : w.heap.size + 1 + 1 < W.heap.size + 1 := by omega
      clear kc kf zW hW gW z h1 h2 h3 h4 m4
      cases bS
      · go_wp2
        go_roundw
        case rel => exact ⟨k + 1, upd L k bL, upd A k bA, upd D k bD, upd sf k 1, by omega, by go_num, HS.out.step hlt bL bA bD 1 (Or.inl rfl) HW.out⟩
        case measure => simp [intOf]; omega
      · go_wp2
        go_roundw
        case rel => exact ⟨k + 1, upd L k bL, upd A k bA, upd D k bD, upd sf k 2, by omega, by go_num, HS.out.step hlt bL bA bD 2 (Or.inr rfl) HW.out⟩
        case measure => simp [intOf]; omega
    · have hk4 : k = 4 := by omega
      have hkI : (k : Int) = 4 := by omega
      rw [hkI]
      clear hkI
      subst hk4
      obtain ⟨w1, rfl⟩ : ∃ w1, w1 = wr := ⟨wr, rfl⟩
      have HM : Hid (Mem3 x n ms w) := hms
      clear hms m1 m2 m4 h1 h2 h3 h4
      go_wp2
      clear m3
      go_loopw [99] (fun i w2 => ∃ j : Nat, j ≤ n ∧ i = .int .i64 j ∧ Hid (Tab w1.heap.size (w1.heap.size + 1) 52 3 (mrows w.heap.size (ms.take j)) w2) ∧ Hid (Out (w1.heap.size + 1) w1.heap.size (w1.alloc (.cells #[.slice none 0 0, .slice none 0 0, .slice none 0 0, .slice none 0 0] 50)) w2)) (fun i _ => n - (intOf i).toNat)
      case atStart => exact ⟨0, Nat.zero_le _, rfl, tab_nil w1 _, Out.refl _ _ _⟩
      case round =>
        obtain ⟨j, hj, rfl, HT, HO⟩ := hrel
        by_cases hlt : j < n
        · obtain rfl : q0 = some x := HQ.out (by omega)
          have hbel : Below w.heap.size w wr := HS.out.below.trans (((Below.refl _ w1).alloc (by rw [HS.out.size]; omega) _).trans (HO.out.below (by rw [HS.out.size]; omega) (by rw [HS.out.size]; omega)))
          obtain ⟨a, b, i, hm, ha, hb, hi, ca, cb, ci⟩ := HM.out.below hbel j hlt
          obtain ⟨op, hop, hop4⟩ : ∃ op : Nat, a % 4 = (op : Int) ∧ op < 4 := ⟨(a % 4).toNat, by omega, by omega⟩
          obtain ⟨kc, hkc, hkc4⟩ : ∃ kc : Nat, b % 4 = (kc : Int) ∧ kc < 4 := ⟨(b % 4).toNat, by omega, by omega⟩
          obtain ⟨ii, hii, hi0, hi7⟩ : ∃ ii : Int, i % 8 = ii ∧ 0 ≤ ii ∧ ii ≤ 7 := ⟨i % 8, rfl, by omega, by omega⟩
          have hii' : (IntKind.i64.wrap i).tmod 8 = ii := by rw [← hii]; exact wrap_rem8 i hi.1 hi.2
          have HII : Hid (i % 8 = ii) := hii
          clear hii
          have hopi : (op : Int) < 4 := by omega
          have hkci : (kc : Int) < 4 := by omega
          have ha0 := ha.1
          have ha1 := ha.2
          have hb0 := hb.1
          have hb1 := hb.2
          have hi00 := hi.1
          have hi11 := hi.2
          have cb' : wr.cell? ⟨(x.add (j * 3)).block, (x.add (j * 3)).off + 1, none⟩ = some (.int .u8 b) := cb
          have ci' : wr.cell? ⟨(x.add (j * 3)).block, (x.add (j * 3)).off + 2, none⟩ = some (.int .u8 i) := ci
          clear hbel ha hb hi cb ci
          go_wp2
          try simp only [hop, hkc]
          obtain ⟨v, m, hv, hvf, hown, hfull⟩ := HT.out.row op hop4
          have sz1 := HS.out.size
          have lM : w1.heap.size < wr.heap.size := HT.out.lt
          have lN : w.heap.size < wr.heap.size := by omega
          have hptr : wr.cell? ⟨w.heap.size, kc, none⟩ = some (.pointer (some ⟨w.heap.size + 4 + 4 * kc, 0, none⟩)) := by
            rw [HO.out.cell _ (by omega) (by omega), World.cell?_alloc_past _ _ _ (by omega)]
            exact HS.out.ptr kc hkc4
          have hmlen : m ≤ j := by
            have e1 := hown.1
            simp only [mrows] at e1
            rw [flat_len] at e1
            have e2 := mls_le (ms.take j) op
            rw [List.length_take] at e2
            omega
          obtain ⟨i0, hi, hz0, hz1, hz2⟩ := info_parts info52
          have HI : Hid (Yba.prog.info? 52 = some i0 ∧ i0.zero = some (.agg #[.pointer none, .int .i64 0, .int .i64 0]) ∧ i0.size = 3 ∧ i0.bytes = 24) := ⟨hi, hz0, hz1, hz2⟩
          have HOWN : Hid (wr.ownsRow 0 52 3 v m (mrows w.heap.size (ms.take j) op)) := hown
          have HFULL : Hid (∀ g, v.ownBlock = some g → g ≠ w1.heap.size ∧ (w1.heap.size + 1 ≤ g ∨ ∃ q, v = .slice q m m)) := hfull
          have HSZ : Hid (w1.heap.size = w.heap.size + 3 + 4 * 4) := sz1
          clear hi hz0 hz1 hz2 hown hfull sz1 ca cb' ci'
          refine wp_region_F (z := 19) (S := fun w' => w'.cell? ⟨w1.heap.size, op, none⟩ = some v ∧ w'.cell? ⟨w.heap.size, kc, none⟩ = some (.pointer (some ⟨w.heap.size + 4 + 4 * kc, 0, none⟩)) ∧ w'.cell? ⟨wr.heap.size, 2, none⟩ = some (.int .u8 i)) (by kernel_rfl) ?_ (fun hHeld => ?_)
          · refine ⟨?_, ?_, ?_⟩ <;> go_simp
          refine anyF_take (i := 0) (v := ?_) rfl (by kernel_rfl) (by kernel_rfl) (by kernel_rfl) (by kernel_rfl) (fun _ _ _ h => h) (Or.inl ⟨by rfl, ?_⟩) hHeld ?_
          rotate_left
          · intro w' hSw
            obtain ⟨q1, q2, q3⟩ := hSw
            go_simp
            try rfl
          simp only [Act.put, List.setIfInBounds_toArray, List.set_cons_zero, List.set_cons_succ]
          refine anyF_take (i := 1) (v := ?_) rfl (by kernel_rfl) (by kernel_rfl) (by kernel_rfl) (by kernel_rfl) (fun _ _ _ h => h) (Or.inl ⟨by rfl, ?_⟩) hHeld ?_
          rotate_left
          · intro w' hSw
            obtain ⟨q1, q2, q3⟩ := hSw
            go_simp
            try rfl
          simp only [Act.put, List.setIfInBounds_toArray, List.set_cons_zero, List.set_cons_succ]
          refine anyF_take (i := 2) (v := ?_) rfl (by kernel_rfl) (by kernel_rfl) (by kernel_rfl) (by kernel_rfl) (fun _ _ _ h => h) (Or.inl ⟨by rfl, ?_⟩) hHeld ?_
          rotate_left
          · intro w' hSw
            obtain ⟨q1, q2, q3⟩ := hSw
            go_simp
            try rfl
          simp only [Act.put, List.setIfInBounds_toArray, List.set_cons_zero, List.set_cons_succ]
          refine anyF_take (i := 3) (v := ?_) rfl (by kernel_rfl) (by kernel_rfl) (by kernel_rfl) (by kernel_rfl) (fun _ _ _ h => h) (Or.inl ⟨by rfl, ?_⟩) hHeld ?_
          rotate_left
          · intro w' hSw
            obtain ⟨q1, q2, q3⟩ := hSw
            go_simp
            try rfl
          simp only [Act.put, List.setIfInBounds_toArray, List.set_cons_zero, List.set_cons_succ]
          refine anyF_take (i := 4) (v := ?_) rfl (by kernel_rfl) (by kernel_rfl) (by kernel_rfl) (by kernel_rfl) (fun _ _ _ h => h) (Or.inl ⟨by rfl, ?_⟩) hHeld ?_
          rotate_left
          · intro w' hSw
            obtain ⟨q1, q2, q3⟩ := hSw
            go_simp
            try rfl
          simp only [Act.put, List.setIfInBounds_toArray, List.set_cons_zero, List.set_cons_succ]
          refine anyF_take (i := 5) (v := ?_) rfl (by kernel_rfl) (by kernel_rfl) (by kernel_rfl) (by kernel_rfl) (fun _ _ _ h => h) (Or.inl ⟨by rfl, ?_⟩) hHeld ?_
          rotate_left
          · intro w' hSw
            obtain ⟨q1, q2, q3⟩ := hSw
            go_simp
            try rfl
          simp only [Act.put, List.setIfInBounds_toArray, List.set_cons_zero, List.set_cons_succ]
          refine anyF_take (i := 6) (v := ?_) rfl (by kernel_rfl) (by kernel_rfl) (by kernel_rfl) (by kernel_rfl) (fun _ _ _ h => h) (Or.inl ⟨by rfl, ?_⟩) hHeld ?_
          rotate_left
          · intro w' hSw
            obtain ⟨q1, q2, q3⟩ := hSw
            go_simp
            try rfl
          simp only [Act.put, List.setIfInBounds_toArray, List.set_cons_zero, List.set_cons_succ]
          refine anyF_take (i := 7) (v := ?_) rfl (by kernel_rfl) (by kernel_rfl) (by kernel_rfl) (by kernel_rfl) (fun _ _ _ h => h) (Or.inl ⟨by rfl, ?_⟩) hHeld ?_
          rotate_left
          · intro w' hSw
            obtain ⟨q1, q2, q3⟩ := hSw
            go_simp
            try rfl
          simp only [Act.put, List.setIfInBounds_toArray, List.set_cons_zero, List.set_cons_succ]
          refine anyF_take (i := 8) (v := ?_) rfl (by kernel_rfl) (by kernel_rfl) (by kernel_rfl) (by kernel_rfl) (fun _ _ _ h => h) (Or.inl ⟨by rfl, ?_⟩) hHeld ?_
          rotate_left
          · intro w' hSw
            obtain ⟨q1, q2, q3⟩ := hSw
            go_simp
            try rfl
          simp only [Act.put, List.setIfInBounds_toArray, List.set_cons_zero, List.set_cons_succ]
          refine anyF_take (i := 9) (v := ?_) rfl (by kernel_rfl) (by kernel_rfl) (by kernel_rfl) (by kernel_rfl) (fun _ _ _ h => h) (Or.inl ⟨by rfl, ?_⟩) hHeld ?_
          rotate_left
          · intro w' hSw
            obtain ⟨q1, q2, q3⟩ := hSw
            go_simp
            try rfl
          simp only [Act.put, List.setIfInBounds_toArray, List.set_cons_zero, List.set_cons_succ]
          refine anyF_take (i := 10) (v := ?_) rfl (by kernel_rfl) (by kernel_rfl) (by kernel_rfl) (by kernel_rfl) (fun _ _ _ h => h) (Or.inl ⟨by rfl, ?_⟩) hHeld ?_
          rotate_left
          · intro w' hSw
            obtain ⟨q1, q2, q3⟩ := hSw
            go_simp
            try rfl
          simp only [Act.put, List.setIfInBounds_toArray, List.set_cons_zero, List.set_cons_succ]
          refine anyF_take (i := 11) (v := ?_) rfl (by kernel_rfl) (by kernel_rfl) (by kernel_rfl) (by kernel_rfl) (fun _ _ _ h => h) (Or.inl ⟨by rfl, ?_⟩) hHeld ?_
          rotate_left
          · intro w' hSw
            obtain ⟨q1, q2, q3⟩ := hSw
            go_simp
            try rfl
          simp only [Act.put, List.setIfInBounds_toArray, List.set_cons_zero, List.set_cons_succ]
          refine anyF_take (i := 12) (v := ?_) rfl (by kernel_rfl) (by kernel_rfl) (by kernel_rfl) (by kernel_rfl) (fun _ _ _ h => h) (Or.inl ⟨by rfl, ?_⟩) hHeld ?_
          rotate_left
          · intro w' hSw
            obtain ⟨q1, q2, q3⟩ := hSw
            go_simp
            try rfl
          simp only [Act.put, List.setIfInBounds_toArray, List.set_cons_zero, List.set_cons_succ]
          refine anyF_take (i := 13) (v := ?_) rfl (by kernel_rfl) (by kernel_rfl) (by kernel_rfl) (by kernel_rfl) (fun _ _ _ h => h) (Or.inl ⟨by rfl, ?_⟩) hHeld ?_
          rotate_left
          · intro w' hSw
            obtain ⟨q1, q2, q3⟩ := hSw
            go_simp
            try rfl
          simp only [Act.put, List.setIfInBounds_toArray, List.set_cons_zero, List.set_cons_succ]
          refine anyF_take (i := 14) (v := ?_) rfl (by kernel_rfl) (by kernel_rfl) (by kernel_rfl) (by kernel_rfl) (fun _ _ _ h => h) (Or.inl ⟨by rfl, ?_⟩) hHeld ?_
          rotate_left
          · intro w' hSw
            obtain ⟨q1, q2, q3⟩ := hSw
            go_simp
            try rfl
          simp only [Act.put, List.setIfInBounds_toArray, List.set_cons_zero, List.set_cons_succ]
          refine anyF_take (i := 15) (v := ?_) rfl (by kernel_rfl) (by kernel_rfl) (by kernel_rfl) (by kernel_rfl) (fun _ _ _ h => h) (Or.inl ⟨by rfl, ?_⟩) hHeld ?_
          rotate_left
          · intro w' hSw
            obtain ⟨q1, q2, q3⟩ := hSw
            go_simp
            try rfl
          simp only [Act.put, List.setIfInBounds_toArray, List.set_cons_zero, List.set_cons_succ]
          refine anyF_one (i := 16) (by kernel_rfl) rfl (fun K hK => ?_)
          go_simp
          obtain ⟨W, hW⟩ : ∃ W, ((wr.alloc (.cells #[.int .u8 a, .int .u8 b, .int .u8 i] 49)).alloc (.cells #[.pointer (some ⟨w.heap.size + 4 + 4 * kc, 0, none⟩), .int .i64 kc, .int .i64 ii] 52)).drew = W := ⟨_, rfl⟩
          have g3 : wr.grownBy W none := by rw [← hW]; exact grown_none_trans (grown_none_trans (grown_alloc _ _) (grown_alloc _ _)) (grown_drew _)
          have hnew : ∀ q u, ([.pointer (some ⟨w.heap.size + 4 + 4 * kc, 0, none⟩), .int .i64 kc, .int .i64 ii] : List Value)[q]? = some u → W.cell? ((⟨wr.heap.size + 1, 0, none⟩ : Addr).add q) = some u := by
            intro q u hq
            rw [← hW]
            match q, hq with
            | 0, hq => simp at hq; subst hq; simp [Addr.add]
            | 1, hq => simp at hq; subst hq; simp [Addr.add]
            | 2, hq => simp at hq; subst hq; simp [Addr.add]
          have hm2 : W.cell? ⟨wr.heap.size, 2, none⟩ = some (.int .u8 i) := by
            rw [← hW]
            clear hW g3 hnew
            go_simp
          have sW2 : W.heap.size = wr.heap.size + 2 := by rw [← hW]; simp
          rw [hW]
          clear hW
          have k3 : ∀ b o, b < wr.heap.size → W.cell? ⟨b, o, none⟩ = wr.cell? ⟨b, o, none⟩ := fun b o hb => World.cell?_of_block (w := wr) (g3.block b hb (by simp))
          have sW : wr.heap.size ≤ W.heap.size := g3.size
          refine hK.out _ _ ⟨by rw [k3 _ _ lM]; exact hv, by rw [k3 _ _ lN]; exact hptr, hm2⟩ (fun hHeld3 => ?_)
          clear hK K hHeld
          have hT3 : Tab w1.heap.size (w1.heap.size + 1) 52 3 (mrows w.heap.size (ms.take j)) W := HT.out.grown g3
          refine anyF_one (i := 17) (by kernel_rfl) rfl (fun K hK => ?_)
          refine step_append_more _ rfl (.tmp 116) (.tmp 127) 50 rfl (w1.heap.size + 1) 52 i0 (.agg #[.pointer none, .int .i64 0, .int .i64 0]) 3 24 Yba.underlying50 HI.out.1 HI.out.2.1 HI.out.2.2.1 HI.out.2.2.2 rfl (by decide) v m (mrows w.heap.size (ms.take j) op) rfl (HOWN.out.kept g3 (by cases v.ownBlock <;> simp)) (fun b hb => (HFULL.out b hb).2) ⟨wr.heap.size + 1, 0, none⟩ 1 [.pointer (some ⟨w.heap.size + 4 + 4 * kc, 0, none⟩), .int .i64 kc, .int .i64 ii] rfl rfl hnew (by simp [Value.oneCell']) (by simp only [maxLen]; omega) (by omega) (by omega) ?_
          intro v' w4 hown4 hgrow4 hnew4 hwhich4
          obtain ⟨g', cap', hv'⟩ : ∃ g' cap', v' = .slice (some ⟨g', 0, none⟩) (m + 1) cap' := by
            rcases hown4.2 with ⟨_, h1⟩ | ⟨g', cap', _, h1, _⟩
            · omega
            · exact ⟨g', cap', h1⟩
          subst hv'
          have hst := hT3.step hop4 (by omega) hHeld3.1 hown4 hgrow4 hnew4 hwhich4
          have hne4 : ∀ b, b < W.heap.size → (b < w1.heap.size + 1 ∨ b = wr.heap.size) → w4.heap[b]? = W.heap[b]? := by
            intro b hb hcase
            obtain ⟨row, hg, hrow, hrB⟩ := hgrow4
            refine hg.block b hb ?_
            intro e1
            have e2 := hrB b e1.symm
            rcases hrow with rfl | rfl
            · cases e1
            · have e3 := (HOWN.out.lt b e1.symm).2
              omega
          have k4 : ∀ b o, b < W.heap.size → (b < w1.heap.size + 1 ∨ b = wr.heap.size) → w4.cell? ⟨b, o, none⟩ = W.cell? ⟨b, o, none⟩ := fun b o h1 h2 => World.cell?_of_block (w := W) (hne4 b h1 h2)
          have f4 : w4.frozen? ⟨w1.heap.size, op, none⟩ = false := by
            rw [World.frozen?_of_block (w := W) (hne4 w1.heap.size (by omega) (Or.inl (by omega))), World.frozen?_of_block (w := wr) (g3.block _ lM (by simp))]
            exact hvf
          refine hK.out _ _ ⟨?_, ?_, ?_⟩ (fun hHeld4 => ?_)
          · rw [k4 _ _ (by omega) (Or.inl (by omega))]; exact hHeld3.1
          · rw [k4 _ _ (by omega) (Or.inl (by have := HSZ.out; omega))]; exact hHeld3.2.1
          · rw [k4 _ _ (by omega) (Or.inr rfl)]; exact hHeld3.2.2
          clear hK K hHeld3 k4 hgrow4 hnew4 hwhich4 hne4
          simp only [Act.put, List.getElem_toArray, List.getElem_cons_succ, List.getElem_cons_zero, List.setIfInBounds_toArray, List.set_cons_zero, List.set_cons_succ]
          refine anyF_take (i := 18) (v := ?_) rfl (by kernel_rfl) (by kernel_rfl) (by kernel_rfl) (by kernel_rfl) (fun _ _ _ h => h) (Or.inl ⟨by rfl, ?_⟩) hHeld4 ?_
          rotate_left
          · intro w' hSw
            obtain ⟨q1, q2, q3⟩ := hSw
            go_simp
            try rfl
          simp only [Act.put, List.setIfInBounds_toArray, List.set_cons_zero, List.set_cons_succ]
          have c4 := hHeld4.1
          clear hHeld4
          refine anyF_last (by kernel_rfl) rfl (fun K hK => ?_)
          go_simp
          refine hK.out _ _ ?_
          clear hK K
          refine anyF_done (by kernel_rfl) ?_ _
          have hfin : Hid (Tab w1.heap.size (w1.heap.size + 1) 52 3 (mrows w.heap.size (ms.take (j + 1))) (w4.setCell ⟨w1.heap.size, op, none⟩ (.slice (some ⟨g', 0, none⟩) (m + 1) cap')) ∧ Out (w1.heap.size + 1) w1.heap.size (w1.alloc (.cells #[.slice none 0 0, .slice none 0 0, .slice none 0 0, .slice none 0 0] 50)) (w4.setCell ⟨w1.heap.size, op, none⟩ (.slice (some ⟨g', 0, none⟩) (m + 1) cap'))) := by
            refine ⟨?_, HO.out.trans ((Out.grown g3 (by omega) (fun b hb => by cases hb)).trans hst.2)⟩
            have e1 : mrows w.heap.size (ms.take (j + 1)) = fun p => if p = op then mrows w.heap.size (ms.take j) op ++ [.pointer (some ⟨w.heap.size + 4 + 4 * kc, 0, none⟩), .int .i64 kc, .int .i64 ii] else mrows w.heap.size (ms.take j) p := by
              rw [take_snoc hm]
              funext p
              by_cases e3 : p = op
              · subst e3
                have e4 : (b % 4).toNat = kc := by omega
                simp only [mrows, if_pos]
                rw [mls_snoc_yes _ _ _ _ _ hop, List.flatMap_append, HII.out, e4]
                simp [mcells]
              · simp only [mrows, if_neg e3]
                rw [mls_snoc_no _ _ _ _ _ (by omega)]
            rw [e1]
            exact hst.1
          clear hst hown4 hT3 g3 HOWN HT
          go_wp2
          go_roundw
          case rel => exact ⟨j + 1, by omega, by go_num, hfin.out.1, hfin.out.2⟩
          case measure => simp [intOf]; omega
        · have hjn : j = n := by omega
          have HT2 : Hid (Tab w1.heap.size (w1.heap.size + 1) 52 3 (mrows w.heap.size (ms.take n)) wr) := by rw [hjn] at HT; exact HT
          have sz1 := HS.out.size
          have hbel : Below w.heap.size w wr := HS.out.below.trans (((Below.refl _ w1).alloc (by omega) _).trans (HO.out.below (by omega) (by omega)))
          have zR : w.heap.size + 20 ≤ wr.heap.size := by
            have := HO.out.size
            simp at this
            omega
          have hout1 : Out w1.heap.size w1.heap.size w1 wr := by
            refine (Out.grown (grown_alloc w1 (.cells #[.slice none 0 0, .slice none 0 0, .slice none 0 0, .slice none 0 0] 50)) (Nat.le_refl _) (fun g hg => by cases hg)).trans ?_
            exact ⟨HO.out.os, HO.out.tape, HO.out.output, HO.out.size, fun k h1 h2 => HO.out.block k (by omega) h2⟩
          have HC : Hid (Cls w.heap.size L A D wr) := (HS.out.cls).out hout1 (by omega) (by omega)
          have hsf : ∀ k, k < 4 → sf k = 1 ∨ sf k = 2 := HS.out.st12
          have sTP : w.heap.size < w1.heap.size ∧ w.heap.size + 1 < w1.heap.size ∧ w.heap.size + 1 + 1 < w1.heap.size := ⟨by omega, by omega, by omega⟩
          have HPT : Hid (∀ k, k < 4 → wr.cell? ⟨w.heap.size, k, none⟩ = some (.pointer (some ⟨w.heap.size + 4 + 4 * k, 0, none⟩))) := fun k hk => by
            rw [hout1.cell _ (by omega) (by omega)]; exact HS.out.ptr k hk
          have HPA : Hid (∀ k, k < 4 → wr.cell? ⟨w.heap.size + 1, k, none⟩ = some (.slice (some ⟨w.heap.size + 5 + 4 * k, 0, none⟩) 1 1) ∧ wr.frozen? ⟨w.heap.size + 1, k, none⟩ = false ∧ wr.heap[w.heap.size + 5 + 4 * k]? = some (oneObj (sf k))) := fun k hk => by
            rw [hout1.cell _ (by omega) (by omega), hout1.frozen _ (by omega) (by omega), hout1.block _ (by omega) (by omega)]
            exact ⟨(HS.out.pa k hk).1, (HS.out.tab 1 (by omega) k hk).2, (HS.out.pa k hk).2⟩
          have HEX : Hid (Tab (w.heap.size + 1 + 1) wr.heap.size 21 1 (i32s fun o => [sf o]) wr) := by
            refine tab_of _ _ (fun j => w.heap.size + 6 + 4 * j) sf wr (fun k hk => ?_) (fun i j h => by omega) (fun j => by omega) (by omega)
            rw [hout1.cell _ (by omega) (by omega), hout1.frozen _ (by omega) (by omega), hout1.block _ (by omega) (by omega)]
            exact ⟨(HS.out.ex k hk).1, (HS.out.tab 2 (by omega) k hk).2, (HS.out.ex k hk).2⟩
          have HBEL : Hid (Below w.heap.size w wr) := hbel
          obtain ⟨w2, rfl⟩ : ∃ w2, w2 = wr := ⟨wr, rfl⟩
          obtain ⟨M, hM⟩ : ∃ M, w1.heap.size = M := ⟨_, rfl⟩
          rw [hM] at HT2 sz1 sTP
          have HSZ1 : Hid (M = w.heap.size + 3 + 4 * 4) := sz1
          clear sz1
          simp only [hM]
          clear hM HT HO hbel hout1 HS hjn
          go_wp2
          rw [hoi]
          clear ho hlt hj hoi
          go_loopw [136] (fun i w3 => ∃ j : Nat, j ≤ n ∧ i = .int .i64 j ∧ Hid (Tab (w.heap.size + 1 + 1) w2.heap.size 21 1 (i32s (advs L A D (fun o => [sf o]) (mls (ms.take j) oi))) w3) ∧ Hid (Out w2.heap.size (w.heap.size + 1 + 1) w2 w3)) (fun i _ => n - (intOf i).toNat)
          case atStart => exact ⟨0, Nat.zero_le _, rfl, HEX, Out.refl _ _ _⟩
          case round =>
            obtain ⟨j', hj, rfl, HT, HO⟩ := hrel
            by_cases hlt : j' < n
            · obtain rfl : q0 = some x := HQ.out (by omega)
              have hbel : Below w.heap.size w wr := HBEL.out.trans (HO.out.below (by omega) (by omega))
              obtain ⟨a, b, i, hm, ha, hb, hi, ca, cb, ci⟩ := HM.out.below hbel j' hlt
              obtain ⟨op, hop, hop4⟩ : ∃ op : Nat, a % 4 = (op : Int) ∧ op < 4 := ⟨(a % 4).toNat, by omega, by omega⟩
              obtain ⟨kc, hkc, hkc4⟩ : ∃ kc : Nat, b % 4 = (kc : Int) ∧ kc < 4 := ⟨(b % 4).toNat, by omega, by omega⟩
              have hkci : (kc : Int) < 4 := by omega
              have ha0 := ha.1
              have ha1 := ha.2
              have hb0 := hb.1
              have hb1 := hb.2
              have cb' : wr.cell? ⟨(x.add (j' * 3)).block, (x.add (j' * 3)).off + 1, none⟩ = some (.int .u8 b) := cb
              have ci' : wr.cell? ⟨(x.add (j' * 3)).block, (x.add (j' * 3)).off + 2, none⟩ = some (.int .u8 i) := ci
              have hzz := HO.out.size
              clear hbel ha hb hi cb ci
              by_cases e : op = oi
              · subst e
                have HM1 : Hid (mls (ms.take (j' + 1)) op = mls (ms.take j') op ++ [(kc, i % 8)]) := by
                  rw [take_snoc hm, mls_snoc_yes _ _ _ _ _ hop]
                  have e4 : (b % 4).toNat = kc := by omega
                  rw [e4]
                  exact rfl
                have hC : Cls w.heap.size L A D wr := HC.out.out HO.out (by omega) (by omega)
                have hptr : wr.cell? ⟨w.heap.size, kc, none⟩ = some (.pointer (some ⟨w.heap.size + 4 + 4 * kc, 0, none⟩)) := by
                  rw [HO.out.cell _ (by omega) (by omega)]; exact HPT.out kc hkc4
                have h5 := hC.c5 kc hkc4
                have lN : w.heap.size < wr.heap.size := by omega
                have lK : w.heap.size + 4 + 4 * kc < wr.heap.size := by omega
                cases hL : L kc
                · rw [hL] at h5
                  have HM2 : Hid (advs L A D (fun o => [sf o]) (mls (ms.take (j' + 1)) op) = advs L A D (fun o => [sf o]) (mls (ms.take j') op)) := by
                    rw [HM1.out, advs_snoc]
                    simp [Hid, adv, hL]
                  clear hC
                  go_wp2
                  go_roundw
                  case rel =>
                    refine ⟨j' + 1, by omega, by go_num, ?_, ?_⟩
                    · rw [HM2.out]; exact HT.out.alloc _
                    · exact HO.out.trans (Out.grown (grown_alloc _ _) (by omega) (fun b hb => by cases hb))
                  case measure => simp [intOf]; omega
                · rw [hL] at h5
                  obtain ⟨R', hR'⟩ : ∃ R', advs L A D (fun o => [sf o]) (mls (ms.take j') op) = R' := ⟨_, rfl⟩
                  have hgood : Good R' := by
                    rw [← hR']
                    refine Good.advs (fun o ho => ⟨by simp, fun x hx => ?_⟩) (fun x hx => (mls_good _ _ x hx).1)
                    simp at hx
                    subst hx
                    rcases hsf o ho with h | h <;> omega
                  have hlen : (R' kc).length ≤ 1 + n := by
                    rw [← hR']
                    have e1 := advs_len L A D kc (mls (ms.take j') op) (fun o => [sf o])
                    have e2 := mls_le (ms.take j') op
                    rw [List.length_take] at e2
                    simp only [List.length_cons, List.length_nil] at e1
                    omega
                  have HM2 : Hid (advs L A D (fun o => [sf o]) (mls (ms.take (j' + 1)) op) = adv1 A D R' kc) := by
                    rw [HM1.out, advs_snoc, hR']
                    simp [Hid, adv, hL]
                  rw [hR'] at HT
                  clear hR' HM1
                  obtain ⟨v, m, hv, hvf, hown, hfull⟩ := HT.out.row kc hkc4
                  obtain ⟨p, g, cap, ⟨hp1, hp2⟩, hvv, hlast⟩ := row_last hown (hgood kc hkc4).1
                  subst hvv
                  subst hp2
                  obtain ⟨l, hl⟩ : ∃ l, lastOf (R' kc) = l := ⟨_, rfl⟩
                  have hl02 := hgood.last hkc4
                  rw [hl] at hl02 hlast
                  have HLL : Hid (lastOf (R' kc) = l) := hl
                  have hl0 := hl02.1
                  have hl2 := hl02.2
                  have hl3 : l < 3 := by omega
                  have h4 := hC.c4 kc hkc4
                  have hn2 := hC.n2 kc hkc4 l hl0 hl2
                  have lT : w.heap.size + 1 + 1 < wr.heap.size := by omega
                  have lg : g < wr.heap.size := World.block_lt_of_cell? wr _ hlast
                  have lND : w.heap.size + 3 + 4 * kc < wr.heap.size := by omega
                  have HOWN : Hid (wr.ownsRow 0 21 1 (.slice (some ⟨g, 0, none⟩) (p + 1) cap) (p + 1) (i32s R' kc)) := hown
                  have HFULL : Hid (∀ g', (Value.slice (some ⟨g, 0, none⟩) (p + 1) cap).ownBlock = some g' → g' ≠ w.heap.size + 1 + 1 ∧ (w2.heap.size ≤ g' ∨ ∃ q, Value.slice (some ⟨g, 0, none⟩) (p + 1) cap = .slice q (p + 1) (p + 1))) := hfull
                  clear hC hown hfull hl hl02 hgood hsf
                  go_wp2
                  clear ca cb' ci'
                  go_quiet (fail)
                  obtain ⟨W, hW⟩ : ∃ W, (wr.alloc (.cells #[.int .u8 a, .int .u8 b, .int .u8 i] 49)).drewN nq = W := ⟨_, rfl⟩
                  have gW : wr.grownBy W none := by rw [← hW]; exact grown_none_trans (grown_alloc _ _) (grown_drewN _ _)
                  rw [hW]
                  clear hW
                  have sW := gW.size
                  have kW : ∀ b o, b < wr.heap.size → W.cell? ⟨b, o, none⟩ = wr.cell? ⟨b, o, none⟩ := fun b o hb => World.cell?_of_block (w := wr) (gW.block b hb (by simp))
                  have fW : ∀ b o, b < wr.heap.size → W.frozen? ⟨b, o, none⟩ = wr.frozen? ⟨b, o, none⟩ := fun b o hb => World.frozen?_of_block (w := wr) (gW.block b hb (by simp))
                  rw [← kW _ _ lN] at hptr
                  rw [← kW _ _ lT] at hv
                  rw [← kW _ _ lK] at h4
                  rw [← kW _ _ lND] at hn2
                  rw [← fW _ _ lT] at hvf
                  have HTW : Hid (Tab (w.heap.size + 1 + 1) w2.heap.size 21 1 (i32s R') W) := HT.out.grown gW
                  have HOWNW : Hid (W.ownsRow 0 21 1 (.slice (some ⟨g, 0, none⟩) (p + 1) cap) (p + 1) (i32s R' kc)) := HOWN.out.kept gW (by simp [Value.ownBlock])
                  have HOW : Hid (Out w2.heap.size (w.heap.size + 1 + 1) w2 W) := HO.out.trans (Out.grown gW (by omega) (fun b hb => by cases hb))
                  have hwW : w2.heap.size ≤ W.heap.size := by omega
                  have lN' : w.heap.size < W.heap.size := by omega
                  have lT' : w.heap.size + 1 + 1 < W.heap.size := by omega
                  have lK' : w.heap.size + 4 + 4 * kc < W.heap.size := by omega
                  have lND' : w.heap.size + 3 + 4 * kc < W.heap.size := by omega
                  obtain ⟨i0, hi, hz0, hz1, hz2⟩ := info_parts info21
                  have HI : Hid (Yba.prog.info? 21 = some i0 ∧ i0.zero = some (.int .i32 0) ∧ i0.size = 1 ∧ i0.bytes = 4) := ⟨hi, hz0, hz1, hz2⟩
                  clear kW fW gW sW HT HOWN HO lN lT lK lND lg hlast h5 hi hz0 hz1 hz2 hzz
                  by_cases hlz : l = 0
                  · have HNX : Hid (nx A D kc l = 0) := by simp [Hid, nx, dn, hlz]
                    have hlz' : (l == 0) = true := by simp [hlz]
                    clear hn2 h4 hptr
                    go_wp2_with (at_builtin; go_loud (refine wpList_append_more _ rfl _ _ 44 rfl w2.heap.size 21 i0 (.int .i32 0) 1 4 Yba.underlying44 HI.out.1 HI.out.2.1 HI.out.2.2.1 HI.out.2.2.2 rfl (by decide) (.slice (some ⟨g, 0, none⟩) (p + 1) cap) (p + 1) (i32s R' kc) rfl (HOWNW.out.kept (grown_alloc _ _) (by simp [Value.ownBlock])) (fun b hb => (HFULL.out b hb).2) ⟨W.heap.size, 0, none⟩ 1 [.int .i32 0] rfl rfl ?c1 ?c2 ?c3 ?c4 ?c5 ?_))
                    case c1 =>
                      intro q u hq
                      match q, hq with
                      | 0, hq => simp at hq; subst hq; simp [Addr.add]
                    case c2 => simp [Value.oneCell']
                    case c3 => simp only [maxLen]; omega
                    case c4 => omega
                    case c5 => simp; omega
                    intro v' w4 hown4 row0 hg0 hrow0 hrB0 hnew4 hwhich4
                    have hgrow4 : ∃ row, (W.alloc (.cells #[.int .i32 0] 21)).grownBy w4 row ∧ (row = none ∨ row = (Value.slice (some ⟨g, 0, none⟩) (p + 1) cap).ownBlock) ∧ ∀ g', row = some g' → w2.heap.size ≤ g' := ⟨row0, hg0, hrow0, hrB0⟩
                    clear hg0 hrow0 hrB0
                    obtain ⟨g', cap', hv'⟩ : ∃ g' cap', v' = .slice (some ⟨g', 0, none⟩) (p + 1 + 1) cap' := by
                      rcases hown4.2 with ⟨_, h1⟩ | ⟨g', cap', _, h1, _⟩
                      · omega
                      · exact ⟨g', cap', h1⟩
                    subst hv'
                    have hblk : w4.heap[w.heap.size + 1 + 1]? = W.heap[w.heap.size + 1 + 1]? := by
                      obtain ⟨row, hg, hrow, hrB⟩ := hgrow4
                      have hne : some (w.heap.size + 1 + 1) ≠ row := by
                        intro e1
                        have h1 := hrB _ e1.symm
                        omega
                      rw [hg.block _ (by simp; omega) hne]
                      exact (grown_alloc W _).block _ lT' (by simp)
                    have c4 : w4.cell? ⟨w.heap.size + 1 + 1, kc, none⟩ = some (.slice (some ⟨g, 0, none⟩) (p + 1) cap) := by rw [World.cell?_of_block (w := W) hblk]; exact hv
                    have f4 : w4.frozen? ⟨w.heap.size + 1 + 1, kc, none⟩ = false := by rw [World.frozen?_of_block (w := W) hblk]; exact hvf
                    have hst := (HTW.out.alloc (.cells #[.int .i32 0] 21)).step hkc4 (by simp; omega) (by rw [World.cell?_alloc_past _ _ _ lT']; exact hv) hown4 hgrow4 hnew4 (by simpa using hwhich4)
                    have hfin : Hid (Tab (w.heap.size + 1 + 1) w2.heap.size 21 1 (i32s (adv1 A D R' kc)) (w4.setCell ⟨w.heap.size + 1 + 1, kc, none⟩ (.slice (some ⟨g', 0, none⟩) (p + 1 + 1) cap')) ∧ Out w2.heap.size (w.heap.size + 1 + 1) w2 (w4.setCell ⟨w.heap.size + 1 + 1, kc, none⟩ (.slice (some ⟨g', 0, none⟩) (p + 1 + 1) cap'))) := by
                      refine ⟨?_, HOW.out.trans ((Out.grown (grown_alloc _ _) hwW (fun b hb => by cases hb)).trans hst.2)⟩
                      have e1 : i32s (adv1 A D R' kc) = fun p => if p = kc then i32s R' kc ++ [Value.int .i32 0] else i32s R' p := by
                        funext q
                        by_cases e3 : q = kc
                        · subst e3
                          simp [i32s, adv1, HLL.out, HNX.out]
                        · simp [i32s, adv1, e3]
                      rw [e1]
                      exact hst.1
                    clear hst hown4 hgrow4 hnew4 hwhich4 hblk HTW HOW HOWNW hv hvf
                    go_wp2
                    go_roundw
                    case rel => exact ⟨j' + 1, by omega, by go_num, by rw [HM2.out]; exact hfin.out.1, hfin.out.2⟩
                    case measure => simp [intOf]; omega
                  · cases hd : dn A D kc l
                    · have HNX : Hid (nx A D kc l = 0) := by simp [Hid, nx, hd]
                      rw [hd] at hn2
                      go_wp2_with (at_builtin; go_loud (refine wpList_append_more _ rfl _ _ 44 rfl w2.heap.size 21 i0 (.int .i32 0) 1 4 Yba.underlying44 HI.out.1 HI.out.2.1 HI.out.2.2.1 HI.out.2.2.2 rfl (by decide) (.slice (some ⟨g, 0, none⟩) (p + 1) cap) (p + 1) (i32s R' kc) rfl (HOWNW.out.kept (grown_alloc _ _) (by simp [Value.ownBlock])) (fun b hb => (HFULL.out b hb).2) ⟨W.heap.size, 0, none⟩ 1 [.int .i32 0] rfl rfl ?c1 ?c2 ?c3 ?c4 ?c5 ?_))
                      case c1 =>
                        intro q u hq
                        match q, hq with
                        | 0, hq => simp at hq; subst hq; simp [Addr.add]
                      case c2 => simp [Value.oneCell']
                      case c3 => simp only [maxLen]; omega
                      case c4 => omega
                      case c5 => simp; omega
                      intro v' w4 hown4 row0 hg0 hrow0 hrB0 hnew4 hwhich4
                      have hgrow4 : ∃ row, (W.alloc (.cells #[.int .i32 0] 21)).grownBy w4 row ∧ (row = none ∨ row = (Value.slice (some ⟨g, 0, none⟩) (p + 1) cap).ownBlock) ∧ ∀ g', row = some g' → w2.heap.size ≤ g' := ⟨row0, hg0, hrow0, hrB0⟩
                      clear hg0 hrow0 hrB0
                      obtain ⟨g', cap', hv'⟩ : ∃ g' cap', v' = .slice (some ⟨g', 0, none⟩) (p + 1 + 1) cap' := by
                        rcases hown4.2 with ⟨_, h1⟩ | ⟨g', cap', _, h1, _⟩
                        · omega
                        · exact ⟨g', cap', h1⟩
                      subst hv'
                      have hblk : w4.heap[w.heap.size + 1 + 1]? = W.heap[w.heap.size + 1 + 1]? := by
                        obtain ⟨row, hg, hrow, hrB⟩ := hgrow4
                        have hne : some (w.heap.size + 1 + 1) ≠ row := by
                          intro e1
                          have h1 := hrB _ e1.symm
                          omega
                        rw [hg.block _ (by simp; omega) hne]
                        exact (grown_alloc W _).block _ lT' (by simp)
                      have c4 : w4.cell? ⟨w.heap.size + 1 + 1, kc, none⟩ = some (.slice (some ⟨g, 0, none⟩) (p + 1) cap) := by rw [World.cell?_of_block (w := W) hblk]; exact hv
                      have f4 : w4.frozen? ⟨w.heap.size + 1 + 1, kc, none⟩ = false := by rw [World.frozen?_of_block (w := W) hblk]; exact hvf
                      have hst := (HTW.out.alloc (.cells #[.int .i32 0] 21)).step hkc4 (by simp; omega) (by rw [World.cell?_alloc_past _ _ _ lT']; exact hv) hown4 hgrow4 hnew4 (by simpa using hwhich4)
                      have hfin : Hid (Tab (w.heap.size + 1 + 1) w2.heap.size 21 1 (i32s (adv1 A D R' kc)) (w4.setCell ⟨w.heap.size + 1 + 1, kc, none⟩ (.slice (some ⟨g', 0, none⟩) (p + 1 + 1) cap')) ∧ Out w2.heap.size (w.heap.size + 1 + 1) w2 (w4.setCell ⟨w.heap.size + 1 + 1, kc, none⟩ (.slice (some ⟨g', 0, none⟩) (p + 1 + 1) cap'))) := by
                        refine ⟨?_, HOW.out.trans ((Out.grown (grown_alloc _ _) hwW (fun b hb => by cases hb)).trans hst.2)⟩
                        have e1 : i32s (adv1 A D R' kc) = fun p => if p = kc then i32s R' kc ++ [Value.int .i32 0] else i32s R' p := by
                          funext q
                          by_cases e3 : q = kc
                          · subst e3
                            simp [i32s, adv1, HLL.out, HNX.out]
                          · simp [i32s, adv1, e3]
                        rw [e1]
                        exact hst.1
                      clear hst hown4 hgrow4 hnew4 hwhich4 hblk HTW HOW HOWNW hv hvf
                      go_wp2
                      go_roundw
                      case rel => exact ⟨j' + 1, by omega, by go_num, by rw [HM2.out]; exact hfin.out.1, hfin.out.2⟩
                      case measure => simp [intOf]; omega
                    · have HNX : Hid (nx A D kc l = l) := by simp [Hid, nx, hd]
                      rw [hd] at hn2
                      go_wp2_with (at_builtin; go_loud (refine wpList_append_more _ rfl _ _ 44 rfl w2.heap.size 21 i0 (.int .i32 0) 1 4 Yba.underlying44 HI.out.1 HI.out.2.1 HI.out.2.2.1 HI.out.2.2.2 rfl (by decide) (.slice (some ⟨g, 0, none⟩) (p + 1) cap) (p + 1) (i32s R' kc) rfl (HOWNW.out.kept (grown_alloc _ _) (by simp [Value.ownBlock])) (fun b hb => (HFULL.out b hb).2) ⟨W.heap.size, 0, none⟩ 1 [.int .i32 l] rfl rfl ?c1 ?c2 ?c3 ?c4 ?c5 ?_))
                      case c1 =>
                        intro q u hq
                        match q, hq with
                        | 0, hq => simp at hq; subst hq; simp [Addr.add]
                      case c2 => simp [Value.oneCell']
                      case c3 => simp only [maxLen]; omega
                      case c4 => omega
                      case c5 => simp; omega
                      intro v' w4 hown4 row0 hg0 hrow0 hrB0 hnew4 hwhich4
                      have hgrow4 : ∃ row, (W.alloc (.cells #[.int .i32 l] 21)).grownBy w4 row ∧ (row = none ∨ row = (Value.slice (some ⟨g, 0, none⟩) (p + 1) cap).ownBlock) ∧ ∀ g', row = some g' → w2.heap.size ≤ g' := ⟨row0, hg0, hrow0, hrB0⟩
                      clear hg0 hrow0 hrB0
                      obtain ⟨g', cap', hv'⟩ : ∃ g' cap', v' = .slice (some ⟨g', 0, none⟩) (p + 1 + 1) cap' := by
                        rcases hown4.2 with ⟨_, h1⟩ | ⟨g', cap', _, h1, _⟩
                        · omega
                        · exact ⟨g', cap', h1⟩
                      subst hv'
                      have hblk : w4.heap[w.heap.size + 1 + 1]? = W.heap[w.heap.size + 1 + 1]? := by
                        obtain ⟨row, hg, hrow, hrB⟩ := hgrow4
                        have hne : some (w.heap.size + 1 + 1) ≠ row := by
                          intro e1
                          have h1 := hrB _ e1.symm
                          omega
                        rw [hg.block _ (by simp; omega) hne]
                        exact (grown_alloc W _).block _ lT' (by simp)
                      have c4 : w4.cell? ⟨w.heap.size + 1 + 1, kc, none⟩ = some (.slice (some ⟨g, 0, none⟩) (p + 1) cap) := by rw [World.cell?_of_block (w := W) hblk]; exact hv
                      have f4 : w4.frozen? ⟨w.heap.size + 1 + 1, kc, none⟩ = false := by rw [World.frozen?_of_block (w := W) hblk]; exact hvf
                      have hst := (HTW.out.alloc (.cells #[.int .i32 l] 21)).step hkc4 (by simp; omega) (by rw [World.cell?_alloc_past _ _ _ lT']; exact hv) hown4 hgrow4 hnew4 (by simpa using hwhich4)
                      have hfin : Hid (Tab (w.heap.size + 1 + 1) w2.heap.size 21 1 (i32s (adv1 A D R' kc)) (w4.setCell ⟨w.heap.size + 1 + 1, kc, none⟩ (.slice (some ⟨g', 0, none⟩) (p + 1 + 1) cap')) ∧ Out w2.heap.size (w.heap.size + 1 + 1) w2 (w4.setCell ⟨w.heap.size + 1 + 1, kc, none⟩ (.slice (some ⟨g', 0, none⟩) (p + 1 + 1) cap'))) := by
                        refine ⟨?_, HOW.out.trans ((Out.grown (grown_alloc _ _) hwW (fun b hb => by cases hb)).trans hst.2)⟩
                        have e1 : i32s (adv1 A D R' kc) = fun p => if p = kc then i32s R' kc ++ [Value.int .i32 l] else i32s R' p := by
                          funext q
                          by_cases e3 : q = kc
                          · subst e3
                            simp [i32s, adv1, HLL.out, HNX.out]
                          · simp [i32s, adv1, e3]
                        rw [e1]
                        exact hst.1
                      clear hst hown4 hgrow4 hnew4 hwhich4 hblk HTW HOW HOWNW hv hvf
                      go_wp2
                      go_roundw
                      case rel => exact ⟨j' + 1, by omega, by go_num, by rw [HM2.out]; exact hfin.out.1, hfin.out.2⟩
                      case measure => simp [intOf]; omega
              · have hne : ¬ (op : Int) = (oi : Int) := by omega
                have HM1 : Hid (mls (ms.take (j' + 1)) oi = mls (ms.take j') oi) := by
                  rw [take_snoc hm]; exact mls_snoc_no _ _ _ _ _ (by omega)
                go_wp2
                go_roundw
                case rel =>
                  refine ⟨j' + 1, by omega, by go_num, ?_, ?_⟩
                  · rw [HM1.out]; exact HT.out.alloc _
                  · exact HO.out.trans (Out.grown (grown_alloc _ _) (by omega) (fun b hb => by cases hb))
                case measure => simp [intOf]; omega
            · have hjn : j' = n := by omega
              have HT3 : Hid (Tab (w.heap.size + 1 + 1) w2.heap.size 21 1 (i32s (advs L A D (fun o => [sf o]) (mls (ms.take n) oi))) wr) := by rw [hjn] at HT; exact HT
              obtain ⟨w3, rfl⟩ : ∃ w3, w3 = wr := ⟨wr, rfl⟩
              have HSF : Hid (∀ k, k < 4 → sf k = 1 ∨ sf k = 2) := hsf
              have hexq : ∃ q l c, w2.cell? ⟨w.heap.size + 1 + 1, 0, none⟩ = some (.slice q l c) := by
                obtain ⟨v, m, h1, _, h2, _⟩ := HEX.out.row 0 (by omega)
                rcases h2.2 with ⟨h3, _⟩ | ⟨g, cap, cur, h3, _⟩
                · exact ⟨_, _, _, by rw [h1, h3]⟩
                · exact ⟨_, _, _, by rw [h1, h3]⟩
              have HEXQ : Hid (∃ q l c, w2.cell? ⟨w.heap.size + 1 + 1, 0, none⟩ = some (.slice q l c)) := hexq
              have HZR : Hid (w.heap.size + 20 ≤ w2.heap.size) := zR
              have HSTP := sTP
              clear HT HEX HM hjn hexq hsf zR sTP HSTP hml hj
              obtain ⟨zs, hzs, b78⟩ := bd78
              have HZS : Hid (34 < zs.size) := hzs
              have x78 := box78
              clear hzs
              go_wp2
              refine wp_build78 (.tmp 199) (.tmp 200) rfl (.pointer (some ⟨w3.heap.size, 0, none⟩)) (.slice (some ⟨w.heap.size + 1, 0, none⟩) 4 4) _ rfl rfl (b78 _ _ _) ?_
              simp only [Act.put, List.getElem_toArray, List.getElem_cons_succ, List.getElem_cons_zero, List.setIfInBounds_toArray, List.set_cons_zero, List.set_cons_succ]
              clear b78
              go_wp2_with fail
              clear x78
              obtain ⟨pl, hpl⟩ : ∃ pl : Array Value, #[Value.nilIface, .slice none 0 0, .slice none 0 0, .slice none 0 0, .slice none 0 0, .slice none 0 0, .int .i64 0, .bool false, .slice none 0 0, .slice none 0 0, .slice none 0 0, .pointer none, .slice none 0 0, .slice (some ⟨M, 0, none⟩) 4 4, .chan none, .bool false, .slice none 0 0, .slice none 0 0, .slice none 0 0, .slice none 0 0, .slice none 0 0, .slice none 0 0, .bool false, .bool false, .slice none 0 0, .slice none 0 0] = pl := ⟨_, rfl⟩
              have hpl13 : pl[13]? = some (.slice (some ⟨M, 0, none⟩) 4 4) := by rw [← hpl]; rfl
              rw [hpl]
              clear hpl
              obtain ⟨W, hW⟩ : ∃ W, (w3.alloc (.cells pl 63)).alloc (.cells ((zs.setIfInBounds 0 (.pointer (some ⟨w3.heap.size, 0, none⟩))).setIfInBounds 34 (.slice (some ⟨w.heap.size + 1, 0, none⟩) 4 4)) 78) = W := ⟨_, rfl⟩
              have hcall := call_advance w.heap.size M oi n out ms L A D sf pl zs w2 w3 hn hoi4 (by have := HSZ1.out; omega) HZR.out HSF.out hpl13 HZS.out HT2.out HC.out HPA.out HEXQ.out HO.out W hW
              have hg1 : w3.grownBy W none := by rw [← hW]; exact grown_none_trans (grown_alloc _ _) (grown_alloc _ _)
              have hW34 : W.cell? ⟨w3.heap.size + 1, 34, none⟩ = some (.slice (some ⟨w.heap.size + 1, 0, none⟩) 4 4) := by
                rw [← hW, World.cell?_alloc_at _ _ _ _ (by simp), Array.getElem?_setIfInBounds_self_of_lt (by have := HZS.out; simp; omega)]
              have hWz : W.heap.size = w3.heap.size + 2 := by rw [← hW]; simp
              rw [hW]
              clear hW hpl13
              refine hcall.mono ?_
              rintro e w5 ⟨rfl, HT5, HO5⟩
              clear hcall
              have HB5 : Hid (Below w.heap.size w w5) := by
                refine HBEL.out.trans ((HO.out.below (by omega) (by have := HZR.out; omega)).trans ?_)
                refine Below.trans ⟨hg1.os, hg1.tape, hg1.output, hg1.size, fun k hk => hg1.block k (by have := HZR.out; have := HO.out.size; omega) (by simp)⟩ (HO5.below (by omega) (by have := HZR.out; have := HO.out.size; have := hg1.size; omega))
              have HROW : Hid (∀ k, k < 4 → ∃ (a b p c1 c2 : Nat) (xs : List Int), p ≤ 1000000 ∧ p ≤ xs.length ∧ w5.cell? ⟨w.heap.size + 1, k, none⟩ = some (.slice (some ⟨a, 0, none⟩) p c1) ∧ w5.cell? ⟨w.heap.size + 1 + 1, k, none⟩ = some (.slice (some ⟨b, 0, none⟩) p c2) ∧ (∀ j, j < p → w5.cell? ⟨a, j, none⟩ = some (.int .i32 (xs.getD j 0))) ∧ ∀ j, j < p → w5.cell? ⟨b, j, none⟩ = some (.int .i32 (xs.getD j 0))) :=
                fun k hk => rows_same w.heap.size n oi ms L A D sf w2 w3 W w5 hn HZR.out HSF.out ⟨_, _, _, (HPA.out 0 (by omega)).1⟩ HO.out hg1 HT3.out HT5 HO5 k hk
              have h34 : w5.cell? ⟨w3.heap.size + 1, 34, none⟩ = some (.slice (some ⟨w.heap.size + 1, 0, none⟩) 4 4) := by
                rw [HO5.cell _ (by omega) (by have := HZR.out; have := HO.out.size; omega)]
                exact hW34
              clear HT5 HO5 hg1 hW34 hWz HT3 HO HPA HEXQ HT2 HC HBEL HPT
              go_wp2
              go_loopw [33] (fun i w6 => ∃ (k q : Nat), k ≤ 4 ∧ i = .int .i64 k ∧ Hid (w6 = w5.drewN q)) (fun i _ => 4 - (intOf i).toNat)
              case atStart => exact ⟨0, 0, Nat.zero_le _, rfl, rfl⟩
              case round =>
                obtain ⟨k, q, hk', rfl, HW⟩ := hrel
                by_cases hlt : k < 4
                · obtain ⟨a, b, p, c1, c2, xs, hp, hpl, ca, cb, ra, rb⟩ := HROW.out k hlt
                  have ca' : wr.cell? ⟨w.heap.size + 1, k, none⟩ = some (.slice (some ⟨a, 0, none⟩) p c1) := by rw [HW.out]; exact ca
                  have cb' : wr.cell? ⟨w.heap.size + 1 + 1, k, none⟩ = some (.slice (some ⟨b, 0, none⟩) p c2) := by rw [HW.out]; exact cb
                  have cs' : wr.cell? ⟨w3.heap.size + 1, 34, none⟩ = some (.slice (some ⟨w.heap.size + 1, 0, none⟩) 4 4) := by rw [HW.out]; exact h34
                  have heq : ∀ w', (∃ q, w' = wr.drewN q) → Calls Yba.prog 11 #[.slice (some ⟨a, 0, none⟩) p c1, .slice (some ⟨b, 0, none⟩) p c2] w' fun e w'' => e = .returned (.bool true) ∧ ∃ q, w'' = w'.drewN q := by
                    rintro w' ⟨q', rfl⟩
                    refine equal_same a b p c1 c2 xs _ hp hpl (fun j hj => ?_) (fun j hj => ?_)
                    · rw [HW.out]; exact ra j hj
                    · rw [HW.out]; exact rb j hj
                  have hki : (k : Int) < 4 := by omega
                  clear ca cb ra rb h34
                  go_wp2_with fail
                  go_quiet ((go_at_call 11; go_must (exact Calls.quiet_of (heq _ ⟨_, rfl⟩))))
                  go_wp2
                  go_roundw
                  case rel => exact ⟨k + 1, q + nq, by omega, by go_num, by rw [HW.out]; simp [Hid]⟩
                  case measure => simp [intOf]; omega
                · go_wp2
                  go_ret
                  exact ⟨rfl, by rw [HW.out]; exact ⟨HB5.out.os, HB5.out.tape, HB5.out.output, HB5.out.size, HB5.out.block⟩⟩


set_option maxRecDepth 100000 in
set_option maxHeartbeats 800000 in
theorem law_long (a : Option Addr) (n c : Nat) (o le da db st : Int) (out : Bool) (w : World) (hl : 1024 < n) (hn : n ≤ 9223372036854775807) :
    Calls Yba.prog 5 #[.slice a n c, .int .u8 o, .bool out, .int .u8 le, .int .u8 da, .int .u8 db, .int .u8 st] w fun e w' => e = .returned (.bool true) ∧ Below w.heap.size w w' := by
  go_enter Yba.func5, Yba.ntmps5
  go_wp2
  go_ret
  exact ⟨rfl, Below.refl _ _⟩

end Go.Proofs.Ybulkiyo
