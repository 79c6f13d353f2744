/-
  LawS0482CRound: the walk.
-/
import Derived.Test.YbulkiyoDoorHex
import Derived.Test.YbulkiyoDoorHeld
import Derived.Deep.RegionHeld
import Derived.OwnWalk
import Derived.Laws.BitsLemmas
import Derived.Laws.OwnMore
namespace Go.Proofs.YbulkiyoDoor
open Go.RowKit
set_option linter.unusedVariables false
set_option linter.unusedSimpArgs false

/-- The digit for d. -/
def hc (up : Bool) (d : Nat) : Nat := if d < 10 then 48 + d else if up then 55 + d else 87 + d
theorem dg_hc (up : Bool) (d : Nat) (h : d < 16) : dg (hc up d) = some d := by
  unfold hc
  by_cases h1 : d < 10
  · simp only [if_pos h1, dg]
    rw [if_pos (by omega)]
    congr 1
    omega
  · cases up
    · simp only [if_neg h1, dg]
      rw [if_neg (by simp; omega), if_pos (by simp; omega)]
      simp
    · simp only [if_neg h1, dg]
      rw [if_neg (by simp; omega), if_neg (by simp; omega), if_pos (by simp; omega)]
      simp
theorem hc_lt (up : Bool) (d : Nat) (h : d < 16) : hc up d < 256 := by
  unfold hc
  split
  · omega
  · split <;> omega

abbrev lowS : ByteArray := { data := #[48, 49, 50, 51, 52, 53, 54, 55, 56, 57, 97, 98, 99, 100, 101, 102] }
abbrev uppS : ByteArray := { data := #[48, 49, 50, 51, 52, 53, 54, 55, 56, 57, 65, 66, 67, 68, 69, 70] }
theorem idx_low (d : Nat) (h : d < 16) (w : World) : (Instr.index 9 (.string lowS) (.int .u16 (d : Int))).run Ybad.prog w = .ok (.int .u8 (hc false d : Nat)) w :=
  match d, h with
  | 0, _ => by kernel_rfl
  | 1, _ => by kernel_rfl
  | 2, _ => by kernel_rfl
  | 3, _ => by kernel_rfl
  | 4, _ => by kernel_rfl
  | 5, _ => by kernel_rfl
  | 6, _ => by kernel_rfl
  | 7, _ => by kernel_rfl
  | 8, _ => by kernel_rfl
  | 9, _ => by kernel_rfl
  | 10, _ => by kernel_rfl
  | 11, _ => by kernel_rfl
  | 12, _ => by kernel_rfl
  | 13, _ => by kernel_rfl
  | 14, _ => by kernel_rfl
  | 15, _ => by kernel_rfl
  | d + 16, h => absurd h (by omega)
theorem idx_upp (d : Nat) (h : d < 16) (w : World) : (Instr.index 9 (.string uppS) (.int .u16 (d : Int))).run Ybad.prog w = .ok (.int .u8 (hc true d : Nat)) w :=
  match d, h with
  | 0, _ => by kernel_rfl
  | 1, _ => by kernel_rfl
  | 2, _ => by kernel_rfl
  | 3, _ => by kernel_rfl
  | 4, _ => by kernel_rfl
  | 5, _ => by kernel_rfl
  | 6, _ => by kernel_rfl
  | 7, _ => by kernel_rfl
  | 8, _ => by kernel_rfl
  | 9, _ => by kernel_rfl
  | 10, _ => by kernel_rfl
  | 11, _ => by kernel_rfl
  | 12, _ => by kernel_rfl
  | 13, _ => by kernel_rfl
  | 14, _ => by kernel_rfl
  | 15, _ => by kernel_rfl
  | d + 16, h => absurd h (by omega)
theorem wraps_u16 (n : Int) (h₀ : 0 ≤ n) (h₁ : n < 2 ^ 16) : IntKind.u16.wrap n = n := by rw [IntKind.wrap_u16]; omega
theorem u16_and15 {x : Int} (h₀ : 0 ≤ x) (h₁ : x < 65536) : bits .and .u16 x 15 = x % 16 := bits_mask .u16 16 (by decide) wraps_u16 4 (by decide) x h₀ h₁
/-- 'append' of m elements to a row of the call's own, in a region that draws its order. -/
theorem step_append_own {P : Program} (w : World) {ops : Array Oper} {o : Oper} {a : Act} {K : Act → World → Prop} {Q : Exit → Act → World → Prop} {E : Prop} (hgd : o.guard = none) (h : Oper.wp P o a w K Q) :
    if Region.wanted o (yielded ops a.tmps) = true then Oper.wp P o a w K Q else E := by
  have hw : Region.wanted o (yielded ops a.tmps) = true := by simp [Region.wanted, hgd]
  rw [if_pos hw]
  exact h
/-- 'append' whose run is known. -/
theorem wpList_append_run {P : Program} {w w' : World} {ops : Array Oper} {rest : List Oper} {o : Oper} {a : Act} {Q : Exit → Act → World → Prop} (hgd : o.guard = none) (s x : Operand) (t : TypeId)
    (ho : o.op = .call { callee := .builtin .append, args := #[s, x], argTypes := #[t, t] }) (v u v' : Value) (hs : a.eval s = v) (hx : a.eval x = u) (hr : (Builtin.append_ #[t, t] o.type #[v, u]).run P w = .ok v' w')
    (h : wpList P ops Q rest (a.put o.dst v') w') : wpList P ops Q (o :: rest) a w :=
  wpList_plain hgd fun _ hK => by
    unfold Oper.wp execOp
    simp only [ho, resolve, invoke, builtin, Sem.run_bind, Sem.run_pure, Result.andThen_ok, List.map_toArray, List.map_cons, List.map_nil, hs, hx, hr]
    exact hK _ _ h
theorem grown_drew_alloc (w : World) (o : Obj) : w.grownBy (w.alloc o).drew none := by
  have h := World.grownBy_alloc w o none
  exact ⟨h.os, h.tape, h.output, h.size, fun k hk hn => h.block k hk hn⟩
theorem below_of_grown {N : Nat} {w w' : World} {row : Option Nat} (h : w.grownBy w' row) (hN : N ≤ w.heap.size) (hr : ∀ g, row = some g → N ≤ g) : Below N w w' :=
  ⟨h.os, h.tape, h.output, h.size, fun k hk => h.block k (by omega) (fun e => by have := hr k e.symm; omega)⟩
theorem own_at {N : Nat} {w : World} {v : Value} {m : Nat} {xs : List Value} (h : w.ownsRow N 5 1 v m xs) : ∀ g, v.ownBlock = some g → N ≤ g := fun g hg => (h.lt g hg).1

/-- hexRune at a row whose first four bytes are the digits of a number. -/
theorem hex_of_row (up : Bool) (d3 d2 d1 d0 N n : Nat) (hd3 : d3 < 16) (hd2 : d2 < 16) (hd1 : d1 < 16) (hd0 : d0 < 16) (hn : n ≤ 1024) (tl : List Value) (ev u : Value) (w : World) (hv : w.cell? ⟨0, 0, none⟩ = some ev) (hev : ev = .nilIface ∨ ∃ te pe, ev = .iface te pe)
    (hown : w.ownsRow N 5 1 u (4 + n) ([.int .u8 (hc up d3 : Nat), .int .u8 (hc up d2 : Nat), .int .u8 (hc up d1 : Nat), .int .u8 (hc up d0 : Nat)] ++ tl)) :
    Calls Ybad.prog 5 #[u] w fun e w' => e = .returned (.tuple #[.int .i32 (d3 * 4096 + d2 * 256 + d1 * 16 + d0 : Int), .bool true]) ∧ Below w.heap.size w w' := by
  rcases hown.2 with ⟨_, h0⟩ | ⟨g, cap, cur, rfl, _, _, hnc, hcm, _⟩
  · omega
  have e : ∀ d, d < 16 → (UInt8.ofNat (hc up d)).toNat = hc up d := fun d hd => by
    have := hc_lt up d hd
    rw [UInt8.toNat_ofNat']
    omega
  have hpx : px 0 [UInt8.ofNat (hc up d3), UInt8.ofNat (hc up d2), UInt8.ofNat (hc up d1), UInt8.ofNat (hc up d0)] = some (d3 * 4096 + d2 * 256 + d1 * 16 + d0) := by
    simp only [px, e d3 hd3, e d2 hd2, e d1 hd1, e d0 hd0, dg_hc up d3 hd3, dg_hc up d2 hd2, dg_hc up d1 hd1, dg_hc up d0 hd0]
    congr 1
    omega
  have hhx : hx [UInt8.ofNat (hc up d3), UInt8.ofNat (hc up d2), UInt8.ofNat (hc up d1), UInt8.ofNat (hc up d0)] = ((d3 * 4096 + d2 * 256 + d1 * 16 + d0 : Int), true) := by
    simp only [hx, hpx]
    simp
  have := hexRune_long ⟨g, 0, none⟩ (4 + n) cap [UInt8.ofNat (hc up d3), UInt8.ofNat (hc up d2), UInt8.ofNat (hc up d1), UInt8.ofNat (hc up d0)] rfl (by omega) hnc (by omega) ev w hv hev (fun j hj => by
    have hj4 : j < 4 := by simpa using hj
    match j, hj4 with
    | 0, _ => simpa [e d3 hd3] using hown.cells (g := g) rfl 0 _ rfl
    | 1, _ => simpa [e d2 hd2] using hown.cells (g := g) rfl 1 _ rfl
    | 2, _ => simpa [e d1 hd1] using hown.cells (g := g) rfl 2 _ rfl
    | 3, _ => simpa [e d0 hd0] using hown.cells (g := g) rfl 3 _ rfl)
  rw [hhx] at this
  exact this
theorem info5 : (Ybad.prog.info? 5).map (fun i => (i.zero, i.size, i.bytes)) = some (some (.int .u8 0), 1, 1) := by kernel_rfl

set_option maxHeartbeats 4000000 in
set_option maxRecDepth 100000 in
theorem round_long (v : Int) (up : Bool) (a : Option Addr) (n c : Nat) (hn : 1024 < n) (hn' : n ≤ 9223372036854775807) (w : World) :
    Calls Ybad.prog 4 #[.int .u16 v, .bool up, .slice a n c] w fun e w' => e = .returned (.bool true) ∧ Below w.heap.size w w' := by
  go_enter Ybad.func4, Ybad.ntmps4
  go_wp2
  go_ret
  exact ⟨rfl, Below.refl _ _⟩

set_option maxHeartbeats 8000000 in
set_option maxRecDepth 100000 in
theorem round_any (v : Int) (up : Bool) (a : Option Addr) (n c : Nat) (d3 d2 d1 d0 : Nat) (hd3 : d3 < 16) (hd2 : d2 < 16) (hd1 : d1 < 16) (hd0 : d0 < 16) (hvd : v = d3 * 4096 + d2 * 256 + d1 * 16 + d0) (hn : n ≤ 1024) (hnc : n ≤ c) (ts : List UInt8) (ev : Value) (w : World)
    (hv : w.cell? ⟨0, 0, none⟩ = some ev) (hev : ev = .nilIface ∨ ∃ te pe, ev = .iface te pe) (htail : (a = none ∧ n = 0 ∧ c = 0) ∨ ∃ x : Addr, a = some x ∧ ts.length = n ∧ ∀ j (hj : j < ts.length), w.cell? (x.add j) = some (.int .u8 (ts[j].toNat : Int))) :
    Calls Ybad.prog 4 #[.int .u16 v, .bool up, .slice a n c] w fun e w' => e = .returned (.bool true) ∧ Below w.heap.size w w' := by
  obtain ⟨i0, hi, hz0, hz1, hz2⟩ := info_parts info5
  have b3 : bits .and .u16 (v / 4096) 15 = (d3 : Int) := by rw [u16_and15 (by omega) (by omega)]; omega
  have b2 : bits .and .u16 (v / 256) 15 = (d2 : Int) := by rw [u16_and15 (by omega) (by omega)]; omega
  have b1 : bits .and .u16 (v / 16) 15 = (d1 : Int) := by rw [u16_and15 (by omega) (by omega)]; omega
  have b0 : bits .and .u16 v 15 = (d0 : Int) := by rw [u16_and15 (by omega) (by omega)]; omega
  have hv0 : 0 ≤ v := by omega
  have hv1 : v ≤ 65535 := by omega
  have HVD : Hid (v = d3 * 4096 + d2 * 256 + d1 * 16 + d0) := hvd
  clear hvd
  cases up
  · go_enter Ybad.func4, Ybad.ntmps4
    go_wp2_with (first | (at_make; refine wpList_make_own _ rfl _ _ 22 rfl w.heap.size 5 i0 (.int .u8 0) 1 Ybad.underlying22 hi hz0 hz1 _ _ _ (4 + n) rfl rfl (by omega) (by rw [hz2]; omega) (by simp only [maxLen]; omega) (Nat.le_refl _) ?_) | go_in)
    intro w1 hown hgrow
    go_wp2
    have i3 := idx_low d3 hd3
    have i2 := idx_low d2 hd2
    have i1 := idx_low d1 hd1
    have i0' := idx_low d0 hd0
    refine wp_region_F (z := 22) (S := fun _ => True) (by kernel_rfl) trivial (fun hHeld => ?_)
    refine anyF_take (i := 0) (v := ?_) rfl (by kernel_rfl) (by kernel_rfl) (by kernel_rfl) (by kernel_rfl) (fun _ _ _ h => h) (Or.inl ⟨by rfl, ?_⟩) hHeld ?_
    rotate_left
    · intro w' hSw
      go_simp
      try rfl
    simp only [Act.put, List.getElem_toArray, List.getElem_cons_succ, List.getElem_cons_zero, List.setIfInBounds_toArray, List.set_cons_zero, List.set_cons_succ]
    refine anyF_take (i := 1) (v := ?_) rfl (by kernel_rfl) (by kernel_rfl) (by kernel_rfl) (by kernel_rfl) (fun _ _ _ h => h) (Or.inl ⟨by rfl, ?_⟩) hHeld ?_
    rotate_left
    · intro w' hSw
      go_simp
      try rfl
    simp only [Act.put, List.getElem_toArray, List.getElem_cons_succ, List.getElem_cons_zero, List.setIfInBounds_toArray, List.set_cons_zero, List.set_cons_succ]
    refine anyF_take (i := 2) (v := ?_) rfl (by kernel_rfl) (by kernel_rfl) (by kernel_rfl) (by kernel_rfl) (fun _ _ _ h => h) (Or.inl ⟨by rfl, ?_⟩) hHeld ?_
    rotate_left
    · intro w' hSw
      go_simp
      try rfl
    simp only [Act.put, List.getElem_toArray, List.getElem_cons_succ, List.getElem_cons_zero, List.setIfInBounds_toArray, List.set_cons_zero, List.set_cons_succ]
    refine anyF_take (i := 3) (v := ?_) rfl (by kernel_rfl) (by kernel_rfl) (by kernel_rfl) (by kernel_rfl) (fun _ _ _ h => h) (Or.inl ⟨by rfl, ?_⟩) hHeld ?_
    rotate_left
    · intro w' hSw
      go_simp
      try rfl
    simp only [Act.put, List.getElem_toArray, List.getElem_cons_succ, List.getElem_cons_zero, List.setIfInBounds_toArray, List.set_cons_zero, List.set_cons_succ]
    refine anyF_take (i := 4) (v := ?_) rfl (by kernel_rfl) (by kernel_rfl) (by kernel_rfl) (by kernel_rfl) (fun _ _ _ h => h) (Or.inl ⟨by rfl, ?_⟩) hHeld ?_
    rotate_left
    · intro w' hSw
      go_simp
      try rfl
    simp only [Act.put, List.getElem_toArray, List.getElem_cons_succ, List.getElem_cons_zero, List.setIfInBounds_toArray, List.set_cons_zero, List.set_cons_succ]
    refine anyF_take (i := 5) (v := ?_) rfl (by kernel_rfl) (by kernel_rfl) (by kernel_rfl) (by kernel_rfl) (fun _ _ _ h => h) (Or.inl ⟨by rfl, ?_⟩) hHeld ?_
    rotate_left
    · intro w' hSw
      go_simp
      try rfl
    simp only [Act.put, List.getElem_toArray, List.getElem_cons_succ, List.getElem_cons_zero, List.setIfInBounds_toArray, List.set_cons_zero, List.set_cons_succ]
    refine anyF_take (i := 6) (v := ?_) rfl (by kernel_rfl) (by kernel_rfl) (by kernel_rfl) (by kernel_rfl) (fun _ _ _ h => h) (Or.inl ⟨by rfl, ?_⟩) hHeld ?_
    rotate_left
    · intro w' hSw
      go_simp
      try rfl
    simp only [Act.put, List.getElem_toArray, List.getElem_cons_succ, List.getElem_cons_zero, List.setIfInBounds_toArray, List.set_cons_zero, List.set_cons_succ]
    refine anyF_take (i := 7) (v := ?_) rfl (by kernel_rfl) (by kernel_rfl) (by kernel_rfl) (by kernel_rfl) (fun _ _ _ h => h) (Or.inl ⟨by rfl, ?_⟩) hHeld ?_
    rotate_left
    · intro w' hSw
      go_simp
      try rfl
    simp only [Act.put, List.getElem_toArray, List.getElem_cons_succ, List.getElem_cons_zero, List.setIfInBounds_toArray, List.set_cons_zero, List.set_cons_succ]
    refine anyF_take (i := 8) (v := ?_) rfl (by kernel_rfl) (by kernel_rfl) (by kernel_rfl) (by kernel_rfl) (fun _ _ _ h => h) (Or.inl ⟨by rfl, ?_⟩) hHeld ?_
    rotate_left
    · intro w' hSw
      go_simp
      try rfl
    simp only [Act.put, List.getElem_toArray, List.getElem_cons_succ, List.getElem_cons_zero, List.setIfInBounds_toArray, List.set_cons_zero, List.set_cons_succ]
    refine anyF_take (i := 9) (v := ?_) rfl (by kernel_rfl) (by kernel_rfl) (by kernel_rfl) (by kernel_rfl) (fun _ _ _ h => h) (Or.inl ⟨by rfl, ?_⟩) hHeld ?_
    rotate_left
    · intro w' hSw
      go_simp
      try rfl
    simp only [Act.put, List.getElem_toArray, List.getElem_cons_succ, List.getElem_cons_zero, List.setIfInBounds_toArray, List.set_cons_zero, List.set_cons_succ]
    refine anyF_take (i := 10) (v := ?_) rfl (by kernel_rfl) (by kernel_rfl) (by kernel_rfl) (by kernel_rfl) (fun _ _ _ h => h) (Or.inl ⟨by rfl, ?_⟩) hHeld ?_
    rotate_left
    · intro w' hSw
      go_simp
      try rfl
    simp only [Act.put, List.getElem_toArray, List.getElem_cons_succ, List.getElem_cons_zero, List.setIfInBounds_toArray, List.set_cons_zero, List.set_cons_succ]
    refine anyF_take (i := 11) (v := ?_) rfl (by kernel_rfl) (by kernel_rfl) (by kernel_rfl) (by kernel_rfl) (fun _ _ _ h => h) (Or.inl ⟨by rfl, ?_⟩) hHeld ?_
    rotate_left
    · intro w' hSw
      go_simp
      try rfl
    simp only [Act.put, List.getElem_toArray, List.getElem_cons_succ, List.getElem_cons_zero, List.setIfInBounds_toArray, List.set_cons_zero, List.set_cons_succ]
    refine anyF_take (i := 12) (v := ?_) rfl (by kernel_rfl) (by kernel_rfl) (by kernel_rfl) (by kernel_rfl) (fun _ _ _ h => h) (Or.inl ⟨by rfl, ?_⟩) hHeld ?_
    rotate_left
    · intro w' hSw
      go_simp
      try rfl
    simp only [Act.put, List.getElem_toArray, List.getElem_cons_succ, List.getElem_cons_zero, List.setIfInBounds_toArray, List.set_cons_zero, List.set_cons_succ]
    refine anyF_take (i := 13) (v := ?_) rfl (by kernel_rfl) (by kernel_rfl) (by kernel_rfl) (by kernel_rfl) (fun _ _ _ h => h) (Or.inl ⟨by rfl, ?_⟩) hHeld ?_
    rotate_left
    · intro w' hSw
      go_simp
      try rfl
    simp only [Act.put, List.getElem_toArray, List.getElem_cons_succ, List.getElem_cons_zero, List.setIfInBounds_toArray, List.set_cons_zero, List.set_cons_succ]
    refine anyF_take (i := 14) (v := ?_) rfl (by kernel_rfl) (by kernel_rfl) (by kernel_rfl) (by kernel_rfl) (fun _ _ _ h => h) (Or.inl ⟨by rfl, ?_⟩) hHeld ?_
    rotate_left
    · intro w' hSw
      go_simp
      try rfl
    simp only [Act.put, List.getElem_toArray, List.getElem_cons_succ, List.getElem_cons_zero, List.setIfInBounds_toArray, List.set_cons_zero, List.set_cons_succ]
    refine anyF_take (i := 15) (v := ?_) rfl (by kernel_rfl) (by kernel_rfl) (by kernel_rfl) (by kernel_rfl) (fun _ _ _ h => h) (Or.inl ⟨by rfl, ?_⟩) hHeld ?_
    rotate_left
    · intro w' hSw
      go_simp
      try rfl
    simp only [Act.put, List.getElem_toArray, List.getElem_cons_succ, List.getElem_cons_zero, List.setIfInBounds_toArray, List.set_cons_zero, List.set_cons_succ]
    refine anyF_take (i := 16) (v := ?_) rfl (by kernel_rfl) (by kernel_rfl) (by kernel_rfl) (by kernel_rfl) (fun _ _ _ h => h) (Or.inl ⟨by rfl, ?_⟩) hHeld ?_
    rotate_left
    · intro w' hSw
      go_simp
      try rfl
    simp only [Act.put, List.getElem_toArray, List.getElem_cons_succ, List.getElem_cons_zero, List.setIfInBounds_toArray, List.set_cons_zero, List.set_cons_succ]
    refine anyF_take (i := 17) (v := ?_) rfl (by kernel_rfl) (by kernel_rfl) (by kernel_rfl) (by kernel_rfl) (fun _ _ _ h => h) (Or.inl ⟨by rfl, ?_⟩) hHeld ?_
    rotate_left
    · intro w' hSw
      go_simp
      try rfl
    simp only [Act.put, List.getElem_toArray, List.getElem_cons_succ, List.getElem_cons_zero, List.setIfInBounds_toArray, List.set_cons_zero, List.set_cons_succ]
    refine anyF_take (i := 18) (v := ?_) rfl (by kernel_rfl) (by kernel_rfl) (by kernel_rfl) (by kernel_rfl) (fun _ _ _ h => h) (Or.inl ⟨by rfl, ?_⟩) hHeld ?_
    rotate_left
    · intro w' hSw
      go_simp
      try rfl
    simp only [Act.put, List.getElem_toArray, List.getElem_cons_succ, List.getElem_cons_zero, List.setIfInBounds_toArray, List.set_cons_zero, List.set_cons_succ]
    refine anyF_take (i := 19) (v := ?_) rfl (by kernel_rfl) (by kernel_rfl) (by kernel_rfl) (by kernel_rfl) (fun _ _ _ h => h) (Or.inl ⟨by rfl, ?_⟩) hHeld ?_
    rotate_left
    · intro w' hSw
      go_simp
      try rfl
    simp only [Act.put, List.getElem_toArray, List.getElem_cons_succ, List.getElem_cons_zero, List.setIfInBounds_toArray, List.set_cons_zero, List.set_cons_succ]
    have B1 : Below w.heap.size w w1 := below_of_grown hgrow (Nat.le_refl _) (fun g hg => by cases hg)
    refine anyF_one (i := 20) (by kernel_rfl) rfl (fun K hK => ?_)
    go_simp
    have sz1 : w.heap.size ≤ w1.heap.size := hgrow.size
    obtain ⟨W, hW⟩ : ∃ W, (w1.alloc (.cells #[.int .u8 (hc false d3 : Nat), .int .u8 (hc false d2 : Nat), .int .u8 (hc false d1 : Nat), .int .u8 (hc false d0 : Nat)] 5)).drew = W := ⟨_, rfl⟩
    have gW : w1.grownBy W none := by rw [← hW]; exact grown_drew_alloc _ _
    have hnew : ∀ q u, ([.int .u8 (hc false d3 : Nat), .int .u8 (hc false d2 : Nat), .int .u8 (hc false d1 : Nat), .int .u8 (hc false d0 : Nat)] : List Value)[q]? = some u → W.cell? ((⟨w1.heap.size, 0, none⟩ : Addr).add q) = some u := by
      intro q u hq
      have hat : (⟨w1.heap.size, 0, none⟩ : Addr).add q = ⟨w1.heap.size, q, none⟩ := by unfold Addr.add; split <;> simp_all
      rw [hat, ← hW, World.cell?_drew, World.cell?_alloc_at _ _ _ _ rfl]
      simpa using hq
    have hownW : W.ownsRow w.heap.size 5 1 (.slice (some ⟨w.heap.size, 0, none⟩) 0 (4 + n)) 0 [] := hown.kept gW (by simp [Value.ownBlock])
    rw [hW]
    clear hW
    refine hK.out _ _ trivial (fun _ => ?_)
    clear hK K
    refine anyF_one (i := 21) (by kernel_rfl) rfl (fun K hK => ?_)
    refine step_append_own _ rfl (wp_append_own _ (.tmp 19) (.tmp 39) 22 rfl w.heap.size 5 i0 (.int .u8 0) 1 1 Ybad.underlying22 hi hz0 hz1 hz2 rfl (by decide) (.slice (some ⟨w.heap.size, 0, none⟩) 0 (4 + n)) 0 [] rfl hownW ⟨w1.heap.size, 0, none⟩ 4 4 [.int .u8 (hc false d3 : Nat), .int .u8 (hc false d2 : Nat), .int .u8 (hc false d1 : Nat), .int .u8 (hc false d0 : Nat)] rfl rfl hnew (by simp [Value.oneCell']) (by simp only [maxLen]; omega) (by omega) (by have := gW.size; omega) ?_)
    intro v1 w2 hown1 hgrow1 _
    refine hK.out _ _ trivial (fun _ => ?_)
    clear hK K
    simp only [Act.put, List.getElem_toArray, List.getElem_cons_succ, List.getElem_cons_zero, List.setIfInBounds_toArray, List.set_cons_zero, List.set_cons_succ]
    refine anyF_last (by kernel_rfl) rfl (fun K hK => ?_)
    go_simp
    refine hK.out _ _ ?_
    clear hK K
    refine anyF_done (by kernel_rfl) ?_ _
    have B2 : Below w.heap.size w w2 := (B1.trans (below_of_grown gW (by omega) (fun g hg => by cases hg))).trans (below_of_grown hgrow1 (by have := gW.size; omega) (fun g hg => by simp [Value.ownBlock] at hg; omega))
    have hown1' : w2.ownsRow w.heap.size 5 1 v1 4 [.int .u8 (hc false d3 : Nat), .int .u8 (hc false d2 : Nat), .int .u8 (hc false d1 : Nat), .int .u8 (hc false d0 : Nat)] := hown1
    have l0 : (⟨0, 0, none⟩ : Addr).block < w.heap.size := World.block_lt_of_cell? w _ hv
    clear hown1 hgrow1 hownW hnew gW hHeld hown hgrow B1 sz1 i3 i2 i1 i0' b3 b2 b1 b0
    rcases htail with ⟨rfl, rfl, rfl⟩ | ⟨x, rfl, htl, htc⟩
    · have hap := run_append_owned_none (P := Ybad.prog) w2 w.heap.size 22 22 5 i0 1 Ybad.underlying22 hi v1 4 _ hown1'
      have hH := hex_of_row false d3 d2 d1 d0 w.heap.size 0 hd3 hd2 hd1 hd0 (by omega) [] ev v1 w2 ((B2.cell l0).trans hv) hev (by simpa using hown1')
      rw [← HVD.out] at hH
      clear hown1' hi hz0 hz1 hz2
      go_wp2_with (first | (at_builtin; refine wpList_append_run rfl (.tmp 41) (.tmp 42) 22 rfl v1 (.slice none 0 0) v1 rfl rfl hap ?_) | (go_at_call 5; refine hH.mono ?_; rintro e w3 ⟨rfl, hB3⟩))
      go_ret
      exact ⟨rfl, B2.trans (hB3.mono B2.size)⟩
    · have hB2c : ∀ j u, (ts.map fun b => Value.int .u8 (b.toNat : Int))[j]? = some u → w2.cell? (x.add j) = some u := by
        intro j u hj
        rw [List.getElem?_map] at hj
        cases h1 : ts[j]? with
        | none => rw [h1] at hj; cases hj
        | some b =>
          rw [h1] at hj
          simp at hj
          subst hj
          obtain ⟨hlt, he⟩ := List.getElem?_eq_some_iff.1 h1
          have h2 := htc j hlt
          rw [he] at h2
          exact (B2.cell (World.block_lt_of_cell? w _ h2)).trans h2
      have hone : ∀ u ∈ (ts.map fun b => Value.int .u8 (b.toNat : Int)), u.oneCell' = true := by
        intro u hu
        obtain ⟨b, _, rfl⟩ := List.mem_map.1 hu
        rfl
      go_wp2_with (at_builtin; go_loud (refine wpList_append_own _ rfl (.tmp 41) (.tmp 42) 22 rfl w.heap.size 5 i0 (.int .u8 0) 1 1 Ybad.underlying22 hi hz0 hz1 hz2 rfl (by decide) v1 4 _ rfl hown1' x n c (ts.map fun b => Value.int .u8 (b.toNat : Int)) rfl (by simpa using htl) hB2c hone (by simp only [maxLen]; omega) (by omega) B2.size ?_))
      intro v2 w3 hown2 hgrow2 _
      have B3 : Below w.heap.size w w3 := B2.trans (below_of_grown hgrow2 B2.size (own_at hown1'))
      have hH := hex_of_row false d3 d2 d1 d0 w.heap.size n hd3 hd2 hd1 hd0 hn (List.map (fun b : UInt8 => Value.int .u8 (b.toNat : Int)) ts) ev v2 w3 ((B3.cell l0).trans hv) hev (by simpa using hown2)
      rw [← HVD.out] at hH
      clear hown1' hown2 hgrow2 hi hz0 hz1 hz2 hB2c hone htc htl
      go_wp2_with (go_at_call 5; refine hH.mono ?_; rintro e w4 ⟨rfl, hB4⟩)
      go_ret
      exact ⟨rfl, B3.trans (hB4.mono B3.size)⟩
  · go_enter Ybad.func4, Ybad.ntmps4
    go_wp2_with (first | (at_make; refine wpList_make_own _ rfl _ _ 22 rfl w.heap.size 5 i0 (.int .u8 0) 1 Ybad.underlying22 hi hz0 hz1 _ _ _ (4 + n) rfl rfl (by omega) (by rw [hz2]; omega) (by simp only [maxLen]; omega) (Nat.le_refl _) ?_) | go_in)
    intro w1 hown hgrow
    go_wp2
    have i3 := idx_upp d3 hd3
    have i2 := idx_upp d2 hd2
    have i1 := idx_upp d1 hd1
    have i0' := idx_upp d0 hd0
    refine wp_region_F (z := 22) (S := fun _ => True) (by kernel_rfl) trivial (fun hHeld => ?_)
    refine anyF_take (i := 0) (v := ?_) rfl (by kernel_rfl) (by kernel_rfl) (by kernel_rfl) (by kernel_rfl) (fun _ _ _ h => h) (Or.inl ⟨by rfl, ?_⟩) hHeld ?_
    rotate_left
    · intro w' hSw
      go_simp
      try rfl
    simp only [Act.put, List.getElem_toArray, List.getElem_cons_succ, List.getElem_cons_zero, List.setIfInBounds_toArray, List.set_cons_zero, List.set_cons_succ]
    refine anyF_take (i := 1) (v := ?_) rfl (by kernel_rfl) (by kernel_rfl) (by kernel_rfl) (by kernel_rfl) (fun _ _ _ h => h) (Or.inl ⟨by rfl, ?_⟩) hHeld ?_
    rotate_left
    · intro w' hSw
      go_simp
      try rfl
    simp only [Act.put, List.getElem_toArray, List.getElem_cons_succ, List.getElem_cons_zero, List.setIfInBounds_toArray, List.set_cons_zero, List.set_cons_succ]
    refine anyF_take (i := 2) (v := ?_) rfl (by kernel_rfl) (by kernel_rfl) (by kernel_rfl) (by kernel_rfl) (fun _ _ _ h => h) (Or.inl ⟨by rfl, ?_⟩) hHeld ?_
    rotate_left
    · intro w' hSw
      go_simp
      try rfl
    simp only [Act.put, List.getElem_toArray, List.getElem_cons_succ, List.getElem_cons_zero, List.setIfInBounds_toArray, List.set_cons_zero, List.set_cons_succ]
    refine anyF_take (i := 3) (v := ?_) rfl (by kernel_rfl) (by kernel_rfl) (by kernel_rfl) (by kernel_rfl) (fun _ _ _ h => h) (Or.inl ⟨by rfl, ?_⟩) hHeld ?_
    rotate_left
    · intro w' hSw
      go_simp
      try rfl
    simp only [Act.put, List.getElem_toArray, List.getElem_cons_succ, List.getElem_cons_zero, List.setIfInBounds_toArray, List.set_cons_zero, List.set_cons_succ]
    refine anyF_take (i := 4) (v := ?_) rfl (by kernel_rfl) (by kernel_rfl) (by kernel_rfl) (by kernel_rfl) (fun _ _ _ h => h) (Or.inl ⟨by rfl, ?_⟩) hHeld ?_
    rotate_left
    · intro w' hSw
      go_simp
      try rfl
    simp only [Act.put, List.getElem_toArray, List.getElem_cons_succ, List.getElem_cons_zero, List.setIfInBounds_toArray, List.set_cons_zero, List.set_cons_succ]
    refine anyF_take (i := 5) (v := ?_) rfl (by kernel_rfl) (by kernel_rfl) (by kernel_rfl) (by kernel_rfl) (fun _ _ _ h => h) (Or.inl ⟨by rfl, ?_⟩) hHeld ?_
    rotate_left
    · intro w' hSw
      go_simp
      try rfl
    simp only [Act.put, List.getElem_toArray, List.getElem_cons_succ, List.getElem_cons_zero, List.setIfInBounds_toArray, List.set_cons_zero, List.set_cons_succ]
    refine anyF_take (i := 6) (v := ?_) rfl (by kernel_rfl) (by kernel_rfl) (by kernel_rfl) (by kernel_rfl) (fun _ _ _ h => h) (Or.inl ⟨by rfl, ?_⟩) hHeld ?_
    rotate_left
    · intro w' hSw
      go_simp
      try rfl
    simp only [Act.put, List.getElem_toArray, List.getElem_cons_succ, List.getElem_cons_zero, List.setIfInBounds_toArray, List.set_cons_zero, List.set_cons_succ]
    refine anyF_take (i := 7) (v := ?_) rfl (by kernel_rfl) (by kernel_rfl) (by kernel_rfl) (by kernel_rfl) (fun _ _ _ h => h) (Or.inl ⟨by rfl, ?_⟩) hHeld ?_
    rotate_left
    · intro w' hSw
      go_simp
      try rfl
    simp only [Act.put, List.getElem_toArray, List.getElem_cons_succ, List.getElem_cons_zero, List.setIfInBounds_toArray, List.set_cons_zero, List.set_cons_succ]
    refine anyF_take (i := 8) (v := ?_) rfl (by kernel_rfl) (by kernel_rfl) (by kernel_rfl) (by kernel_rfl) (fun _ _ _ h => h) (Or.inl ⟨by rfl, ?_⟩) hHeld ?_
    rotate_left
    · intro w' hSw
      go_simp
      try rfl
    simp only [Act.put, List.getElem_toArray, List.getElem_cons_succ, List.getElem_cons_zero, List.setIfInBounds_toArray, List.set_cons_zero, List.set_cons_succ]
    refine anyF_take (i := 9) (v := ?_) rfl (by kernel_rfl) (by kernel_rfl) (by kernel_rfl) (by kernel_rfl) (fun _ _ _ h => h) (Or.inl ⟨by rfl, ?_⟩) hHeld ?_
    rotate_left
    · intro w' hSw
      go_simp
      try rfl
    simp only [Act.put, List.getElem_toArray, List.getElem_cons_succ, List.getElem_cons_zero, List.setIfInBounds_toArray, List.set_cons_zero, List.set_cons_succ]
    refine anyF_take (i := 10) (v := ?_) rfl (by kernel_rfl) (by kernel_rfl) (by kernel_rfl) (by kernel_rfl) (fun _ _ _ h => h) (Or.inl ⟨by rfl, ?_⟩) hHeld ?_
    rotate_left
    · intro w' hSw
      go_simp
      try rfl
    simp only [Act.put, List.getElem_toArray, List.getElem_cons_succ, List.getElem_cons_zero, List.setIfInBounds_toArray, List.set_cons_zero, List.set_cons_succ]
    refine anyF_take (i := 11) (v := ?_) rfl (by kernel_rfl) (by kernel_rfl) (by kernel_rfl) (by kernel_rfl) (fun _ _ _ h => h) (Or.inl ⟨by rfl, ?_⟩) hHeld ?_
    rotate_left
    · intro w' hSw
      go_simp
      try rfl
    simp only [Act.put, List.getElem_toArray, List.getElem_cons_succ, List.getElem_cons_zero, List.setIfInBounds_toArray, List.set_cons_zero, List.set_cons_succ]
    refine anyF_take (i := 12) (v := ?_) rfl (by kernel_rfl) (by kernel_rfl) (by kernel_rfl) (by kernel_rfl) (fun _ _ _ h => h) (Or.inl ⟨by rfl, ?_⟩) hHeld ?_
    rotate_left
    · intro w' hSw
      go_simp
      try rfl
    simp only [Act.put, List.getElem_toArray, List.getElem_cons_succ, List.getElem_cons_zero, List.setIfInBounds_toArray, List.set_cons_zero, List.set_cons_succ]
    refine anyF_take (i := 13) (v := ?_) rfl (by kernel_rfl) (by kernel_rfl) (by kernel_rfl) (by kernel_rfl) (fun _ _ _ h => h) (Or.inl ⟨by rfl, ?_⟩) hHeld ?_
    rotate_left
    · intro w' hSw
      go_simp
      try rfl
    simp only [Act.put, List.getElem_toArray, List.getElem_cons_succ, List.getElem_cons_zero, List.setIfInBounds_toArray, List.set_cons_zero, List.set_cons_succ]
    refine anyF_take (i := 14) (v := ?_) rfl (by kernel_rfl) (by kernel_rfl) (by kernel_rfl) (by kernel_rfl) (fun _ _ _ h => h) (Or.inl ⟨by rfl, ?_⟩) hHeld ?_
    rotate_left
    · intro w' hSw
      go_simp
      try rfl
    simp only [Act.put, List.getElem_toArray, List.getElem_cons_succ, List.getElem_cons_zero, List.setIfInBounds_toArray, List.set_cons_zero, List.set_cons_succ]
    refine anyF_take (i := 15) (v := ?_) rfl (by kernel_rfl) (by kernel_rfl) (by kernel_rfl) (by kernel_rfl) (fun _ _ _ h => h) (Or.inl ⟨by rfl, ?_⟩) hHeld ?_
    rotate_left
    · intro w' hSw
      go_simp
      try rfl
    simp only [Act.put, List.getElem_toArray, List.getElem_cons_succ, List.getElem_cons_zero, List.setIfInBounds_toArray, List.set_cons_zero, List.set_cons_succ]
    refine anyF_take (i := 16) (v := ?_) rfl (by kernel_rfl) (by kernel_rfl) (by kernel_rfl) (by kernel_rfl) (fun _ _ _ h => h) (Or.inl ⟨by rfl, ?_⟩) hHeld ?_
    rotate_left
    · intro w' hSw
      go_simp
      try rfl
    simp only [Act.put, List.getElem_toArray, List.getElem_cons_succ, List.getElem_cons_zero, List.setIfInBounds_toArray, List.set_cons_zero, List.set_cons_succ]
    refine anyF_take (i := 17) (v := ?_) rfl (by kernel_rfl) (by kernel_rfl) (by kernel_rfl) (by kernel_rfl) (fun _ _ _ h => h) (Or.inl ⟨by rfl, ?_⟩) hHeld ?_
    rotate_left
    · intro w' hSw
      go_simp
      try rfl
    simp only [Act.put, List.getElem_toArray, List.getElem_cons_succ, List.getElem_cons_zero, List.setIfInBounds_toArray, List.set_cons_zero, List.set_cons_succ]
    refine anyF_take (i := 18) (v := ?_) rfl (by kernel_rfl) (by kernel_rfl) (by kernel_rfl) (by kernel_rfl) (fun _ _ _ h => h) (Or.inl ⟨by rfl, ?_⟩) hHeld ?_
    rotate_left
    · intro w' hSw
      go_simp
      try rfl
    simp only [Act.put, List.getElem_toArray, List.getElem_cons_succ, List.getElem_cons_zero, List.setIfInBounds_toArray, List.set_cons_zero, List.set_cons_succ]
    refine anyF_take (i := 19) (v := ?_) rfl (by kernel_rfl) (by kernel_rfl) (by kernel_rfl) (by kernel_rfl) (fun _ _ _ h => h) (Or.inl ⟨by rfl, ?_⟩) hHeld ?_
    rotate_left
    · intro w' hSw
      go_simp
      try rfl
    simp only [Act.put, List.getElem_toArray, List.getElem_cons_succ, List.getElem_cons_zero, List.setIfInBounds_toArray, List.set_cons_zero, List.set_cons_succ]
    have B1 : Below w.heap.size w w1 := below_of_grown hgrow (Nat.le_refl _) (fun g hg => by cases hg)
    refine anyF_one (i := 20) (by kernel_rfl) rfl (fun K hK => ?_)
    go_simp
    have sz1 : w.heap.size ≤ w1.heap.size := hgrow.size
    obtain ⟨W, hW⟩ : ∃ W, (w1.alloc (.cells #[.int .u8 (hc true d3 : Nat), .int .u8 (hc true d2 : Nat), .int .u8 (hc true d1 : Nat), .int .u8 (hc true d0 : Nat)] 5)).drew = W := ⟨_, rfl⟩
    have gW : w1.grownBy W none := by rw [← hW]; exact grown_drew_alloc _ _
    have hnew : ∀ q u, ([.int .u8 (hc true d3 : Nat), .int .u8 (hc true d2 : Nat), .int .u8 (hc true d1 : Nat), .int .u8 (hc true d0 : Nat)] : List Value)[q]? = some u → W.cell? ((⟨w1.heap.size, 0, none⟩ : Addr).add q) = some u := by
      intro q u hq
      have hat : (⟨w1.heap.size, 0, none⟩ : Addr).add q = ⟨w1.heap.size, q, none⟩ := by unfold Addr.add; split <;> simp_all
      rw [hat, ← hW, World.cell?_drew, World.cell?_alloc_at _ _ _ _ rfl]
      simpa using hq
    have hownW : W.ownsRow w.heap.size 5 1 (.slice (some ⟨w.heap.size, 0, none⟩) 0 (4 + n)) 0 [] := hown.kept gW (by simp [Value.ownBlock])
    rw [hW]
    clear hW
    refine hK.out _ _ trivial (fun _ => ?_)
    clear hK K
    refine anyF_one (i := 21) (by kernel_rfl) rfl (fun K hK => ?_)
    refine step_append_own _ rfl (wp_append_own _ (.tmp 19) (.tmp 39) 22 rfl w.heap.size 5 i0 (.int .u8 0) 1 1 Ybad.underlying22 hi hz0 hz1 hz2 rfl (by decide) (.slice (some ⟨w.heap.size, 0, none⟩) 0 (4 + n)) 0 [] rfl hownW ⟨w1.heap.size, 0, none⟩ 4 4 [.int .u8 (hc true d3 : Nat), .int .u8 (hc true d2 : Nat), .int .u8 (hc true d1 : Nat), .int .u8 (hc true d0 : Nat)] rfl rfl hnew (by simp [Value.oneCell']) (by simp only [maxLen]; omega) (by omega) (by have := gW.size; omega) ?_)
    intro v1 w2 hown1 hgrow1 _
    refine hK.out _ _ trivial (fun _ => ?_)
    clear hK K
    simp only [Act.put, List.getElem_toArray, List.getElem_cons_succ, List.getElem_cons_zero, List.setIfInBounds_toArray, List.set_cons_zero, List.set_cons_succ]
    refine anyF_last (by kernel_rfl) rfl (fun K hK => ?_)
    go_simp
    refine hK.out _ _ ?_
    clear hK K
    refine anyF_done (by kernel_rfl) ?_ _
    have B2 : Below w.heap.size w w2 := (B1.trans (below_of_grown gW (by omega) (fun g hg => by cases hg))).trans (below_of_grown hgrow1 (by have := gW.size; omega) (fun g hg => by simp [Value.ownBlock] at hg; omega))
    have hown1' : w2.ownsRow w.heap.size 5 1 v1 4 [.int .u8 (hc true d3 : Nat), .int .u8 (hc true d2 : Nat), .int .u8 (hc true d1 : Nat), .int .u8 (hc true d0 : Nat)] := hown1
    have l0 : (⟨0, 0, none⟩ : Addr).block < w.heap.size := World.block_lt_of_cell? w _ hv
    clear hown1 hgrow1 hownW hnew gW hHeld hown hgrow B1 sz1 i3 i2 i1 i0' b3 b2 b1 b0
    rcases htail with ⟨rfl, rfl, rfl⟩ | ⟨x, rfl, htl, htc⟩
    · have hap := run_append_owned_none (P := Ybad.prog) w2 w.heap.size 22 22 5 i0 1 Ybad.underlying22 hi v1 4 _ hown1'
      have hH := hex_of_row true d3 d2 d1 d0 w.heap.size 0 hd3 hd2 hd1 hd0 (by omega) [] ev v1 w2 ((B2.cell l0).trans hv) hev (by simpa using hown1')
      rw [← HVD.out] at hH
      clear hown1' hi hz0 hz1 hz2
      go_wp2_with (first | (at_builtin; refine wpList_append_run rfl (.tmp 41) (.tmp 42) 22 rfl v1 (.slice none 0 0) v1 rfl rfl hap ?_) | (go_at_call 5; refine hH.mono ?_; rintro e w3 ⟨rfl, hB3⟩))
      go_ret
      exact ⟨rfl, B2.trans (hB3.mono B2.size)⟩
    · have hB2c : ∀ j u, (ts.map fun b => Value.int .u8 (b.toNat : Int))[j]? = some u → w2.cell? (x.add j) = some u := by
        intro j u hj
        rw [List.getElem?_map] at hj
        cases h1 : ts[j]? with
        | none => rw [h1] at hj; cases hj
        | some b =>
          rw [h1] at hj
          simp at hj
          subst hj
          obtain ⟨hlt, he⟩ := List.getElem?_eq_some_iff.1 h1
          have h2 := htc j hlt
          rw [he] at h2
          exact (B2.cell (World.block_lt_of_cell? w _ h2)).trans h2
      have hone : ∀ u ∈ (ts.map fun b => Value.int .u8 (b.toNat : Int)), u.oneCell' = true := by
        intro u hu
        obtain ⟨b, _, rfl⟩ := List.mem_map.1 hu
        rfl
      go_wp2_with (at_builtin; go_loud (refine wpList_append_own _ rfl (.tmp 41) (.tmp 42) 22 rfl w.heap.size 5 i0 (.int .u8 0) 1 1 Ybad.underlying22 hi hz0 hz1 hz2 rfl (by decide) v1 4 _ rfl hown1' x n c (ts.map fun b => Value.int .u8 (b.toNat : Int)) rfl (by simpa using htl) hB2c hone (by simp only [maxLen]; omega) (by omega) B2.size ?_))
      intro v2 w3 hown2 hgrow2 _
      have B3 : Below w.heap.size w w3 := B2.trans (below_of_grown hgrow2 B2.size (own_at hown1'))
      have hH := hex_of_row true d3 d2 d1 d0 w.heap.size n hd3 hd2 hd1 hd0 hn (List.map (fun b : UInt8 => Value.int .u8 (b.toNat : Int)) ts) ev v2 w3 ((B3.cell l0).trans hv) hev (by simpa using hown2)
      rw [← HVD.out] at hH
      clear hown1' hown2 hgrow2 hi hz0 hz1 hz2 hB2c hone htc htl
      go_wp2_with (go_at_call 5; refine hH.mono ?_; rintro e w4 ⟨rfl, hB4⟩)
      go_ret
      exact ⟨rfl, B3.trans (hB4.mono B3.size)⟩
end Go.Proofs.YbulkiyoDoor
