/-
  The closure 'read' of LawS0482AFlat and of LawS0482ATuple: it counts its call and logs its argument.
-/
import Derived.Test.YbulkiyoProg
import Derived.WalkKit
import Derived.WalkSpells
namespace Go.Proofs.Ybulkiyo
open Go.RowKit
theorem info20 : (Yba.prog.info? 20).map (fun i => (i.zero, i.size, i.bytes)) = some (some .nilIface, 1, 16) := by kernel_rfl

/-- What the closure 'read' of the two laws leaves: it has been called once, with v. -/
structure Read (bc bl bf be : Nat) (v : Value) (w w' : World) : Prop where
  calls : w'.cell? ⟨bc, 0, none⟩ = some (.int .i64 1)
  log : ∃ r c, w'.cell? ⟨bl, 0, none⟩ = some (.slice (some ⟨r, 0, none⟩) 1 c) ∧ w'.cell? ⟨r, 0, none⟩ = some v
  fail : w'.cell? ⟨bf, 0, none⟩ = w.cell? ⟨bf, 0, none⟩
  err : w'.cell? ⟨be, 0, none⟩ = w.cell? ⟨be, 0, none⟩
  below : ∀ B, B ≤ bc → B ≤ bl → Below B w w'

set_option maxRecDepth 100000 in
set_option maxHeartbeats 800000 in
theorem read7 (bc bl bf be : Nat) (t : TypeId) (x ev : Value) (fl : Bool) (w : World) (d1 : bc ≠ bl) (d2 : bf ≠ bc) (d3 : bf ≠ bl) (d4 : be ≠ bc) (d5 : be ≠ bl)
    (hc : w.cell? ⟨bc, 0, none⟩ = some (.int .i64 0)) (fc : w.frozen? ⟨bc, 0, none⟩ = false)
    (hl : w.cell? ⟨bl, 0, none⟩ = some (.slice none 0 0)) (fz : w.frozen? ⟨bl, 0, none⟩ = false)
    (hf : w.cell? ⟨bf, 0, none⟩ = some (.bool fl)) (he : w.cell? ⟨be, 0, none⟩ = some (.iface 82 ev)) :
    Calls Yba.prog 7 #[.iface t x, .pointer (some ⟨bc, 0, none⟩), .pointer (some ⟨bl, 0, none⟩), .pointer (some ⟨bf, 0, none⟩), .pointer (some ⟨be, 0, none⟩)] w
      fun e w' => e = .returned (if fl then .iface 82 ev else .nilIface) ∧ Read bc bl bf be (.iface t x) w w' := by
  obtain ⟨i0, hi, hz0, hz1, hz2⟩ := info_parts info20
  go_enter Yba.func7, Yba.ntmps7
  go_wp2_with (at_builtin; refine wpList_append_own _ rfl _ _ 25 rfl 0 20 i0 .nilIface 1 16 Yba.underlying25 hi hz0 hz1 hz2 rfl (by decide) _ _ _ rfl (World.ownsRow_nil _ _ _ _) ⟨w.heap.size, 0, none⟩ 1 1 [.iface t x] rfl rfl ?c1 ?c2 ?c3 ?c4 ?c5 ?_)
  case c1 =>
    intro j u hj
    match j, hj with
    | 0, hj => simp at hj; subst hj; simp [Addr.add, World.cell?_alloc_at _ _ _ _ (show w.heap.size = (w.setCell ⟨bc, 0, none⟩ (.int .i64 1)).heap.size by simp [World.setCell])]
  case c2 => intro u hu; simp at hu; subst hu; rfl
  case c3 => simp [maxLen]
  case c4 => omega
  case c5 => exact Nat.zero_le _
  intro v' w2 hown hgrow hne
  obtain ⟨g, c, hv', hg⟩ : ∃ g c, v' = .slice (some ⟨g, 0, none⟩) 1 c ∧ w2.cell? ⟨g, 0, none⟩ = some (.iface t x) := by
    rcases hown.2 with ⟨h1, _⟩ | ⟨g, c, cur, rfl, _, hh, _, _, _, hcur⟩
    · exact absurd h1 hne
    · refine ⟨g, c, rfl, ?_⟩
      have := hown.cells (g := g) rfl 0 (.iface t x) rfl
      simpa [Addr.add] using this
  rw [hv']
  have hk : ∀ b o, b < w.heap.size → w2.cell? ⟨b, o, none⟩ = (w.setCell ⟨bc, 0, none⟩ (.int .i64 1)).cell? ⟨b, o, none⟩ := fun b o hb => by
    rw [World.cell?_of_block (w := (w.setCell ⟨bc, 0, none⟩ (.int .i64 1)).alloc (.cells #[.iface t x] 20)) (hgrow.block b (by simp; omega) (by simp [Value.ownBlock]))]
    exact World.cell?_alloc_past _ _ _ (by simpa using hb)
  have hkf : ∀ b o, b < w.heap.size → w2.frozen? ⟨b, o, none⟩ = w.frozen? ⟨b, o, none⟩ := fun b o hb => by
    rw [World.frozen?_of_block (w := (w.setCell ⟨bc, 0, none⟩ (.int .i64 1)).alloc (.cells #[.iface t x] 20)) (hgrow.block b (by simp; omega) (by simp [Value.ownBlock]))]
    rw [World.frozen?_alloc_past _ _ _ (by simpa using hb), World.frozen?_setCell]
  have lc : bc < w.heap.size := World.block_lt_of_cell? w _ hc
  have ll : bl < w.heap.size := World.block_lt_of_cell? w _ hl
  have lf : bf < w.heap.size := World.block_lt_of_cell? w _ hf
  have le : be < w.heap.size := World.block_lt_of_cell? w _ he
  have c1 : w2.cell? ⟨bc, 0, none⟩ = some (.int .i64 1) := by rw [hk _ _ lc]; exact World.cell?_setCell_same _ _ _ hc
  have c2 : w2.cell? ⟨bl, 0, none⟩ = some (.slice none 0 0) := by rw [hk _ _ ll, World.cell?_setCell_other _ _ _ _ (by simp)]; exact hl
  have c3 : w2.cell? ⟨bf, 0, none⟩ = some (.bool fl) := by rw [hk _ _ lf, World.cell?_setCell_other _ _ _ _ (by simp)]; exact hf
  have c4 : w2.cell? ⟨be, 0, none⟩ = some (.iface 82 ev) := by rw [hk _ _ le, World.cell?_setCell_other _ _ _ _ (by simp)]; exact he
  have f2 : w2.frozen? ⟨bl, 0, none⟩ = false := by rw [hkf _ _ ll]; exact fz
  have gl : g ≠ bl := fun e => by rw [e, c2] at hg; cases hg
  have HR : Hid (Read bc bl bf be (.iface t x) w (w2.setCell ⟨bl, 0, none⟩ (.slice (some ⟨g, 0, none⟩) 1 c))) := by
    refine ⟨?_, ⟨g, c, World.cell?_setCell_same _ _ _ c2, ?_⟩, ?_, ?_, fun B hB1 hB2 => ?_⟩
    · rw [World.cell?_setCell_other _ _ _ _ (by simp)]; exact c1
    · rw [World.cell?_setCell_other _ _ _ _ (by simp)]; exact hg
    · rw [World.cell?_setCell_other _ _ _ _ (by simp), hf]; exact c3
    · rw [World.cell?_setCell_other _ _ _ _ (by simp), he]; exact c4
    · refine Below.setCell ?_ hB2 _
      exact (((Below.refl B w).setCell (by exact hB1) _).alloc (by simp [World.setCell]; omega) _).grown hgrow (by simp [World.setCell]; omega) (fun k hk => by simp [Value.ownBlock] at hk)
  clear hown hgrow hne hk hkf hc fc hl fz hf he lc ll lf le c1 hg hi hz0 hz1 hz2 gl
  have d3' : bl ≠ bf := fun e => d3 e.symm
  have d5' : bl ≠ be := fun e => d5 e.symm
  cases fl
  · go_wp2
    go_ret
    exact ⟨rfl, HR.out⟩
  · go_wp2
    go_ret
    exact ⟨rfl, HR.out⟩

set_option maxRecDepth 100000 in
set_option maxHeartbeats 800000 in
theorem read9 (bc bl bf be : Nat) (t : TypeId) (x ev : Value) (fl : Bool) (w : World) (d1 : bc ≠ bl) (d2 : bf ≠ bc) (d3 : bf ≠ bl) (d4 : be ≠ bc) (d5 : be ≠ bl)
    (hc : w.cell? ⟨bc, 0, none⟩ = some (.int .i64 0)) (fc : w.frozen? ⟨bc, 0, none⟩ = false)
    (hl : w.cell? ⟨bl, 0, none⟩ = some (.slice none 0 0)) (fz : w.frozen? ⟨bl, 0, none⟩ = false)
    (hf : w.cell? ⟨bf, 0, none⟩ = some (.bool fl)) (he : w.cell? ⟨be, 0, none⟩ = some (.iface 82 ev)) :
    Calls Yba.prog 9 #[.iface t x, .pointer (some ⟨bc, 0, none⟩), .pointer (some ⟨bl, 0, none⟩), .pointer (some ⟨bf, 0, none⟩), .pointer (some ⟨be, 0, none⟩)] w
      fun e w' => e = .returned (if fl then .iface 82 ev else .nilIface) ∧ Read bc bl bf be (.iface t x) w w' := by
  obtain ⟨i0, hi, hz0, hz1, hz2⟩ := info_parts info20
  go_enter Yba.func9, Yba.ntmps9
  go_wp2_with (at_builtin; refine wpList_append_own _ rfl _ _ 25 rfl 0 20 i0 .nilIface 1 16 Yba.underlying25 hi hz0 hz1 hz2 rfl (by decide) _ _ _ rfl (World.ownsRow_nil _ _ _ _) ⟨w.heap.size, 0, none⟩ 1 1 [.iface t x] rfl rfl ?c1 ?c2 ?c3 ?c4 ?c5 ?_)
  case c1 =>
    intro j u hj
    match j, hj with
    | 0, hj => simp at hj; subst hj; simp [Addr.add, World.cell?_alloc_at _ _ _ _ (show w.heap.size = (w.setCell ⟨bc, 0, none⟩ (.int .i64 1)).heap.size by simp [World.setCell])]
  case c2 => intro u hu; simp at hu; subst hu; rfl
  case c3 => simp [maxLen]
  case c4 => omega
  case c5 => exact Nat.zero_le _
  intro v' w2 hown hgrow hne
  obtain ⟨g, c, hv', hg⟩ : ∃ g c, v' = .slice (some ⟨g, 0, none⟩) 1 c ∧ w2.cell? ⟨g, 0, none⟩ = some (.iface t x) := by
    rcases hown.2 with ⟨h1, _⟩ | ⟨g, c, cur, rfl, _, hh, _, _, _, hcur⟩
    · exact absurd h1 hne
    · refine ⟨g, c, rfl, ?_⟩
      have := hown.cells (g := g) rfl 0 (.iface t x) rfl
      simpa [Addr.add] using this
  rw [hv']
  have hk : ∀ b o, b < w.heap.size → w2.cell? ⟨b, o, none⟩ = (w.setCell ⟨bc, 0, none⟩ (.int .i64 1)).cell? ⟨b, o, none⟩ := fun b o hb => by
    rw [World.cell?_of_block (w := (w.setCell ⟨bc, 0, none⟩ (.int .i64 1)).alloc (.cells #[.iface t x] 20)) (hgrow.block b (by simp; omega) (by simp [Value.ownBlock]))]
    exact World.cell?_alloc_past _ _ _ (by simpa using hb)
  have hkf : ∀ b o, b < w.heap.size → w2.frozen? ⟨b, o, none⟩ = w.frozen? ⟨b, o, none⟩ := fun b o hb => by
    rw [World.frozen?_of_block (w := (w.setCell ⟨bc, 0, none⟩ (.int .i64 1)).alloc (.cells #[.iface t x] 20)) (hgrow.block b (by simp; omega) (by simp [Value.ownBlock]))]
    rw [World.frozen?_alloc_past _ _ _ (by simpa using hb), World.frozen?_setCell]
  have lc : bc < w.heap.size := World.block_lt_of_cell? w _ hc
  have ll : bl < w.heap.size := World.block_lt_of_cell? w _ hl
  have lf : bf < w.heap.size := World.block_lt_of_cell? w _ hf
  have le : be < w.heap.size := World.block_lt_of_cell? w _ he
  have c1 : w2.cell? ⟨bc, 0, none⟩ = some (.int .i64 1) := by rw [hk _ _ lc]; exact World.cell?_setCell_same _ _ _ hc
  have c2 : w2.cell? ⟨bl, 0, none⟩ = some (.slice none 0 0) := by rw [hk _ _ ll, World.cell?_setCell_other _ _ _ _ (by simp)]; exact hl
  have c3 : w2.cell? ⟨bf, 0, none⟩ = some (.bool fl) := by rw [hk _ _ lf, World.cell?_setCell_other _ _ _ _ (by simp)]; exact hf
  have c4 : w2.cell? ⟨be, 0, none⟩ = some (.iface 82 ev) := by rw [hk _ _ le, World.cell?_setCell_other _ _ _ _ (by simp)]; exact he
  have f2 : w2.frozen? ⟨bl, 0, none⟩ = false := by rw [hkf _ _ ll]; exact fz
  have gl : g ≠ bl := fun e => by rw [e, c2] at hg; cases hg
  have HR : Hid (Read bc bl bf be (.iface t x) w (w2.setCell ⟨bl, 0, none⟩ (.slice (some ⟨g, 0, none⟩) 1 c))) := by
    refine ⟨?_, ⟨g, c, World.cell?_setCell_same _ _ _ c2, ?_⟩, ?_, ?_, fun B hB1 hB2 => ?_⟩
    · rw [World.cell?_setCell_other _ _ _ _ (by simp)]; exact c1
    · rw [World.cell?_setCell_other _ _ _ _ (by simp)]; exact hg
    · rw [World.cell?_setCell_other _ _ _ _ (by simp), hf]; exact c3
    · rw [World.cell?_setCell_other _ _ _ _ (by simp), he]; exact c4
    · refine Below.setCell ?_ hB2 _
      exact (((Below.refl B w).setCell (by exact hB1) _).alloc (by simp [World.setCell]; omega) _).grown hgrow (by simp [World.setCell]; omega) (fun k hk => by simp [Value.ownBlock] at hk)
  clear hown hgrow hne hk hkf hc fc hl fz hf he lc ll lf le c1 hg hi hz0 hz1 hz2 gl
  have d3' : bl ≠ bf := fun e => d3 e.symm
  have d5' : bl ≠ be := fun e => d5 e.symm
  cases fl
  · go_wp2
    go_ret
    exact ⟨rfl, HR.out⟩
  · go_wp2
    go_ret
    exact ⟨rfl, HR.out⟩
end Go.Proofs.Ybulkiyo
