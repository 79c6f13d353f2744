/-
  A TABLE OF FOUR SLICES, each appended to again and again: what an append to one of them leaves of the others. Over any program; no word of this seat's program is in it.
-/
import Derived.WalkKit
import Derived.Deep.RegionLawGrows
import Derived.Deep.Draws
namespace Go.Proofs.Ybulkiyo
open Go.RowKit

/-- Below block B, but for block T, w' is as w was. -/
structure Out (B T : Nat) (w w' : World) : Prop where
  os : w'.os = w.os
  tape : w'.tape = w.tape
  output : w'.output = w.output
  size : w.heap.size ≤ w'.heap.size
  block : ∀ k, k < B → k ≠ T → w'.heap[k]? = w.heap[k]?

theorem Out.refl (B T : Nat) (w : World) : Out B T w w := ⟨rfl, rfl, rfl, Nat.le_refl _, fun _ _ _ => rfl⟩
theorem Out.trans {B T : Nat} {a b c : World} (h : Out B T a b) (k : Out B T b c) : Out B T a c :=
  ⟨k.os.trans h.os, k.tape.trans h.tape, k.output.trans h.output, Nat.le_trans h.size k.size, fun i hi ht => (k.block i hi ht).trans (h.block i hi ht)⟩
theorem Out.below {B T N : Nat} {w w' : World} (h : Out B T w w') (h1 : N ≤ T) (h2 : N ≤ B) : Below N w w' :=
  ⟨h.os, h.tape, h.output, h.size, fun k hk => h.block k (by omega) (by omega)⟩
theorem Out.cell {B T : Nat} {w w' : World} (h : Out B T w w') {b : Nat} (o : Nat) (h1 : b < B) (h2 : b ≠ T) : w'.cell? ⟨b, o, none⟩ = w.cell? ⟨b, o, none⟩ := World.cell?_of_block (w := w) (h.block b h1 h2)
theorem Out.frozen {B T : Nat} {w w' : World} (h : Out B T w w') {b : Nat} (o : Nat) (h1 : b < B) (h2 : b ≠ T) : w'.frozen? ⟨b, o, none⟩ = w.frozen? ⟨b, o, none⟩ := World.frozen?_of_block (w := w) (h.block b h1 h2)
theorem Out.grown {B T : Nat} {w w' : World} {row : Option Nat} (h : w.grownBy w' row) (hB : B ≤ w.heap.size) (hr : ∀ g, row = some g → B ≤ g) : Out B T w w' :=
  ⟨h.os, h.tape, h.output, h.size, fun k hk _ => h.block k (by omega) (fun e => by have := hr k e.symm; omega)⟩
theorem Out.set {B T : Nat} (w : World) (o : Nat) (u : Value) : Out B T w (w.setCell ⟨T, o, none⟩ u) :=
  ⟨rfl, rfl, rfl, by simp [World.setCell], fun k _ hk => Below.heap_setCell _ _ _ _ (by exact hk)⟩

theorem grown_none_trans {a b c : World} (h : a.grownBy b none) (k : b.grownBy c none) : a.grownBy c none :=
  ⟨k.os.trans h.os, k.tape.trans h.tape, k.output.trans h.output, Nat.le_trans h.size k.size, fun i hi _ => (k.block i (Nat.lt_of_lt_of_le hi h.size) (by simp)).trans (h.block i hi (by simp))⟩
theorem grown_drewN (w : World) (n : Nat) : w.grownBy (w.drewN n) none := ⟨rfl, rfl, rfl, Nat.le_refl _, fun _ _ _ => rfl⟩
theorem grown_drew (w : World) : w.grownBy w.drew none := ⟨rfl, rfl, rfl, Nat.le_refl _, fun _ _ _ => rfl⟩
theorem grown_alloc (w : World) (o : Obj) : w.grownBy (w.alloc o) none := World.grownBy_alloc w o none

theorem ownsRow_set {w : World} {base : Nat} {e : TypeId} {size : Nat} {v : Value} {n : Nat} {xs : List Value} (h : w.ownsRow base e size v n xs) {a : Addr} (ha : ∀ g, v.ownBlock = some g → g ≠ a.block) (u : Value) : (w.setCell a u).ownsRow base e size v n xs := by
  obtain ⟨h1, h2⟩ := h
  refine ⟨h1, ?_⟩
  rcases h2 with h2 | ⟨g, cap, cur, hv, hg, hh, r⟩
  · exact Or.inl h2
  · refine Or.inr ⟨g, cap, cur, hv, hg, ?_, r⟩
    rw [Below.heap_setCell _ _ _ _ (ha g (by rw [hv]; rfl))]
    exact hh

section
variable {P : Program} (w : World)

/-- 'append' of one element (of 'size' cells) to a row of the call's own: WHICH BLOCK IT LEADS TO BEHIND IT. A row below block B is full. -/
theorem append_more (B : Nat) (t ty e : TypeId) (i : TypeInfo) (z : Value) (size bytes : Nat) (ht : P.underlying t = some (.slice e)) (hi : P.info? e = some i) (hz : i.zero = some z)
    (hsize : i.size = size) (hby : i.bytes = bytes) (hzs : z.cells.size = size) (hsz : 0 < size)
    (v : Value) (n : Nat) (xs : List Value) (hown : w.ownsRow 0 e size v n xs) (hfull : ∀ g, v.ownBlock = some g → B ≤ g ∨ ∃ q, v = .slice q n n)
    (a : Addr) (c : Nat) (news : List Value) (hl : news.length = 1 * size) (hnews : ∀ j u, news[j]? = some u → w.cell? (a.add j) = some u) (h1 : ∀ u ∈ news, u.oneCell' = true)
    (h63 : n + 1 ≤ maxLen) (hbytes : (n + 1) * bytes ≤ 140737488355328) (hB : B ≤ w.heap.size) :
    ∃ v' w', (Builtin.append_ #[t, t] ty #[v, .slice (some a) 1 c]).run P w = .ok v' w' ∧ w'.ownsRow 0 e size v' (n + 1) (xs ++ news) ∧
      (∃ row, w.grownBy w' row ∧ (row = none ∨ row = v.ownBlock) ∧ ∀ g, row = some g → B ≤ g) ∧ (∀ g, v'.ownBlock = some g → B ≤ g) ∧ (v'.ownBlock = v.ownBlock ∨ v'.ownBlock = some w.heap.size) := by
  obtain ⟨v1, w1, hr, h2, h3, _⟩ := run_append_own (P := P) w 0 t ty e i z size bytes ht hi hz hsize hby hzs hsz v n xs hown a 1 c news hl hnews h1 h63 hbytes (Nat.zero_le _)
  have hsmall : n + 1 ≤ 9223372036854775807 := by simp only [maxLen] at h63; omega
  refine ⟨v1, w1, hr, h2, ?_⟩
  subst hsize
  subst hby
  rcases hown.2 with ⟨rfl, rfl⟩ | ⟨g, cap, cur, rfl, hbg, hg, hnc, hcm, hcs, htake⟩
  · have hr2 := run_append_nil (P := P) w t ty e i z ht hi hz a 1 c news hl hnews (by omega) (by omega) (by omega)
    rw [hr] at hr2
    cases hr2
    exact ⟨⟨none, h3, Or.inl rfl, fun g hg => by cases hg⟩, fun g hg => by simp [Value.ownBlock] at hg; omega, Or.inr rfl⟩
  · by_cases hroom : n + 1 ≤ cap
    · have hfit : n * i.size + news.length ≤ cur.size := by rw [hl, hcs, ← Nat.add_mul]; exact Nat.mul_le_mul_right _ hroom
      have hr2 := run_append_room (P := P) w t ty e i ht hi g n cap cur hg a 1 c news hl hnews h1 hroom hfit
      rw [hr] at hr2
      cases hr2
      have hBg : B ≤ g := by
        rcases hfull g rfl with h | ⟨q, hq⟩
        · exact h
        · cases hq; omega
      exact ⟨⟨some g, h3, Or.inr rfl, fun k hk => by cases hk; exact hBg⟩, fun k hk => by simp [Value.ownBlock] at hk; omega, Or.inl rfl⟩
    · have holds : ∀ j u, xs[j]? = some u → w.cell? ((⟨g, 0, none⟩ : Addr).add j) = some u := hown.cells (g := g) rfl
      have hr2 := run_append_grow (P := P) w t ty e i z ht hi hz ⟨g, 0, none⟩ n cap xs hown.1 holds a 1 c news hl hnews (by omega) (by omega) (growslice_fits (by omega) hbytes)
      rw [hr] at hr2
      cases hr2
      exact ⟨⟨none, grown_none_trans (grown_drew w) (grown_alloc _ _), Or.inl rfl, fun k hk => by cases hk⟩, fun k hk => by simp [Value.ownBlock] at hk; omega, Or.inr rfl⟩

theorem wp_append_more {o : Oper} {a : Act} {K : Act → World → Prop} {Q : Exit → Act → World → Prop} (s x : Operand) (t : TypeId)
    (ho : o.op = .call { callee := .builtin .append, args := #[s, x], argTypes := #[t, t] })
    (B : Nat) (e : TypeId) (i : TypeInfo) (z : Value) (size bytes : Nat) (ht : P.underlying t = some (.slice e)) (hi : P.info? e = some i) (hz : i.zero = some z)
    (hsize : i.size = size) (hby : i.bytes = bytes) (hzs : z.cells.size = size) (hsz : 0 < size)
    (v : Value) (n : Nat) (xs : List Value) (hs : a.eval s = v) (hown : w.ownsRow 0 e size v n xs) (hfull : ∀ g, v.ownBlock = some g → B ≤ g ∨ ∃ q, v = .slice q n n)
    (ad : Addr) (c : Nat) (news : List Value) (hx : a.eval x = .slice (some ad) 1 c) (hl : news.length = 1 * size) (hnews : ∀ j u, news[j]? = some u → w.cell? (ad.add j) = some u) (h1 : ∀ u ∈ news, u.oneCell' = true)
    (h63 : n + 1 ≤ maxLen) (hbytes : (n + 1) * bytes ≤ 140737488355328) (hB : B ≤ w.heap.size)
    (h : ∀ v' w', w'.ownsRow 0 e size v' (n + 1) (xs ++ news) → (∃ row, w.grownBy w' row ∧ (row = none ∨ row = v.ownBlock) ∧ ∀ g, row = some g → B ≤ g) → (∀ g, v'.ownBlock = some g → B ≤ g) → (v'.ownBlock = v.ownBlock ∨ v'.ownBlock = some w.heap.size) → K (a.put o.dst v') w') : o.wp P a w K Q := by
  obtain ⟨v', w', hr, h2, h3, h4, h5⟩ := append_more (P := P) w B t o.type e i z size bytes ht hi hz hsize hby hzs hsz v n xs hown hfull ad c news hl hnews h1 h63 hbytes hB
  unfold Oper.wp execOp
  simp only [ho, resolve, invoke, builtin, Sem.run_bind, Sem.run_pure, Result.andThen_ok, List.map_toArray, List.map_cons, List.map_nil, hs, hx, hr]
  exact h v' w' h2 h3 h4 h5

theorem wpList_append_more {ops : Array Oper} {rest : List Oper} {o : Oper} {a : Act} {Q : Exit → Act → World → Prop} (hgd : o.guard = none) (s x : Operand) (t : TypeId)
    (ho : o.op = .call { callee := .builtin .append, args := #[s, x], argTypes := #[t, t] })
    (B : Nat) (e : TypeId) (i : TypeInfo) (z : Value) (size bytes : Nat) (ht : P.underlying t = some (.slice e)) (hi : P.info? e = some i) (hz : i.zero = some z)
    (hsize : i.size = size) (hby : i.bytes = bytes) (hzs : z.cells.size = size) (hsz : 0 < size)
    (v : Value) (n : Nat) (xs : List Value) (hs : a.eval s = v) (hown : w.ownsRow 0 e size v n xs) (hfull : ∀ g, v.ownBlock = some g → B ≤ g ∨ ∃ q, v = .slice q n n)
    (ad : Addr) (c : Nat) (news : List Value) (hx : a.eval x = .slice (some ad) 1 c) (hl : news.length = 1 * size) (hnews : ∀ j u, news[j]? = some u → w.cell? (ad.add j) = some u) (h1 : ∀ u ∈ news, u.oneCell' = true)
    (h63 : n + 1 ≤ maxLen) (hbytes : (n + 1) * bytes ≤ 140737488355328) (hB : B ≤ w.heap.size)
    (h : ∀ v' w', w'.ownsRow 0 e size v' (n + 1) (xs ++ news) → (∃ row, w.grownBy w' row ∧ (row = none ∨ row = v.ownBlock) ∧ ∀ g, row = some g → B ≤ g) → (∀ g, v'.ownBlock = some g → B ≤ g) → (v'.ownBlock = v.ownBlock ∨ v'.ownBlock = some w.heap.size) → wpList P ops Q rest (a.put o.dst v') w') : wpList P ops Q (o :: rest) a w :=
  wpList_plain hgd fun _ hK => wp_append_more w s x t ho B e i z size bytes ht hi hz hsize hby hzs hsz v n xs hs hown hfull ad c news hx hl hnews h1 h63 hbytes hB fun v' w' h2 h3 h4 h5 => hK _ _ (h v' w' h2 h3 h4 h5)

theorem step_append_more {ops : Array Oper} {o : Oper} {a : Act} {K : Act → World → Prop} {Q : Exit → Act → World → Prop} {E : Prop} (hgd : o.guard = none) (s x : Operand) (t : TypeId)
    (ho : o.op = .call { callee := .builtin .append, args := #[s, x], argTypes := #[t, t] })
    (B : Nat) (e : TypeId) (i : TypeInfo) (z : Value) (size bytes : Nat) (ht : P.underlying t = some (.slice e)) (hi : P.info? e = some i) (hz : i.zero = some z)
    (hsize : i.size = size) (hby : i.bytes = bytes) (hzs : z.cells.size = size) (hsz : 0 < size)
    (v : Value) (n : Nat) (xs : List Value) (hs : a.eval s = v) (hown : w.ownsRow 0 e size v n xs) (hfull : ∀ g, v.ownBlock = some g → B ≤ g ∨ ∃ q, v = .slice q n n)
    (ad : Addr) (c : Nat) (news : List Value) (hx : a.eval x = .slice (some ad) 1 c) (hl : news.length = 1 * size) (hnews : ∀ j u, news[j]? = some u → w.cell? (ad.add j) = some u) (h1 : ∀ u ∈ news, u.oneCell' = true)
    (h63 : n + 1 ≤ maxLen) (hbytes : (n + 1) * bytes ≤ 140737488355328) (hB : B ≤ w.heap.size)
    (h : ∀ v' w', w'.ownsRow 0 e size v' (n + 1) (xs ++ news) → (∃ row, w.grownBy w' row ∧ (row = none ∨ row = v.ownBlock) ∧ ∀ g, row = some g → B ≤ g) → (∀ g, v'.ownBlock = some g → B ≤ g) → (v'.ownBlock = v.ownBlock ∨ v'.ownBlock = some w.heap.size) → K (a.put o.dst v') w') :
    if Region.wanted o (yielded ops a.tmps) = true then Oper.wp P o a w K Q else E := by
  have hw : Region.wanted o (yielded ops a.tmps) = true := by simp [Region.wanted, hgd]
  rw [if_pos hw]
  exact wp_append_more w s x t ho B e i z size bytes ht hi hz hsize hby hzs hsz v n xs hs hown hfull ad c news hx hl hnews h1 h63 hbytes hB h
end

/-- FOUR SLICES in the first cells of block T, none over another's row; a row below block B is full. -/
structure Tab (T B : Nat) (e : TypeId) (size : Nat) (rows : Nat → List Value) (w : World) : Prop where
  row : ∀ o, o < 4 → ∃ v n, w.cell? ⟨T, o, none⟩ = some v ∧ w.frozen? ⟨T, o, none⟩ = false ∧ w.ownsRow 0 e size v n (rows o) ∧ ∀ g, v.ownBlock = some g → g ≠ T ∧ (B ≤ g ∨ ∃ q, v = .slice q n n)
  apart : ∀ o p v u, o < 4 → p < 4 → o ≠ p → w.cell? ⟨T, o, none⟩ = some v → w.cell? ⟨T, p, none⟩ = some u → ∀ g, v.ownBlock = some g → u.ownBlock ≠ some g
  lt : T < w.heap.size

theorem Tab.grown {T B : Nat} {e : TypeId} {size : Nat} {rows : Nat → List Value} {w w' : World} (h : Tab T B e size rows w) (hg : w.grownBy w' none) : Tab T B e size rows w' := by
  have hc : ∀ o, w'.cell? ⟨T, o, none⟩ = w.cell? ⟨T, o, none⟩ := fun o => World.cell?_of_block (w := w) (hg.block T h.lt (by simp))
  have hf : ∀ o, w'.frozen? ⟨T, o, none⟩ = w.frozen? ⟨T, o, none⟩ := fun o => World.frozen?_of_block (w := w) (hg.block T h.lt (by simp))
  refine ⟨fun o ho => ?_, fun o p v u ho hp hne hv hu => ?_, Nat.lt_of_lt_of_le h.lt hg.size⟩
  · obtain ⟨v, n, a, b, c, d⟩ := h.row o ho
    exact ⟨v, n, by rw [hc]; exact a, by rw [hf]; exact b, c.kept hg (by cases v.ownBlock <;> simp), d⟩
  · rw [hc] at hv hu
    exact h.apart o p v u ho hp hne hv hu

theorem Tab.alloc {T B : Nat} {e : TypeId} {size : Nat} {rows : Nat → List Value} {w : World} (h : Tab T B e size rows w) (o : Obj) : Tab T B e size rows (w.alloc o) := h.grown (grown_alloc w o)
theorem Tab.drewN {T B : Nat} {e : TypeId} {size : Nat} {rows : Nat → List Value} {w : World} (h : Tab T B e size rows w) (n : Nat) : Tab T B e size rows (w.drewN n) := h.grown (grown_drewN w n)

/-- Behind 'table[o] = append(table[o], x)'. -/
theorem Tab.step {T B : Nat} {e : TypeId} {size : Nat} {rows : Nat → List Value} {w w1 : World} (h : Tab T B e size rows w) {o : Nat} (ho : o < 4) {v v' : Value} {n : Nat} {news : List Value} (hB : B ≤ w.heap.size)
    (hv : w.cell? ⟨T, o, none⟩ = some v) (hown' : w1.ownsRow 0 e size v' (n + 1) (rows o ++ news)) (hgrow : ∃ row, w.grownBy w1 row ∧ (row = none ∨ row = v.ownBlock) ∧ ∀ g, row = some g → B ≤ g) (hnew : ∀ g, v'.ownBlock = some g → B ≤ g)
    (hwhich : v'.ownBlock = v.ownBlock ∨ v'.ownBlock = some w.heap.size) :
    Tab T B e size (fun p => if p = o then rows o ++ news else rows p) (w1.setCell ⟨T, o, none⟩ v') ∧ Out B T w (w1.setCell ⟨T, o, none⟩ v') := by
  obtain ⟨row, hg, hrow, hrB⟩ := hgrow
  have hlt := h.lt
  obtain ⟨v0, n0, a0, b0, c0, d0⟩ := h.row o ho
  rw [hv] at a0
  cases a0
  have hTrow : some T ≠ row := by
    rcases hrow with rfl | rfl
    · simp
    · intro e1; exact (d0 T e1.symm).1 rfl
  have hT : w1.heap[T]? = w.heap[T]? := hg.block T hlt hTrow
  have hc : ∀ p, w1.cell? ⟨T, p, none⟩ = w.cell? ⟨T, p, none⟩ := fun p => World.cell?_of_block (w := w) hT
  have hf : ∀ p, w1.frozen? ⟨T, p, none⟩ = w.frozen? ⟨T, p, none⟩ := fun p => World.frozen?_of_block (w := w) hT
  have hv1 : w1.cell? ⟨T, o, none⟩ = some v := by rw [hc]; exact hv
  have hvT : ∀ g, v'.ownBlock = some g → g ≠ T := by
    intro g hgv
    rcases hwhich with e1 | e1
    · rw [e1] at hgv; exact (d0 g hgv).1
    · rw [e1] at hgv; cases hgv; omega
  have hother : ∀ p, p ≠ o → (w1.setCell ⟨T, o, none⟩ v').cell? ⟨T, p, none⟩ = w.cell? ⟨T, p, none⟩ := fun p hp => by
    rw [World.cell?_setCell_other _ _ _ _ (by simp), hc]
  have hsame : (w1.setCell ⟨T, o, none⟩ v').cell? ⟨T, o, none⟩ = some v' := World.cell?_setCell_same _ _ _ hv1
  have hlt' : ∀ p, p < 4 → ∀ u, w.cell? ⟨T, p, none⟩ = some u → ∀ g, u.ownBlock = some g → g < w.heap.size := by
    intro p hp u hu g hgu
    obtain ⟨u0, m0, a1, _, c1, _⟩ := h.row p hp
    rw [hu] at a1
    cases a1
    exact (c1.lt g hgu).2
  refine ⟨⟨fun p hp => ?_, fun p q x y hp hq hne hx hy g hgx => ?_, ?_⟩, ?_⟩
  · by_cases e1 : p = o
    · subst e1
      refine ⟨v', n + 1, hsame, by rw [World.frozen?_setCell, hf]; exact b0, ?_, fun g hgv => ⟨hvT g hgv, Or.inl (hnew g hgv)⟩⟩
      simp only [if_pos]
      exact ownsRow_set hown' hvT _
    · obtain ⟨u, m, a1, b1, c1, d1⟩ := h.row p hp
      refine ⟨u, m, by rw [hother p e1]; exact a1, by rw [World.frozen?_setCell, hf]; exact b1, ?_, d1⟩
      simp only [if_neg e1]
      refine ownsRow_set (c1.kept hg ?_) (fun g hgu => (d1 g hgu).1) _
      rcases hrow with rfl | rfl
      · cases u.ownBlock <;> simp
      · cases hu : u.ownBlock with
        | none => exact Or.inl rfl
        | some g =>
          refine Or.inr (fun e2 => ?_)
          exact h.apart p o u v hp ho e1 a1 hv g hu e2.symm
  · by_cases e1 : p = o
    · subst e1
      rw [hsame] at hx
      cases hx
      rw [hother q (fun e2 => hne e2.symm)] at hy
      rcases hwhich with e2 | e2
      · rw [e2] at hgx
        exact h.apart p q v y hp hq hne hv hy g hgx
      · rw [e2] at hgx
        cases hgx
        intro e3
        have := hlt' q hq y hy _ e3
        omega
    · rw [hother p e1] at hx
      by_cases e2 : q = o
      · subst e2
        rw [hsame] at hy
        cases hy
        rcases hwhich with e3 | e3
        · rw [e3]; exact h.apart p q x v hp hq hne hx hv g hgx
        · rw [e3]
          intro e4
          cases e4
          have := hlt' p hp x hx _ hgx
          omega
      · rw [hother q e2] at hy
        exact h.apart p q x y hp hq hne hx hy g hgx
  · have := hg.size
    simp [World.setCell]
    omega
  · exact (Out.grown hg hB hrB).trans (Out.set _ _ _)

end Go.Proofs.Ybulkiyo
