/-
  strconv.ParseUint at base 16, 16 bits, four bytes; hexRune.
-/
import Derived.Shelf.Pu.ToError
import Derived.Shelf.Lay
import Derived.Ground.MpProg
import Derived.Test.YbulkiyoDoorParse
import Derived.Laws.IdiomStrings
import Derived.Lib.Strings
import Derived.Lib.Walk
import Derived.Lib.ConvBytes
import Derived.Lib.Hide
import Derived.Lib.AtoiErrMem
import Derived.Laws.Strings3
import Derived.WalkKit
import Derived.BigCall
import Derived.BigGuard
import Derived.WalkSpells
import Derived.Deep.QuietTactic
import Derived.BigQuiet
namespace Go.Proofs
open Go.Shelf
shelf_lay LaysPu.n17 Mp 17 at Ybad as Ybad.laysPu17
end Go.Proofs
namespace Go.Proofs.YbulkiyoDoor
open Go.RowKit Go.Shelf
set_option linter.unusedVariables false
/-- strconv.toError at the inner ErrSyntax. -/
theorem toError_syntax (fn s : ByteArray) (base bits : Int) (ev : Value) (w : World) (hlim : s.size ≤ 281474976710656) (hv : w.cell? ⟨0, 0, none⟩ = some ev) (hev : ev = .nilIface ∨ ∃ te pe, ev = .iface te pe) :
    Calls Ybad.prog 9 #[.string fn, .string s, .int .i64 base, .int .i64 bits, .iface 38 (.int .i64 2)] w fun e w' => ∃ N, e = .returned (.iface 41 (.pointer (some ⟨N, 0, none⟩))) ∧ Below w.heap.size w w' :=
  (AnyPu.strconv_toError_syntax Ybad.laysPu17 fn s base bits ev w hlim hv hev).mono fun e w' ⟨N, h1, _, _, h2⟩ => ⟨N, h1, h2⟩

set_option maxHeartbeats 4000000 in
set_option maxRecDepth 100000 in
theorem parsePublic (s : ByteArray) (hs : s.size = 4) (ev : Value) (w : World) (hv : w.cell? ⟨0, 0, none⟩ = some ev) (hev : ev = .nilIface ∨ ∃ te pe, ev = .iface te pe) :
    Calls Ybad.prog 7 #[.string s, .int .i64 16, .int .i64 16] w fun e w' => (∃ r : Value × Value, e = .returned (.tuple #[r.1, r.2]) ∧ (match px 0 s.data.toList with | some n => r = (.int .u64 n, .nilIface) | none => ∃ N, r = (.int .u64 0, .iface 41 (.pointer (some ⟨N, 0, none⟩))))) ∧ Below w.heap.size w w' := by
  have hG : 0 < w.heap.size := Lib.lt_of_cell hv
  have hI := parseUint16 s hs w
  cases h : px 0 s.data.toList with
  | some n =>
    rw [h] at hI
    have hI : Calls Ybad.prog 8 #[.string s, .int .i64 16, .int .i64 16] w fun e w' => e = .returned (.tuple #[.int .u64 n, .nilIface]) ∧ w' = Lib.bytesWorld w 5 s := hI
    clear h
    go_enter Ybad.func7, Ybad.ntmps7
    go_wp2_with (go_at_call 8; refine hI.mono ?_; rintro e W1 ⟨rfl, rfl⟩)
    go_wp2
    go_ret2
    exact ⟨⟨_, rfl, rfl⟩, Lib.bytesWorld_below _ _ _⟩
  | none =>
    rw [h] at hI
    have hI : Calls Ybad.prog 8 #[.string s, .int .i64 16, .int .i64 16] w fun e w' => e = .returned (.tuple #[.int .u64 0, .iface 38 (.int .i64 2)]) ∧ w' = Lib.bytesWorld w 5 s := hI
    clear h
    go_enter Ybad.func7, Ybad.ntmps7
    have hI' : Calls Ybad.prog 8 #[.string s, .int .i64 16, .int .i64 16] w fun e w' => e = .returned (.tuple #[.int .u64 0, .iface 38 (.int .i64 2)]) ∧ Hid (w' = Lib.bytesWorld w 5 s) := hI
    clear hI
    go_wp2_with (go_at_call 8; refine hI'.mono ?_; rintro e W1 ⟨rfl, hW0⟩)
    have hW := hW0.out
    have hb1 : Below w.heap.size w W1 := by rw [hW]; exact Lib.bytesWorld_below _ _ _
    have hv1 : W1.cell? ⟨0, 0, none⟩ = some ev := (hb1.cell (show (⟨0, 0, none⟩ : Addr).block < w.heap.size from hG)).trans hv
    clear hW
    refine (toError_syntax ⟨#[80, 97, 114, 115, 101, 85, 105, 110, 116]⟩ s 16 16 ev _ (by omega) hv1 hev).mono ?_
    rintro e W2 ⟨N, rfl, h3⟩
    go_wp2
    go_ret2
    exact ⟨⟨_, rfl, N, rfl⟩, hb1.trans (h3.mono hb1.size)⟩

theorem px_lt : ∀ (cs : List UInt8) (acc v : Nat), px acc cs = some v → v < (acc + 1) * 16 ^ cs.length
  | [], acc, v, h => by
    simp [px] at h
    subst h
    simp
  | c :: cs, acc, v, h => by
    unfold px at h
    cases hd : dg c.toNat with
    | none => rw [hd] at h; cases h
    | some d =>
      rw [hd] at h
      have h1 := px_lt cs (acc * 16 + d) v h
      have h2 := dg_lt hd
      rw [List.length_cons, Nat.pow_succ]
      have h3 : (acc * 16 + d + 1) * 16 ^ cs.length ≤ ((acc + 1) * 16) * 16 ^ cs.length := Nat.mul_le_mul_right _ (by omega)
      have h4 : (acc + 1) * (16 ^ cs.length * 16) = ((acc + 1) * 16) * 16 ^ cs.length := by rw [Nat.mul_comm (16 ^ cs.length) 16, Nat.mul_assoc]
      omega

/-- What hexRune gives back at four bytes. -/
def hx (bs : List UInt8) : Int × Bool := match px 0 bs with | some v => ((v : Int), true) | none => (0, false)

set_option maxHeartbeats 4000000 in
set_option maxRecDepth 100000 in
theorem hexRune_long (x : Addr) (n c : Nat) (bs : List UInt8) (hbs : bs.length = 4) (h4 : 4 ≤ n) (hnc : n ≤ c) (hn : n ≤ 9223372036854775807) (ev : Value) (w : World) (hv : w.cell? ⟨0, 0, none⟩ = some ev) (hev : ev = .nilIface ∨ ∃ te pe, ev = .iface te pe)
    (hc : ∀ j (hj : j < bs.length), w.cell? (x.add j) = some (.int .u8 (bs[j].toNat : Int))) :
    Calls Ybad.prog 5 #[.slice (some x) n c] w fun e w' => e = .returned (.tuple #[.int .i32 (hx bs).1, .bool (hx bs).2]) ∧ Below w.heap.size w w' := by
  have hcx := run_convert_bytes_back (P := Ybad.prog) w 22 9 5 x c bs Ybad.underlying22 Ybad.underlying5 Ybad.underlying9 hc
  rw [hbs] at hcx
  have hp := parsePublic ⟨bs.toArray⟩ (by simpa [ByteArray.size] using hbs) ev w hv hev
  have hci : (4 : Int) ≤ (c : Int) := by omega
  clear hc hv hev
  cases h : px 0 bs with
  | some v =>
    have hb := px_lt bs 0 v h
    rw [hbs] at hb
    have hlt : v < 65536 := by omega
    have hh : hx bs = ((v : Int), true) := by simp [hx, h]
    rw [hh]
    simp only [h] at hp
    clear h hb hh
    go_enter Ybad.func5, Ybad.ntmps5
    go_wp2_with (go_at_call 7; refine hp.mono ?_; rintro e W1 ⟨⟨r, rfl, hr⟩, hB⟩)
    clear hp hcx
    go_quiet (fail)
    go_wp2
    go_ret2
    exact ⟨rfl, ⟨hB.os, hB.tape, hB.output, hB.size, hB.block⟩⟩
  | none =>
    have hh : hx bs = (0, false) := by simp [hx, h]
    rw [hh]
    simp only [h] at hp
    clear h hh
    go_enter Ybad.func5, Ybad.ntmps5
    go_wp2_with (go_at_call 7; refine hp.mono ?_; rintro e W1 ⟨⟨r, rfl, N, rfl⟩, hB⟩)
    clear hp hcx
    go_quiet (fail)
    go_wp2
    go_ret2
    exact ⟨rfl, ⟨hB.os, hB.tape, hB.output, hB.size, hB.block⟩⟩

set_option maxHeartbeats 4000000 in
set_option maxRecDepth 100000 in
theorem hexRune_short (a : Option Addr) (n c : Nat) (h4 : n < 4) (w : World) :
    Calls Ybad.prog 5 #[.slice a n c] w fun e w' => e = .returned (.tuple #[.int .i32 0, .bool false]) ∧ w' = w := by
  go_enter Ybad.func5, Ybad.ntmps5
  go_wp2
  go_ret2
  exact ⟨rfl, rfl⟩
end Go.Proofs.YbulkiyoDoor
