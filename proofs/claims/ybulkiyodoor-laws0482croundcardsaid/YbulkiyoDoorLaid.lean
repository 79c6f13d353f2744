/-
  The listed variables: what they give the walk (strconv.ErrSyntax holds an interface value), and one world that meets them.
-/
import Derived.Test.YbulkiyoDoorRows
import Derived.WalkKit
import Derived.ProofKit
import Derived.OpenShut
import Derived.ChangeSame
import Derived.ChangeVars
import Derived.JoinedOf
import Derived.JoinedAt
import Derived.RowKit
import Derived.RowKitTokens
import Derived.LaidLaws
import Derived.LaidHandle
import Derived.Stop.LaidErr
namespace Go.Proofs.YbulkiyoDoor
open Go.ChangeShapes Go.WideShapes Go.RowKit

theorem own : ownKnob Ybad.prog.godebug = none := by kernel_rfl
theorem laidOut : laidOutB Ybad.prog = true := by kernel_rfl
theorem gES : Ybad.prog.globalNamed "strconv.ErrSyntax" = some 0 := by kernel_rfl
theorem gESType : (Ybad.prog.globals[0]?).map (·.type) = some 34 := by kernel_rfl
theorem cells52 : Ybad.prog.cellsOf 52 = 1 := by kernel_rfl
theorem cells9 : Ybad.prog.cellsOf 9 = 1 := by kernel_rfl
theorem star : "*" ++ "errors.errorString" = "*errors.errorString" := by decide
theorem row50 (u : TypeId) (h : Ybad.prog.typeName? 3 u = some "*errors.errorString") : u = 50 :=
  typeName_ptr_named (nm := "errors.errorString") (by rw [star]; kernel_rfl) (by kernel_rfl) (by decide) u (by rw [star]; exact h)

/-- The rows' list. -/
abbrev laid5 : List (String × DataW Unit) := [("math/bits.deBruijn32tab", Rows.laid_math_bits_deBruijn32tab), ("math/bits.deBruijn64tab", Rows.laid_math_bits_deBruijn64tab), ("internal/strconv.uint64pow10", Rows.laid_internal_strconv_uint64pow10), ("strconv.ErrRange", Rows.laid_strconv_ErrRange), ("strconv.ErrSyntax", Rows.laid_strconv_ErrSyntax)]

/-- strconv.ErrSyntax holds an interface value. -/
theorem errSyntax_of_laid {W : World} (h : laidMet Ybad.prog laid5 W) : ∃ ev, W.cell? ⟨0, 0, none⟩ = some ev ∧ (ev = .nilIface ∨ ∃ te pe, ev = .iface te pe) := by
  have h1 := h.tail.tail.tail.tail
  obtain ⟨a0, s0, hv0, -, -, -⟩ := laid_sentinel h1 gES gESType Ybad.underlying34 row50 Ybad.underlying50 Ybad.underlying52 rfl rfl Ybad.underlying9 cells52 cells9
  exact ⟨_, by simpa using World.var?_cell gES hv0 0, Or.inr ⟨_, _, rfl⟩⟩

/-! ### One start that fits -/
abbrev synS : ByteArray := { data := #[105, 110, 118, 97, 108, 105, 100, 32, 115, 121, 110, 116, 97, 120] }
abbrev rngS : ByteArray := { data := #[118, 97, 108, 117, 101, 32, 111, 117, 116, 32, 111, 102, 32, 114, 97, 110, 103, 101] }
noncomputable def low : Nat := (World.holding Ybad.prog default ⟨#[], #[], []⟩).heap.size
/-- A block, its cells turned. -/
def lay (cs : Array Value) : Obj → Obj
  | .cells _ t frozen => .cells cs t frozen
  | o => o
noncomputable def laidWorld (os : Os) : World :=
  let w0 := World.holding Ybad.prog os ⟨#[.cells #[.string synS] 52, .cells #[.string rngS] 52], #[], []⟩
  { w0 with heap := ((((w0.heap.modify 0 (lay #[.iface 50 (.pointer (some ⟨low, 0, none⟩))])).modify 1 (lay #[.iface 50 (.pointer (some ⟨low + 1, 0, none⟩))])).modify 2 (lay #[.int .u64 1, .int .u64 10, .int .u64 100, .int .u64 1000, .int .u64 10000, .int .u64 100000, .int .u64 1000000, .int .u64 10000000, .int .u64 100000000, .int .u64 1000000000, .int .u64 10000000000, .int .u64 100000000000, .int .u64 1000000000000, .int .u64 10000000000000, .int .u64 100000000000000, .int .u64 1000000000000000, .int .u64 10000000000000000, .int .u64 100000000000000000, .int .u64 1000000000000000000, .int .u64 10000000000000000000])).modify 3 (lay #[.int .u8 0, .int .u8 1, .int .u8 28, .int .u8 2, .int .u8 29, .int .u8 14, .int .u8 24, .int .u8 3, .int .u8 30, .int .u8 22, .int .u8 20, .int .u8 15, .int .u8 25, .int .u8 17, .int .u8 4, .int .u8 8, .int .u8 31, .int .u8 27, .int .u8 13, .int .u8 23, .int .u8 21, .int .u8 19, .int .u8 16, .int .u8 7, .int .u8 26, .int .u8 12, .int .u8 18, .int .u8 6, .int .u8 11, .int .u8 5, .int .u8 10, .int .u8 9])).modify 4 (lay #[.int .u8 0, .int .u8 1, .int .u8 56, .int .u8 2, .int .u8 57, .int .u8 49, .int .u8 28, .int .u8 3, .int .u8 61, .int .u8 58, .int .u8 42, .int .u8 50, .int .u8 38, .int .u8 29, .int .u8 17, .int .u8 4, .int .u8 62, .int .u8 47, .int .u8 59, .int .u8 36, .int .u8 45, .int .u8 43, .int .u8 51, .int .u8 22, .int .u8 53, .int .u8 39, .int .u8 33, .int .u8 30, .int .u8 24, .int .u8 18, .int .u8 12, .int .u8 5, .int .u8 63, .int .u8 55, .int .u8 48, .int .u8 27, .int .u8 60, .int .u8 41, .int .u8 37, .int .u8 16, .int .u8 46, .int .u8 35, .int .u8 44, .int .u8 21, .int .u8 52, .int .u8 32, .int .u8 23, .int .u8 11, .int .u8 54, .int .u8 26, .int .u8 40, .int .u8 15, .int .u8 34, .int .u8 20, .int .u8 31, .int .u8 10, .int .u8 25, .int .u8 14, .int .u8 19, .int .u8 9, .int .u8 13, .int .u8 8, .int .u8 7, .int .u8 6]) }
theorem laidWorld_met (os : Os) (args : Array Value) : laidMet Ybad.prog laid5 ((laidWorld os).forCall (fun _ _ => 0) ⟨#[], args, []⟩).memory :=
  laidMet_of_run' 8 (by kernel_rfl) (by kernel_rfl)

/-- What the walk is told of a slice of bytes: it is nil; or it leads to a row of 'cap' cells. -/
def IsRow (w : World) (a : Option Addr) (len cap : Nat) : Prop :=
  (a = none ∧ len = 0 ∧ cap = 0) ∨
  ∃ (x : Addr) (zs : List UInt8), a = some x ∧ len ≤ cap ∧ cap ≤ maxLen ∧ zs.length = cap ∧ ∀ i, i < zs.length → w.cell? (x.add i) = some (.int .u8 ((zs.getD i 0 : UInt8).toNat : Int))

theorem open_bytes {H : Type} {enc : TypeId × Value → H} {w : World} {base : Nat} {spare : Nat → Bool} {held : Bool} {a : Option Addr} {len cap fuel : Nat} {x : DataW H × List MemPlace} (hsp : ∀ b, spare b = true)
    (h : DataW.trod enc Ybad.prog w base spare held fuel 22 [.slice a len cap] = some x) : IsRow w a len cap := by
  rcases open_ints Ybad.underlying22 Ybad.underlying5 (by kernel_rfl) h with ⟨hcs, _⟩ | ⟨y, l, c, zs, hcs, _, hl, hm, hz, _, hcell, hwz⟩
  · simp at hcs
    exact .inl hcs
  · simp at hcs
    obtain ⟨rfl, rfl, rfl⟩ := hcs
    have hz' : zs.length = cap := by simpa [hsp] using hz
    refine .inr ⟨y, zs.map fun z => UInt8.ofNat z.toNat, rfl, hl, hm, by simpa using hz', fun i hi => ?_⟩
    rw [List.length_map] at hi
    have hw := hwz (zs.getD i 0) (by rw [List.getD_eq_getElem?_getD, List.getElem?_eq_getElem hi]; exact List.getElem_mem _)
    have hb : 0 ≤ zs.getD i 0 ∧ zs.getD i 0 ≤ 255 := by
      generalize zs.getD i 0 = z at hw
      simp [Lit.wf, IntKind.min, IntKind.max, IntKind.signed, IntKind.bits] at hw
      omega
    rw [hcell i hi]
    have e1 : ((zs.map fun z => UInt8.ofNat z.toNat).getD i 0) = UInt8.ofNat (zs.getD i 0).toNat := by
      simp [List.getD_eq_getElem?_getD, List.getElem?_map, List.getElem?_eq_getElem hi]
    rw [e1]
    have e2 : ((UInt8.ofNat (zs.getD i 0).toNat).toNat : Int) = zs.getD i 0 := by
      rw [UInt8.toNat_ofNat']
      omega
    rw [e2]

end Go.Proofs.YbulkiyoDoor
