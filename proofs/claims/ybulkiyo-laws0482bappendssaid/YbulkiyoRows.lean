/-
  No cell of these rows narrows 'for every input' (looked for: loops, veiled, ifaces, maps, wideKeys, modest, calm, conditions, laid).
  DERIVED. THE GIVEN ROWS OF THIS SEAT. 3 by the template 'for every input the law returns true; each argument reads behind the call as it read before'; 0 by the template 'total and deterministic' (their statements: YbulkiyoTotals.lean).
  GIVEN WITH THE SEED: the statements are not yours to turn. If you find one false, say at which input.
  Laid BY PROGRAM, IN A SANDBOX (cutbox-rows.mjs): the forced cells as the released guide's own fill.sh prints them over the translation 5e4373e1a4377a26… (all of the seat's roots in one cut). By AI agents, Wed Nov 11 2026. No macro, syntax, notation, axiom, sorry.
-/
import Derived.Test.YbulkiyoChecked
import GoSem.Claim
import GoSem.ClaimJoined
import GoSem.ClaimMapViews
import Derived.JoinedTies
import Derived.KernelRfl
namespace Go.Proofs.Ybulkiyo
/- THE CELL 'sum', in the pinned program and in every row, IS THE sha256 OF THE DUMP (.gsa) THAT YbulkiyoProg.lean LOADS. Nothing in Lean hashes anything: it is a label: what it is worth is what the hold of that sum in a sandbox is worth. -/
noncomputable def Yba.pinned : Pinned := { name := "ybulkiyo", sum := "5e4373e1a4377a26b01ce3195e7b1836e7610653c74962bb5b211ee2bf931b05", checked := Yba.checked }
namespace Rows
def none {H : Type} : Left H := { results := [], args := [] }

/-- 'tracegauge.LawS0482AFlat': WHATEVER THE INPUT: true; the input reads as it did. -/
def lawS0482AFlatSpec : ChangeSpec := { name := "lawS0482AFlat", fn := fun _ => fun
  | [d1, d2, d3, d4] => { results := [.lit (.bool true)], args := [d1, d2, d3, d4] }
  | _ => none }
def lawS0482AFlatRow : OpenClaim := { program := "ybulkiyo", sum := "5e4373e1a4377a26b01ce3195e7b1836e7610653c74962bb5b211ee2bf931b05", func := "example.com/tracegauge/tracegauge.LawS0482AFlat", spec := "lawS0482AFlat", unfollowed := true, recurses := true, apart := false }
def LawS0482AFlatSaid : Prop := lawS0482AFlatRow.holds Yba.pinned (OpenSpec.ofChange lawS0482AFlatSpec)

/-- ITS FALSE NEIGHBOUR: 'it returns false'. Refute it at one input. -/
def lawS0482AFlatWrong : ChangeSpec := { name := "lawS0482AFlat", fn := fun _ => fun
  | [d1, d2, d3, d4] => { results := [.lit (.bool false)], args := [d1, d2, d3, d4] }
  | _ => none }
def LawS0482AFlatWrongFalsely : Prop := lawS0482AFlatRow.holds Yba.pinned (OpenSpec.ofChange lawS0482AFlatWrong)

/-- 'tracegauge.LawS0482ATuple': WHATEVER THE INPUT: true; the input reads as it did. -/
def lawS0482ATupleSpec : ChangeSpec := { name := "lawS0482ATuple", fn := fun _ => fun
  | [d1, d2, d3, d4] => { results := [.lit (.bool true)], args := [d1, d2, d3, d4] }
  | _ => none }
def lawS0482ATupleRow : OpenClaim := { program := "ybulkiyo", sum := "5e4373e1a4377a26b01ce3195e7b1836e7610653c74962bb5b211ee2bf931b05", func := "example.com/tracegauge/tracegauge.LawS0482ATuple", spec := "lawS0482ATuple", unfollowed := true, recurses := true, apart := false }
def LawS0482ATupleSaid : Prop := lawS0482ATupleRow.holds Yba.pinned (OpenSpec.ofChange lawS0482ATupleSpec)

/-- ITS FALSE NEIGHBOUR: 'it returns false'. Refute it at one input. -/
def lawS0482ATupleWrong : ChangeSpec := { name := "lawS0482ATuple", fn := fun _ => fun
  | [d1, d2, d3, d4] => { results := [.lit (.bool false)], args := [d1, d2, d3, d4] }
  | _ => none }
def LawS0482ATupleWrongFalsely : Prop := lawS0482ATupleRow.holds Yba.pinned (OpenSpec.ofChange lawS0482ATupleWrong)

/-- 'tracegauge.LawS0482BAppends': WHATEVER THE INPUT: true; the input reads as it did. -/
def lawS0482BAppendsSpec : ChangeSpec := { name := "lawS0482BAppends", fn := fun _ => fun
  | [d1, d2, d3, d4, d5, d6, d7] => { results := [.lit (.bool true)], args := [d1, d2, d3, d4, d5, d6, d7] }
  | _ => none }
def lawS0482BAppendsRow : OpenClaim := { program := "ybulkiyo", sum := "5e4373e1a4377a26b01ce3195e7b1836e7610653c74962bb5b211ee2bf931b05", func := "example.com/tracegauge/tracegauge.LawS0482BAppends", spec := "lawS0482BAppends", apart := false }
def LawS0482BAppendsSaid : Prop := lawS0482BAppendsRow.holds Yba.pinned (OpenSpec.ofChange lawS0482BAppendsSpec)

/-- ITS FALSE NEIGHBOUR: 'it returns false'. Refute it at one input. -/
def lawS0482BAppendsWrong : ChangeSpec := { name := "lawS0482BAppends", fn := fun _ => fun
  | [d1, d2, d3, d4, d5, d6, d7] => { results := [.lit (.bool false)], args := [d1, d2, d3, d4, d5, d6, d7] }
  | _ => none }
def LawS0482BAppendsWrongFalsely : Prop := lawS0482BAppendsRow.holds Yba.pinned (OpenSpec.ofChange lawS0482BAppendsWrong)

end Rows
end Go.Proofs.Ybulkiyo
