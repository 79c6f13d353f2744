/-
  No cell of these rows narrows 'for every input' (looked for: loops, veiled, ifaces, maps, wideKeys, modest, calm, conditions, laid).
  DERIVED. THE GIVEN ROWS OF THIS SEAT. 2 by the template 'for every input the law returns true; each argument reads behind the call as it read before'; 0 by the template 'total and deterministic' (their statements: YbulkivwFmtTotals.lean).
  GIVEN WITH THE SEED: the statements are not yours to turn. If you find one false, say at which input.
  Laid BY PROGRAM, IN A SANDBOX (cutbox-rows.mjs): the forced cells as the released guide's own fill.sh prints them over the translation 056a98b106d17557… (all of the seat's roots in one cut). By AI agents, Wed Nov 11 2026. No macro, syntax, notation, axiom, sorry.
-/
import Derived.Test.YbulkivwFmtChecked
import GoSem.Claim
import GoSem.ClaimJoined
import GoSem.ClaimMapViews
import Derived.JoinedTies
import Derived.KernelRfl
namespace Go.Proofs.YbulkivwFmt
/- THE CELL 'sum', in the pinned program and in every row, IS THE sha256 OF THE DUMP (.gsa) THAT YbulkivwFmtProg.lean LOADS. Nothing in Lean hashes anything: it is a label: what it is worth is what the hold of that sum in a sandbox is worth. -/
noncomputable def Ybaf.pinned : Pinned := { name := "ybulkivwfmt", sum := "056a98b106d175570d21eb281f16f8539b10d7df4caa5394b823031e95ea8388", checked := Ybaf.checked }
namespace Rows
def none {H : Type} : Left H := { results := [], args := [] }

/-- 'wire.LawS0477CRange': WHATEVER THE INPUT: true; the input reads as it did. -/
def lawS0477CRangeSpec : ChangeSpec := { name := "lawS0477CRange", fn := fun _ => fun
  | [d] => { results := [.lit (.bool true)], args := [d] }
  | _ => none }
def lawS0477CRangeRow : OpenClaim := { program := "ybulkivwfmt", sum := "056a98b106d175570d21eb281f16f8539b10d7df4caa5394b823031e95ea8388", func := "example.com/onceward/onceward/wire.LawS0477CRange", spec := "lawS0477CRange", stops := ["fmt.errorf, its operands' methods called"], inPlace := ["fmt.errorf"], unfollowed := true, recurses := true, apart := false }
/-- NO THEOREM (fmt's text is open here; it may be false): for the released tool's asking of the row's closed facts alone. THE STATEMENT IS 'LawS0477CRangeToldSaid' (YbulkivwFmtCards.lean). -/
def LawS0477CRangeFormAsk : Prop := lawS0477CRangeRow.holds Ybaf.pinned (OpenSpec.ofChange lawS0477CRangeSpec)

/-- ITS FALSE NEIGHBOUR: 'it returns false'. Refute it at one input. -/
def lawS0477CRangeWrong : ChangeSpec := { name := "lawS0477CRange", fn := fun _ => fun
  | [d] => { results := [.lit (.bool false)], args := [d] }
  | _ => none }
def LawS0477CRangeWrongFormAsk : Prop := lawS0477CRangeRow.holds Ybaf.pinned (OpenSpec.ofChange lawS0477CRangeWrong)

/-- 'wire.LawS0477CScaled': WHATEVER THE INPUT: true; the input reads as it did. -/
def lawS0477CScaledSpec : ChangeSpec := { name := "lawS0477CScaled", fn := fun _ => fun
  | [d1, d2] => { results := [.lit (.bool true)], args := [d1, d2] }
  | _ => none }
def lawS0477CScaledRow : OpenClaim := { program := "ybulkivwfmt", sum := "056a98b106d175570d21eb281f16f8539b10d7df4caa5394b823031e95ea8388", func := "example.com/onceward/onceward/wire.LawS0477CScaled", spec := "lawS0477CScaled", stops := ["fmt.errorf, its operands' methods called"], inPlace := ["fmt.errorf"], unfollowed := true, recurses := true, apart := false }
/-- NO THEOREM (fmt's text is open here; it may be false): for the released tool's asking of the row's closed facts alone. THE STATEMENT IS 'LawS0477CScaledToldSaid' (YbulkivwFmtCards.lean). -/
def LawS0477CScaledFormAsk : Prop := lawS0477CScaledRow.holds Ybaf.pinned (OpenSpec.ofChange lawS0477CScaledSpec)

/-- ITS FALSE NEIGHBOUR: 'it returns false'. Refute it at one input. -/
def lawS0477CScaledWrong : ChangeSpec := { name := "lawS0477CScaled", fn := fun _ => fun
  | [d1, d2] => { results := [.lit (.bool false)], args := [d1, d2] }
  | _ => none }
def LawS0477CScaledWrongFormAsk : Prop := lawS0477CScaledRow.holds Ybaf.pinned (OpenSpec.ofChange lawS0477CScaledWrong)

end Rows
end Go.Proofs.YbulkivwFmt
