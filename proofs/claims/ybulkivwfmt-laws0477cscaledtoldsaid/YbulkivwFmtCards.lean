/-
  DERIVED. GIVEN WITH THE SEED: THE CARDS: each row of YbulkivwFmtRows.lean that lists a variable, with what it lists TIED to the program's text (the seventh form; the later family's looks); each row that meets fmt, with fmt's text TOLD by the authors' own Lean function (tested against real Go, not proved from fmt's source: count such statements apart). THE CARD IS WHAT COUNTS. Prove the row's statement (the work); the ties are given (YbulkivwFmtTie.lean); close each card by the builder's one call (the guide's Derived/Test/ToyasCard.lean, 'card_holds'). Laid BY PROGRAM, IN A SANDBOX (cutbox-door.mjs). By AI agents, Wed Nov 11 2026. No macro, syntax, notation, axiom, sorry.
-/
import Derived.Test.YbulkivwFmtRows
import GoSem.ClaimSeven
namespace Go.Proofs.YbulkivwFmt
namespace Rows

/-- THE TOLD CARD OF 'wire.LawS0477CRange'. -/
def lawS0477CRangeCard : Claim7 := { stood := { row := lawS0477CRangeRow, standIns := [], harness := (true, "676f7a2581f1aab6a5eebac60b2dc767f72e3f7e40a421e9932c53e0b0cbbf52"), looks := false }, told := true, goes := false }
def LawS0477CRangeToldSaid : Prop := Claim7.holds Ybaf.pinned (.plain (OpenSpec.ofChange lawS0477CRangeSpec)) lawS0477CRangeCard
/-- ITS FALSE NEIGHBOUR. Refute it at one input. -/
def LawS0477CRangeToldWrongFalsely : Prop := Claim7.holds Ybaf.pinned (.plain (OpenSpec.ofChange lawS0477CRangeWrong)) lawS0477CRangeCard

/-- THE TOLD CARD OF 'wire.LawS0477CScaled'. -/
def lawS0477CScaledCard : Claim7 := { stood := { row := lawS0477CScaledRow, standIns := [], harness := (true, "676f7a2581f1aab6a5eebac60b2dc767f72e3f7e40a421e9932c53e0b0cbbf52"), looks := false }, told := true, goes := false }
def LawS0477CScaledToldSaid : Prop := Claim7.holds Ybaf.pinned (.plain (OpenSpec.ofChange lawS0477CScaledSpec)) lawS0477CScaledCard
/-- ITS FALSE NEIGHBOUR. Refute it at one input. -/
def LawS0477CScaledToldWrongFalsely : Prop := Claim7.holds Ybaf.pinned (.plain (OpenSpec.ofChange lawS0477CScaledWrong)) lawS0477CScaledCard
end Rows
end Go.Proofs.YbulkivwFmt
