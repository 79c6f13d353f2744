/-
  DERIVED. GIVEN WITH THE SEED: THE CARDS: each row of YbulkiyoDoorRows.lean that lists a variable, with what it lists TIED to the program's text (the seventh form; the later family's looks); each row that meets fmt, with fmt's text TOLD by the authors' own Lean function (tested against real Go, not proved from fmt's source: count such statements apart). THE CARD IS WHAT COUNTS. Prove the row's statement (the work); the ties are given (YbulkiyoDoorTie.lean); close each card by the builder's one call (the guide's Derived/Test/ToyasCard.lean, 'card_holds'). Laid BY PROGRAM, IN A SANDBOX (cutbox-door.mjs). By AI agents, Wed Nov 11 2026. No macro, syntax, notation, axiom, sorry.
-/
import Derived.Test.YbulkiyoDoorRows
import GoSem.ClaimSeven
namespace Go.Proofs.YbulkiyoDoor
namespace Rows

/-- THE TIED CARD OF 'tracegauge.LawS0482CSpec'. -/
def lawS0482CSpecCard : Claim7 := { stood := { row := lawS0482CSpecRow, standIns := [], harness := (true, "415c4b79b21205b2923b5d73f67b13f9b9fc0e751cc03446116bf6f308b009ee"), looks := true }, kinds := [], alts := [], laidByText := true, laidKinds := [.data, .data, .data, .sentinel, .sentinel], laidTests := true, laidLooks := .later }
def LawS0482CSpecCardSaid : Prop := Claim7.holds Ybad.pinned (.plain (OpenSpec.ofChange lawS0482CSpecSpec)) lawS0482CSpecCard

/-- THE TIED CARD OF 'tracegauge.LawS0482CRound'. -/
def lawS0482CRoundCard : Claim7 := { stood := { row := lawS0482CRoundRow, standIns := [], harness := (true, "415c4b79b21205b2923b5d73f67b13f9b9fc0e751cc03446116bf6f308b009ee"), looks := true }, kinds := [], alts := [], laidByText := true, laidKinds := [.data, .data, .data, .sentinel, .sentinel], laidTests := true, laidLooks := .later }
def LawS0482CRoundCardSaid : Prop := Claim7.holds Ybad.pinned (.plain (OpenSpec.ofChange lawS0482CRoundSpec)) lawS0482CRoundCard
end Rows
end Go.Proofs.YbulkiyoDoor
