/-
  DERIVED. GIVEN WITH THE SEED: THE CARDS: each row of YbulkbmlcFmtRows.lean that lists a variable, with what it lists TIED to the program's text (the seventh form; the later family's looks); each row that meets fmt, with fmt's text TOLD by the authors' own Lean function (tested against real Go, not proved from fmt's source: count such statements apart). THE CARD IS WHAT COUNTS. Prove the row's statement (the work); the ties are given (YbulkbmlcFmtTie.lean); close each card by the builder's one call (the guide's Derived/Test/ToyasCard.lean, 'card_holds'). Laid BY PROGRAM, IN A SANDBOX (cutbox-door.mjs). By AI agents, Wed Nov 11 2026. No macro, syntax, notation, axiom, sorry.
-/
import Derived.Test.YbulkbmlcFmtRows
import GoSem.ClaimSeven
namespace Go.Proofs.YbulkbmlcFmt
namespace Rows

/-- THE TOLD AND TIED CARD OF 'engine.LawS3161CHello'. -/
def lawS3161CHelloCard : Claim7 := { stood := { row := lawS3161CHelloRow, standIns := [], harness := (true, "3f087bc84a9220858686886aae2ea7136998021b2cc26689b2d6cfaefa9b822f"), looks := true }, told := true, laidByText := true, laidKinds := [.sentinel, .sentinel, .sentinel, .sentinel, .sentinel, .sentinel], laidTests := true, laidLooks := .later, goes := false }
def LawS3161CHelloToldSaid : Prop := Claim7.holds Ybaf.pinned (.plain (OpenSpec.ofChange lawS3161CHelloSpec)) lawS3161CHelloCard
/-- ITS FALSE NEIGHBOUR. Refute it at one input. -/
def LawS3161CHelloToldWrongFalsely : Prop := Claim7.holds Ybaf.pinned (.plain (OpenSpec.ofChange lawS3161CHelloWrong)) lawS3161CHelloCard
end Rows
end Go.Proofs.YbulkbmlcFmt
