/-
  DERIVED. GIVEN WITH THE SEED: THE CARDS: each row of YbulkbmmeFmtRows.lean that lists a variable, with what it lists TIED to the program's text (the seventh form; the later family's looks); each row that meets fmt, with fmt's text TOLD by the authors' own Lean function (tested against real Go, not proved from fmt's source: count such statements apart). THE CARD IS WHAT COUNTS. Prove the row's statement (the work); the ties are given (YbulkbmmeFmtTie.lean); close each card by the builder's one call (the guide's Derived/Test/ToyasCard.lean, 'card_holds'). Laid BY PROGRAM, IN A SANDBOX (cutbox-door.mjs). By AI agents, Wed Nov 11 2026. No macro, syntax, notation, axiom, sorry.
-/
import Derived.Test.YbulkbmmeFmtRows
import GoSem.ClaimSeven
namespace Go.Proofs.YbulkbmmeFmt
namespace Rows

/-- THE TOLD AND TIED CARD OF 'flow.LawS3163ALookup'. -/
def lawS3163ALookupCard : Claim7 := { stood := { row := lawS3163ALookupRow, standIns := [], harness := (true, "8c12b8fd20c99bb66b69a2739f44194b2ebc43b606f112ecfdef0d9644ee8158"), looks := true }, told := true, laidByText := true, laidKinds := [.called, .called], laidTests := true, laidLooks := .later, goes := false }
def LawS3163ALookupToldSaid : Prop := Claim7.holds Ybaf.pinned (.plain (OpenSpec.ofChange lawS3163ALookupSpec)) lawS3163ALookupCard
/-- ITS FALSE NEIGHBOUR. Refute it at one input. -/
def LawS3163ALookupToldWrongFalsely : Prop := Claim7.holds Ybaf.pinned (.plain (OpenSpec.ofChange lawS3163ALookupWrong)) lawS3163ALookupCard
end Rows
end Go.Proofs.YbulkbmmeFmt
