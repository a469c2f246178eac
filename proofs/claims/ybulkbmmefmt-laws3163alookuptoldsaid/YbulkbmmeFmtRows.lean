/-
  NARROWER THAN 'FOR EVERY INPUT', by the rows' own cells (each row's printed sentence says how): LawS3163ALookup: ifaces, laid.
  DERIVED. THE GIVEN ROWS OF THIS SEAT. 1 by the template 'for every input the law returns true; each argument reads behind the call as it read before'; 0 by the template 'total and deterministic' (their statements: YbulkbmmeFmtTotals.lean).
  GIVEN WITH THE SEED: the statements are not yours to turn. If you find one false, say at which input.
  Laid BY PROGRAM, IN A SANDBOX (cutbox-rows.mjs): the forced cells as the released guide's own fill.sh prints them over the translation 58406eb517dfd370… (all of the seat's roots in one cut). By AI agents, Wed Nov 11 2026. No macro, syntax, notation, axiom, sorry.
-/
import Derived.Test.YbulkbmmeFmtChecked
import GoSem.Claim
import GoSem.ClaimJoined
import GoSem.ClaimMapViews
import Derived.JoinedTies
import Derived.KernelRfl
namespace Go.Proofs.YbulkbmmeFmt
/- THE CELL 'sum', in the pinned program and in every row, IS THE sha256 OF THE DUMP (.gsa) THAT YbulkbmmeFmtProg.lean LOADS. Nothing in Lean hashes anything: it is a label: what it is worth is what the hold of that sum in a sandbox is worth. -/
noncomputable def Ybaf.pinned : Pinned := { name := "ybulkbmmefmt", sum := "58406eb517dfd370d17ddfb248bd13126c6c43d69dfa50ad17b3ef17c0d3ac34", checked := Ybaf.checked }
namespace Rows
def none {H : Type} : Left H := { results := [], args := [] }

/- WHAT THE LISTED PACKAGE-LEVEL VARIABLES READ AS WHEN THE CALL BEGINS. Each datum BY PROGRAM (the guide's laid-datum.mjs) off the statement by which the dump's own 'gosem.cut.vars' lays the variable. In a bare row this is a premise. The card (YbulkbmmeFmtCards.lean) ties it to the program's text. -/
def laid_example_com_branchwright_branchwright_internal_flow_ErrRefused {H : Type} : DataW H := .iface "*errors.errorString" (.ptr (.agg [.lit (.string [114, 101, 102, 117, 115, 101, 100])]))
def laid_example_com_branchwright_branchwright_internal_flow_ErrStopped {H : Type} : DataW H := .iface "*errors.errorString" (.ptr (.agg [.lit (.string [115, 116, 111, 112, 112, 101, 100])]))

/-- 'flow.LawS3163ALookup': WHATEVER THE INPUT: true; the input reads as it did. -/
def lawS3163ALookupSpec : ChangeSpec := { name := "lawS3163ALookup", vars := ["example.com/branchwright/branchwright/internal/flow.ErrRefused", "example.com/branchwright/branchwright/internal/flow.ErrStopped"], fn := fun _ => fun
  | [d1, d2, d3, d4, g1, g2] => { results := [.lit (.bool true)], args := [d1, d2, d3, d4], vars := [g1, g2] }
  | _ => none }
def lawS3163ALookupRow : OpenClaim := { program := "ybulkbmmefmt", sum := "58406eb517dfd370d17ddfb248bd13126c6c43d69dfa50ad17b3ef17c0d3ac34", func := "example.com/branchwright/branchwright/internal/flow.LawS3163ALookup", spec := "lawS3163ALookup", stops := ["fmt.errorf"], inPlace := ["fmt.errorf", "internal/reflectlite.TypeOf"], unfollowed := true, recurses := true, named := ["example.com/branchwright/branchwright/internal/flow.ErrRefused", "example.com/branchwright/branchwright/internal/flow.ErrStopped"], ifaces := true, apart := false, laid := [("example.com/branchwright/branchwright/internal/flow.ErrRefused", laid_example_com_branchwright_branchwright_internal_flow_ErrRefused), ("example.com/branchwright/branchwright/internal/flow.ErrStopped", laid_example_com_branchwright_branchwright_internal_flow_ErrStopped)] }
/-- NO THEOREM (fmt's text is open here; it may be false): for the released tool's asking of the row's closed facts alone. THE STATEMENT IS 'LawS3163ALookupToldSaid' (YbulkbmmeFmtCards.lean). -/
def LawS3163ALookupFormAsk : Prop := lawS3163ALookupRow.holds Ybaf.pinned (OpenSpec.ofChange lawS3163ALookupSpec)

/-- ITS FALSE NEIGHBOUR: 'it returns false'. Refute it at one input. -/
def lawS3163ALookupWrong : ChangeSpec := { name := "lawS3163ALookup", vars := ["example.com/branchwright/branchwright/internal/flow.ErrRefused", "example.com/branchwright/branchwright/internal/flow.ErrStopped"], fn := fun _ => fun
  | [d1, d2, d3, d4, g1, g2] => { results := [.lit (.bool false)], args := [d1, d2, d3, d4], vars := [g1, g2] }
  | _ => none }
def LawS3163ALookupWrongFormAsk : Prop := lawS3163ALookupRow.holds Ybaf.pinned (OpenSpec.ofChange lawS3163ALookupWrong)

end Rows
end Go.Proofs.YbulkbmmeFmt
