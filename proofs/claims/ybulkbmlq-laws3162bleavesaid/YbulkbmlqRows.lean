/-
  No cell of these rows narrows 'for every input' (looked for: loops, veiled, ifaces, maps, wideKeys, modest, calm, conditions, laid).
  DERIVED. THE GIVEN ROWS OF THIS SEAT. 3 by the template 'for every input the law returns true; each argument reads behind the call as it read before'; 0 by the template 'total and deterministic' (their statements: YbulkbmlqTotals.lean).
  GIVEN WITH THE SEED: the statements are not yours to turn. If you find one false, say at which input.
  Laid BY PROGRAM, IN A SANDBOX (cutbox-rows.mjs): the forced cells as the released guide's own fill.sh prints them over the translation ef14fe1383bd88e5… (all of the seat's roots in one cut). By AI agents, Wed Nov 11 2026. No macro, syntax, notation, axiom, sorry.
-/
import Derived.Test.YbulkbmlqChecked
import GoSem.Claim
import GoSem.ClaimJoined
import GoSem.ClaimMapViews
import Derived.JoinedTies
import Derived.KernelRfl
namespace Go.Proofs.Ybulkbmlq
/- THE CELL 'sum', in the pinned program and in every row, IS THE sha256 OF THE DUMP (.gsa) THAT YbulkbmlqProg.lean LOADS. Nothing in Lean hashes anything: it is a label: what it is worth is what the hold of that sum in a sandbox is worth. -/
noncomputable def Yba.pinned : Pinned := { name := "ybulkbmlq", sum := "ef14fe1383bd88e520d62afa3812299df493530499c4b79865e5bcf5e543307e", checked := Yba.checked }
namespace Rows
def none {H : Type} : Left H := { results := [], args := [] }

/-- 'registry.LawS3162BLeave': WHATEVER THE INPUT: true; the input reads as it did. -/
def lawS3162BLeaveSpec : ChangeSpec := { name := "lawS3162BLeave", fn := fun _ => fun
  | [d1, d2, d3, d4, d5] => { results := [.lit (.bool true)], args := [d1, d2, d3, d4, d5] }
  | _ => none }
def lawS3162BLeaveRow : OpenClaim := { program := "ybulkbmlq", sum := "ef14fe1383bd88e520d62afa3812299df493530499c4b79865e5bcf5e543307e", func := "example.com/beatledger/beatledger/registry.LawS3162BLeave", spec := "lawS3162BLeave", plainKeys := false, apart := false }
def LawS3162BLeaveSaid : Prop := lawS3162BLeaveRow.holds Yba.pinned (OpenSpec.ofChange lawS3162BLeaveSpec)

/-- ITS FALSE NEIGHBOUR: 'it returns false'. Refute it at one input. -/
def lawS3162BLeaveWrong : ChangeSpec := { name := "lawS3162BLeave", fn := fun _ => fun
  | [d1, d2, d3, d4, d5] => { results := [.lit (.bool false)], args := [d1, d2, d3, d4, d5] }
  | _ => none }
def LawS3162BLeaveWrongFalsely : Prop := lawS3162BLeaveRow.holds Yba.pinned (OpenSpec.ofChange lawS3162BLeaveWrong)

/-- 'registry.LawS3162CExact': WHATEVER THE INPUT: true; the input reads as it did. -/
def lawS3162CExactSpec : ChangeSpec := { name := "lawS3162CExact", fn := fun _ => fun
  | [d1, d2, d3, d4, d5, d6] => { results := [.lit (.bool true)], args := [d1, d2, d3, d4, d5, d6] }
  | _ => none }
def lawS3162CExactRow : OpenClaim := { program := "ybulkbmlq", sum := "ef14fe1383bd88e520d62afa3812299df493530499c4b79865e5bcf5e543307e", func := "example.com/beatledger/beatledger/registry.LawS3162CExact", spec := "lawS3162CExact", plainKeys := false, apart := false }
def LawS3162CExactSaid : Prop := lawS3162CExactRow.holds Yba.pinned (OpenSpec.ofChange lawS3162CExactSpec)

/-- ITS FALSE NEIGHBOUR: 'it returns false'. Refute it at one input. -/
def lawS3162CExactWrong : ChangeSpec := { name := "lawS3162CExact", fn := fun _ => fun
  | [d1, d2, d3, d4, d5, d6] => { results := [.lit (.bool false)], args := [d1, d2, d3, d4, d5, d6] }
  | _ => none }
def LawS3162CExactWrongFalsely : Prop := lawS3162CExactRow.holds Yba.pinned (OpenSpec.ofChange lawS3162CExactWrong)

/-- 'registry.LawS3162CInRange': WHATEVER THE INPUT: true; the input reads as it did. -/
def lawS3162CInRangeSpec : ChangeSpec := { name := "lawS3162CInRange", fn := fun _ => fun
  | [d1, d2, d3, d4] => { results := [.lit (.bool true)], args := [d1, d2, d3, d4] }
  | _ => none }
def lawS3162CInRangeRow : OpenClaim := { program := "ybulkbmlq", sum := "ef14fe1383bd88e520d62afa3812299df493530499c4b79865e5bcf5e543307e", func := "example.com/beatledger/beatledger/registry.LawS3162CInRange", spec := "lawS3162CInRange", plainKeys := false, apart := false }
def LawS3162CInRangeSaid : Prop := lawS3162CInRangeRow.holds Yba.pinned (OpenSpec.ofChange lawS3162CInRangeSpec)

/-- ITS FALSE NEIGHBOUR: 'it returns false'. Refute it at one input. -/
def lawS3162CInRangeWrong : ChangeSpec := { name := "lawS3162CInRange", fn := fun _ => fun
  | [d1, d2, d3, d4] => { results := [.lit (.bool false)], args := [d1, d2, d3, d4] }
  | _ => none }
def LawS3162CInRangeWrongFalsely : Prop := lawS3162CInRangeRow.holds Yba.pinned (OpenSpec.ofChange lawS3162CInRangeWrong)

end Rows
end Go.Proofs.Ybulkbmlq
