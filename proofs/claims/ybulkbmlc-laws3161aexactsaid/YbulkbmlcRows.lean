/-
  No cell of these rows narrows 'for every input' (looked for: loops, veiled, ifaces, maps, wideKeys, modest, calm, conditions, laid).
  DERIVED. THE GIVEN ROWS OF THIS SEAT. 2 by the template 'for every input the law returns true; each argument reads behind the call as it read before'; 0 by the template 'total and deterministic' (their statements: YbulkbmlcTotals.lean).
  GIVEN WITH THE SEED: the statements are not yours to turn. If you find one false, say at which input.
  Laid BY PROGRAM, IN A SANDBOX (cutbox-rows.mjs): the forced cells as the released guide's own fill.sh prints them over the translation 03c0f10fb3b81af2… (all of the seat's roots in one cut). By AI agents, Wed Nov 11 2026. No macro, syntax, notation, axiom, sorry.
-/
import Derived.Test.YbulkbmlcChecked
import GoSem.Claim
import GoSem.ClaimJoined
import GoSem.ClaimMapViews
import Derived.JoinedTies
import Derived.KernelRfl
namespace Go.Proofs.Ybulkbmlc
/- THE CELL 'sum', in the pinned program and in every row, IS THE sha256 OF THE DUMP (.gsa) THAT YbulkbmlcProg.lean LOADS. Nothing in Lean hashes anything: it is a label: what it is worth is what the hold of that sum in a sandbox is worth. -/
noncomputable def Yba.pinned : Pinned := { name := "ybulkbmlc", sum := "03c0f10fb3b81af2d0f0bd185420cd104fec6e21584430e4dc30bb7a87083a37", checked := Yba.checked }
namespace Rows
def none {H : Type} : Left H := { results := [], args := [] }

/-- 'record.LawS3161AExact': WHATEVER THE INPUT: true; the input reads as it did. -/
def lawS3161AExactSpec : ChangeSpec := { name := "lawS3161AExact", fn := fun _ => fun
  | [d] => { results := [.lit (.bool true)], args := [d] }
  | _ => none }
def lawS3161AExactRow : OpenClaim := { program := "ybulkbmlc", sum := "03c0f10fb3b81af2d0f0bd185420cd104fec6e21584430e4dc30bb7a87083a37", func := "example.com/millrace/millrace/internal/record.LawS3161AExact", spec := "lawS3161AExact", apart := false }
def LawS3161AExactSaid : Prop := lawS3161AExactRow.holds Yba.pinned (OpenSpec.ofChange lawS3161AExactSpec)

/-- ITS FALSE NEIGHBOUR: 'it returns false'. Refute it at one input. -/
def lawS3161AExactWrong : ChangeSpec := { name := "lawS3161AExact", fn := fun _ => fun
  | [d] => { results := [.lit (.bool false)], args := [d] }
  | _ => none }
def LawS3161AExactWrongFalsely : Prop := lawS3161AExactRow.holds Yba.pinned (OpenSpec.ofChange lawS3161AExactWrong)

/-- 'record.LawS3161AAny': WHATEVER THE INPUT: true; the input reads as it did. -/
def lawS3161AAnySpec : ChangeSpec := { name := "lawS3161AAny", fn := fun _ => fun
  | [d] => { results := [.lit (.bool true)], args := [d] }
  | _ => none }
def lawS3161AAnyRow : OpenClaim := { program := "ybulkbmlc", sum := "03c0f10fb3b81af2d0f0bd185420cd104fec6e21584430e4dc30bb7a87083a37", func := "example.com/millrace/millrace/internal/record.LawS3161AAny", spec := "lawS3161AAny", apart := false }
def LawS3161AAnySaid : Prop := lawS3161AAnyRow.holds Yba.pinned (OpenSpec.ofChange lawS3161AAnySpec)

/-- ITS FALSE NEIGHBOUR: 'it returns false'. Refute it at one input. -/
def lawS3161AAnyWrong : ChangeSpec := { name := "lawS3161AAny", fn := fun _ => fun
  | [d] => { results := [.lit (.bool false)], args := [d] }
  | _ => none }
def LawS3161AAnyWrongFalsely : Prop := lawS3161AAnyRow.holds Yba.pinned (OpenSpec.ofChange lawS3161AAnyWrong)

end Rows
end Go.Proofs.Ybulkbmlc
