/-
  No cell of these rows narrows 'for every input' (looked for: loops, veiled, ifaces, maps, wideKeys, modest, calm, conditions, laid).
  DERIVED. THE GIVEN ROWS OF THIS SEAT. 1 by the template 'for every input the law returns true; each argument reads behind the call as it read before'; 0 by the template 'total and deterministic' (their statements: YbulkbmkoTotals.lean).
  GIVEN WITH THE SEED: the statements are not yours to turn. If you find one false, say at which input.
  Laid BY PROGRAM, IN A SANDBOX (cutbox-rows.mjs): the forced cells as the released guide's own fill.sh prints them over the translation 9a585891d0c8db86… (all of the seat's roots in one cut). By AI agents, Wed Nov 11 2026. No macro, syntax, notation, axiom, sorry.
-/
import Derived.Test.YbulkbmkoChecked
import GoSem.Claim
import GoSem.ClaimJoined
import GoSem.ClaimMapViews
import Derived.JoinedTies
import Derived.KernelRfl
namespace Go.Proofs.Ybulkbmko
/- THE CELL 'sum', in the pinned program and in every row, IS THE sha256 OF THE DUMP (.gsa) THAT YbulkbmkoProg.lean LOADS. Nothing in Lean hashes anything: it is a label: what it is worth is what the hold of that sum in a sandbox is worth. -/
noncomputable def Yba.pinned : Pinned := { name := "ybulkbmko", sum := "9a585891d0c8db86fd63ed00c25a6c7ea8a76b66d8c3722d2e76960e892728d0", checked := Yba.checked }
namespace Rows
def none {H : Type} : Left H := { results := [], args := [] }

/-- 'ringmend.LawS3160BModel': WHATEVER THE INPUT: true; the input reads as it did. -/
def lawS3160BModelSpec : ChangeSpec := { name := "lawS3160BModel", fn := fun _ => fun
  | [d1, d2] => { results := [.lit (.bool true)], args := [d1, d2] }
  | _ => none }
def lawS3160BModelRow : OpenClaim := { program := "ybulkbmko", sum := "9a585891d0c8db86fd63ed00c25a6c7ea8a76b66d8c3722d2e76960e892728d0", func := "example.com/ringmend/ringmend.LawS3160BModel", spec := "lawS3160BModel", inPlace := ["internal/bytealg.Compare"], unfollowed := true, recurses := true, plainKeys := false, apart := false }
def LawS3160BModelSaid : Prop := lawS3160BModelRow.holds Yba.pinned (OpenSpec.ofChange lawS3160BModelSpec)

/-- ITS FALSE NEIGHBOUR: 'it returns false'. Refute it at one input. -/
def lawS3160BModelWrong : ChangeSpec := { name := "lawS3160BModel", fn := fun _ => fun
  | [d1, d2] => { results := [.lit (.bool false)], args := [d1, d2] }
  | _ => none }
def LawS3160BModelWrongFalsely : Prop := lawS3160BModelRow.holds Yba.pinned (OpenSpec.ofChange lawS3160BModelWrong)

end Rows
end Go.Proofs.Ybulkbmko
