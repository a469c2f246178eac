/-
  NARROWER THAN 'FOR EVERY INPUT', by the rows' own cells (each row's printed sentence says how): LawS3161CHello: laid.
  DERIVED. THE GIVEN ROWS OF THIS SEAT. 1 by the template 'for every input the law returns true; each argument reads behind the call as it read before'; 0 by the template 'total and deterministic' (their statements: YbulkbmlcFmtTotals.lean).
  GIVEN WITH THE SEED: the statements are not yours to turn. If you find one false, say at which input.
  Laid BY PROGRAM, IN A SANDBOX (cutbox-rows.mjs): the forced cells as the released guide's own fill.sh prints them over the translation 7d8a2cbfd63ac3ef… (all of the seat's roots in one cut). By AI agents, Wed Nov 11 2026. No macro, syntax, notation, axiom, sorry.
-/
import Derived.Test.YbulkbmlcFmtChecked
import GoSem.Claim
import GoSem.ClaimJoined
import GoSem.ClaimMapViews
import Derived.JoinedTies
import Derived.KernelRfl
namespace Go.Proofs.YbulkbmlcFmt
/- THE CELL 'sum', in the pinned program and in every row, IS THE sha256 OF THE DUMP (.gsa) THAT YbulkbmlcFmtProg.lean LOADS. Nothing in Lean hashes anything: it is a label: what it is worth is what the hold of that sum in a sandbox is worth. -/
noncomputable def Ybaf.pinned : Pinned := { name := "ybulkbmlcfmt", sum := "7d8a2cbfd63ac3ef9de74ee79f04bc9548f61e855f738445492c0be06e4b6372", checked := Ybaf.checked }
namespace Rows
def none {H : Type} : Left H := { results := [], args := [] }

/- WHAT THE LISTED PACKAGE-LEVEL VARIABLES READ AS WHEN THE CALL BEGINS. Each datum BY PROGRAM (the guide's laid-datum.mjs) off the statement by which the dump's own 'gosem.cut.vars' lays the variable. In a bare row this is a premise. The card (YbulkbmlcFmtCards.lean) ties it to the program's text. -/
def laid_io_ErrShortBuffer {H : Type} : DataW H := .iface "*errors.errorString" (.ptr (.agg [.lit (.string [115, 104, 111, 114, 116, 32, 98, 117, 102, 102, 101, 114])]))
def laid_io_EOF {H : Type} : DataW H := .iface "*errors.errorString" (.ptr (.agg [.lit (.string [69, 79, 70])]))
def laid_io_ErrUnexpectedEOF {H : Type} : DataW H := .iface "*errors.errorString" (.ptr (.agg [.lit (.string [117, 110, 101, 120, 112, 101, 99, 116, 101, 100, 32, 69, 79, 70])]))
def laid_io_ErrNoProgress {H : Type} : DataW H := .iface "*errors.errorString" (.ptr (.agg [.lit (.string [109, 117, 108, 116, 105, 112, 108, 101, 32, 82, 101, 97, 100, 32, 99, 97, 108, 108, 115, 32, 114, 101, 116, 117, 114, 110, 32, 110, 111, 32, 100, 97, 116, 97, 32, 111, 114, 32, 101, 114, 114, 111, 114])]))
def laid_encoding_binary_errOverflow {H : Type} : DataW H := .iface "*errors.errorString" (.ptr (.agg [.lit (.string [98, 105, 110, 97, 114, 121, 58, 32, 118, 97, 114, 105, 110, 116, 32, 111, 118, 101, 114, 102, 108, 111, 119, 115, 32, 97, 32, 54, 52, 45, 98, 105, 116, 32, 105, 110, 116, 101, 103, 101, 114])]))
def laid_bufio_errNegativeRead {H : Type} : DataW H := .iface "*errors.errorString" (.ptr (.agg [.lit (.string [98, 117, 102, 105, 111, 58, 32, 114, 101, 97, 100, 101, 114, 32, 114, 101, 116, 117, 114, 110, 101, 100, 32, 110, 101, 103, 97, 116, 105, 118, 101, 32, 99, 111, 117, 110, 116, 32, 102, 114, 111, 109, 32, 82, 101, 97, 100])]))

/-- 'engine.LawS3161CHello': WHATEVER THE INPUT: true; the input reads as it did. -/
def lawS3161CHelloSpec : ChangeSpec := { name := "lawS3161CHello", fn := fun _ => fun
  | [d] => { results := [.lit (.bool true)], args := [d] }
  | _ => none }
def lawS3161CHelloRow : OpenClaim := { program := "ybulkbmlcfmt", sum := "7d8a2cbfd63ac3ef9de74ee79f04bc9548f61e855f738445492c0be06e4b6372", func := "example.com/millrace/millrace/internal/engine.LawS3161CHello", spec := "lawS3161CHello", stops := ["fmt.errorf"], inPlace := ["fmt.errorf"], unfollowed := true, recurses := true, named := ["io.ErrShortBuffer", "io.EOF", "io.ErrUnexpectedEOF", "encoding/binary.errOverflow", "bufio.errNegativeRead", "io.ErrNoProgress"], apart := false, laid := [("io.ErrShortBuffer", laid_io_ErrShortBuffer), ("io.EOF", laid_io_EOF), ("io.ErrUnexpectedEOF", laid_io_ErrUnexpectedEOF), ("io.ErrNoProgress", laid_io_ErrNoProgress), ("encoding/binary.errOverflow", laid_encoding_binary_errOverflow), ("bufio.errNegativeRead", laid_bufio_errNegativeRead)] }
/-- NO THEOREM (fmt's text is open here; it may be false): for the released tool's asking of the row's closed facts alone. THE STATEMENT IS 'LawS3161CHelloToldSaid' (YbulkbmlcFmtCards.lean). -/
def LawS3161CHelloFormAsk : Prop := lawS3161CHelloRow.holds Ybaf.pinned (OpenSpec.ofChange lawS3161CHelloSpec)

/-- ITS FALSE NEIGHBOUR: 'it returns false'. Refute it at one input. -/
def lawS3161CHelloWrong : ChangeSpec := { name := "lawS3161CHello", fn := fun _ => fun
  | [d] => { results := [.lit (.bool false)], args := [d] }
  | _ => none }
def LawS3161CHelloWrongFormAsk : Prop := lawS3161CHelloRow.holds Ybaf.pinned (OpenSpec.ofChange lawS3161CHelloWrong)

end Rows
end Go.Proofs.YbulkbmlcFmt
