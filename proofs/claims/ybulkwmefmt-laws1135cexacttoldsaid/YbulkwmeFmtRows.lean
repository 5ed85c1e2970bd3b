/-
  NARROWER THAN 'FOR EVERY INPUT', by the rows' own cells (each row's printed sentence says how): LawS1135CRoundTrip: laid.
  DERIVED. THE GIVEN ROWS OF THIS SEAT. 2 by the template 'for every input the law returns true; each argument reads behind the call as it read before'; 0 by the template 'total and deterministic' (their statements: YbulkwmeFmtTotals.lean).
  GIVEN WITH THE SEED: the statements are not yours to turn. If you find one false, say at which input.
  Laid BY PROGRAM, IN A SANDBOX (cutbox-rows.mjs): the forced cells as the released guide's own fill.sh prints them over the translation 5f5594a707c2f3b7… (all of the seat's roots in one cut). By AI agents, Wed Nov 11 2026. No macro, syntax, notation, axiom, sorry.
-/
import Derived.Test.YbulkwmeFmtChecked
import GoSem.Claim
import GoSem.ClaimJoined
import GoSem.ClaimMapViews
import Derived.JoinedTies
import Derived.KernelRfl
namespace Go.Proofs.YbulkwmeFmt
/- THE CELL 'sum', in the pinned program and in every row, IS THE sha256 OF THE DUMP (.gsa) THAT YbulkwmeFmtProg.lean LOADS. Nothing in Lean hashes anything: it is a label: what it is worth is what the hold of that sum in a sandbox is worth. -/
noncomputable def Ybaf.pinned : Pinned := { name := "ybulkwmefmt", sum := "5f5594a707c2f3b7b4269ebe716c71955101bbf7de66df2f5206603ec11cf0cb", checked := Ybaf.checked }
namespace Rows
def none {H : Type} : Left H := { results := [], args := [] }

/- WHAT THE LISTED PACKAGE-LEVEL VARIABLES READ AS WHEN THE CALL BEGINS. Each datum BY PROGRAM (the guide's laid-datum.mjs) off the statement by which the dump's own 'gosem.cut.vars' lays the variable. In a bare row this is a premise. The card (YbulkwmeFmtCards.lean) ties it to the program's text. -/
def laid_io_EOF {H : Type} : DataW H := .iface "*errors.errorString" (.ptr (.agg [.lit (.string [69, 79, 70])]))
def laid_io_ErrUnexpectedEOF {H : Type} : DataW H := .iface "*errors.errorString" (.ptr (.agg [.lit (.string [117, 110, 101, 120, 112, 101, 99, 116, 101, 100, 32, 69, 79, 70])]))
def laid_io_ErrNoProgress {H : Type} : DataW H := .iface "*errors.errorString" (.ptr (.agg [.lit (.string [109, 117, 108, 116, 105, 112, 108, 101, 32, 82, 101, 97, 100, 32, 99, 97, 108, 108, 115, 32, 114, 101, 116, 117, 114, 110, 32, 110, 111, 32, 100, 97, 116, 97, 32, 111, 114, 32, 101, 114, 114, 111, 114])]))
def laid_bufio_ErrBufferFull {H : Type} : DataW H := .iface "*errors.errorString" (.ptr (.agg [.lit (.string [98, 117, 102, 105, 111, 58, 32, 98, 117, 102, 102, 101, 114, 32, 102, 117, 108, 108])]))
def laid_bufio_errNegativeRead {H : Type} : DataW H := .iface "*errors.errorString" (.ptr (.agg [.lit (.string [98, 117, 102, 105, 111, 58, 32, 114, 101, 97, 100, 101, 114, 32, 114, 101, 116, 117, 114, 110, 101, 100, 32, 110, 101, 103, 97, 116, 105, 118, 101, 32, 99, 111, 117, 110, 116, 32, 102, 114, 111, 109, 32, 82, 101, 97, 100])]))

/-- 'wire.LawS1135CExact': WHATEVER THE INPUT: true; the input reads as it did. -/
def lawS1135CExactSpec : ChangeSpec := { name := "lawS1135CExact", fn := fun _ => fun
  | [d1, d2] => { results := [.lit (.bool true)], args := [d1, d2] }
  | _ => none }
def lawS1135CExactRow : OpenClaim := { program := "ybulkwmefmt", sum := "5f5594a707c2f3b7b4269ebe716c71955101bbf7de66df2f5206603ec11cf0cb", func := "topdog.example/topdog/internal/wire.LawS1135CExact", spec := "lawS1135CExact", stops := ["fmt.Sprintf", "fmt.errorf"], inPlace := ["fmt.Appendf", "fmt.Sprintf"], apart := false }
/-- NO THEOREM (fmt's text is open here; it may be false): for the released tool's asking of the row's closed facts alone. THE STATEMENT IS 'LawS1135CExactToldSaid' (YbulkwmeFmtCards.lean). -/
def LawS1135CExactFormAsk : Prop := lawS1135CExactRow.holds Ybaf.pinned (OpenSpec.ofChange lawS1135CExactSpec)

/-- ITS FALSE NEIGHBOUR: 'it returns false'. Refute it at one input. -/
def lawS1135CExactWrong : ChangeSpec := { name := "lawS1135CExact", fn := fun _ => fun
  | [d1, d2] => { results := [.lit (.bool false)], args := [d1, d2] }
  | _ => none }
def LawS1135CExactWrongFormAsk : Prop := lawS1135CExactRow.holds Ybaf.pinned (OpenSpec.ofChange lawS1135CExactWrong)

/-- 'wire.LawS1135CRoundTrip': WHATEVER THE INPUT: true; the input reads as it did. -/
def lawS1135CRoundTripSpec : ChangeSpec := { name := "lawS1135CRoundTrip", fn := fun _ => fun
  | [d] => { results := [.lit (.bool true)], args := [d] }
  | _ => none }
def lawS1135CRoundTripRow : OpenClaim := { program := "ybulkwmefmt", sum := "5f5594a707c2f3b7b4269ebe716c71955101bbf7de66df2f5206603ec11cf0cb", func := "topdog.example/topdog/internal/wire.LawS1135CRoundTrip", spec := "lawS1135CRoundTrip", stops := ["fmt.Sprintf", "fmt.errorf"], inPlace := ["fmt.Appendf", "fmt.Sprintf", "internal/bytealg.IndexByte", "internal/reflectlite.TypeOf", "fmt.errorf"], unfollowed := true, recurses := true, named := ["bufio.ErrBufferFull", "io.EOF", "io.ErrUnexpectedEOF", "bufio.errNegativeRead", "io.ErrNoProgress"], apart := false, laid := [("io.EOF", laid_io_EOF), ("io.ErrUnexpectedEOF", laid_io_ErrUnexpectedEOF), ("io.ErrNoProgress", laid_io_ErrNoProgress), ("bufio.ErrBufferFull", laid_bufio_ErrBufferFull), ("bufio.errNegativeRead", laid_bufio_errNegativeRead)] }
/-- NO THEOREM (fmt's text is open here; it may be false): for the released tool's asking of the row's closed facts alone. THE STATEMENT IS 'LawS1135CRoundTripToldSaid' (YbulkwmeFmtCards.lean). -/
def LawS1135CRoundTripFormAsk : Prop := lawS1135CRoundTripRow.holds Ybaf.pinned (OpenSpec.ofChange lawS1135CRoundTripSpec)

/-- ITS FALSE NEIGHBOUR: 'it returns false'. Refute it at one input. -/
def lawS1135CRoundTripWrong : ChangeSpec := { name := "lawS1135CRoundTrip", fn := fun _ => fun
  | [d] => { results := [.lit (.bool false)], args := [d] }
  | _ => none }
def LawS1135CRoundTripWrongFormAsk : Prop := lawS1135CRoundTripRow.holds Ybaf.pinned (OpenSpec.ofChange lawS1135CRoundTripWrong)

end Rows
end Go.Proofs.YbulkwmeFmt
