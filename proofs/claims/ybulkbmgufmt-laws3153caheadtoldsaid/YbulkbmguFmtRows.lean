/-
  NARROWER THAN 'FOR EVERY INPUT', by the rows' own cells (each row's printed sentence says how): LawS3153ARoundTrip: ifaces, laid · LawS3153CVisits: laid · LawS3153CAhead: laid.
  DERIVED. THE GIVEN ROWS OF THIS SEAT. 3 by the template 'for every input the law returns true; each argument reads behind the call as it read before'; 0 by the template 'total and deterministic' (their statements: YbulkbmguFmtTotals.lean).
  GIVEN WITH THE SEED: the statements are not yours to turn. If you find one false, say at which input.
  Laid BY PROGRAM, IN A SANDBOX (cutbox-rows.mjs): the forced cells as the released guide's own fill.sh prints them over the translation 61074714a2d7c967… (all of the seat's roots in one cut). By AI agents, Wed Nov 11 2026. No macro, syntax, notation, axiom, sorry.
-/
import Derived.Test.YbulkbmguFmtChecked
import GoSem.Claim
import GoSem.ClaimJoined
import GoSem.ClaimMapViews
import Derived.JoinedTies
import Derived.KernelRfl
namespace Go.Proofs.YbulkbmguFmt
/- THE CELL 'sum', in the pinned program and in every row, IS THE sha256 OF THE DUMP (.gsa) THAT YbulkbmguFmtProg.lean LOADS. Nothing in Lean hashes anything: it is a label: what it is worth is what the hold of that sum in a sandbox is worth. -/
noncomputable def Ybaf.pinned : Pinned := { name := "ybulkbmgufmt", sum := "61074714a2d7c9675cc8522488d96a1425c2855c2ba2690304c806bf4864dcb1", checked := Ybaf.checked }
namespace Rows
def none {H : Type} : Left H := { results := [], args := [] }

/- WHAT THE LISTED PACKAGE-LEVEL VARIABLES READ AS WHEN THE CALL BEGINS. Each datum BY PROGRAM (the guide's laid-datum.mjs) off the statement by which the dump's own 'gosem.cut.vars' lays the variable. In a bare row this is a premise. The card (YbulkbmguFmtCards.lean) ties it to the program's text. -/
def laid_example_com_ringward_ringward_ber_ErrTruncated {H : Type} : DataW H := .iface "*errors.errorString" (.ptr (.agg [.lit (.string [99, 117, 116, 32, 115, 104, 111, 114, 116])]))
def laid_example_com_ringward_ringward_ber_ErrInvalid {H : Type} : DataW H := .iface "*errors.errorString" (.ptr (.agg [.lit (.string [105, 110, 118, 97, 108, 105, 100, 32, 101, 110, 99, 111, 100, 105, 110, 103])]))
def laid_io_EOF {H : Type} : DataW H := .iface "*errors.errorString" (.ptr (.agg [.lit (.string [69, 79, 70])]))

/-- 'ber.LawS3153ARoundTrip': WHATEVER THE INPUT: true; the input reads as it did. -/
def lawS3153ARoundTripSpec : ChangeSpec := { name := "lawS3153ARoundTrip", vars := ["example.com/ringward/ringward/ber.ErrInvalid", "example.com/ringward/ringward/ber.ErrTruncated", "example.com/ringward/ringward/ber.errTooDeep"], fn := fun _ => fun
  | [d1, d2, d3, g1, g2, g3] => { results := [.lit (.bool true)], args := [d1, d2, d3], vars := [g1, g2, g3] }
  | _ => none }
def lawS3153ARoundTripRow : OpenClaim := { program := "ybulkbmgufmt", sum := "61074714a2d7c9675cc8522488d96a1425c2855c2ba2690304c806bf4864dcb1", func := "example.com/ringward/ringward/ber.LawS3153ARoundTrip", spec := "lawS3153ARoundTrip", stops := ["fmt.errorf, its operands' methods called", "fmt.Sprintf"], inPlace := ["fmt.errorf"], unfollowed := true, recurses := true, named := ["example.com/ringward/ringward/ber.ErrInvalid", "example.com/ringward/ringward/ber.ErrTruncated", "example.com/ringward/ringward/ber.errTooDeep"], ifaces := true, apart := false, laid := [("example.com/ringward/ringward/ber.ErrTruncated", laid_example_com_ringward_ringward_ber_ErrTruncated), ("example.com/ringward/ringward/ber.ErrInvalid", laid_example_com_ringward_ringward_ber_ErrInvalid)] }
/-- NO THEOREM (fmt's text is open here; it may be false): for the released tool's asking of the row's closed facts alone. THE STATEMENT IS 'LawS3153ARoundTripToldSaid' (YbulkbmguFmtCards.lean). -/
def LawS3153ARoundTripFormAsk : Prop := lawS3153ARoundTripRow.holds Ybaf.pinned (OpenSpec.ofChange lawS3153ARoundTripSpec)

/-- ITS FALSE NEIGHBOUR: 'it returns false'. Refute it at one input. -/
def lawS3153ARoundTripWrong : ChangeSpec := { name := "lawS3153ARoundTrip", vars := ["example.com/ringward/ringward/ber.ErrInvalid", "example.com/ringward/ringward/ber.ErrTruncated", "example.com/ringward/ringward/ber.errTooDeep"], fn := fun _ => fun
  | [d1, d2, d3, g1, g2, g3] => { results := [.lit (.bool false)], args := [d1, d2, d3], vars := [g1, g2, g3] }
  | _ => none }
def LawS3153ARoundTripWrongFormAsk : Prop := lawS3153ARoundTripRow.holds Ybaf.pinned (OpenSpec.ofChange lawS3153ARoundTripWrong)

/-- 'capture.LawS3153CVisits': WHATEVER THE INPUT: true; the input reads as it did. -/
def lawS3153CVisitsSpec : ChangeSpec := { name := "lawS3153CVisits", fn := fun _ => fun
  | [d1, d2, d3] => { results := [.lit (.bool true)], args := [d1, d2, d3] }
  | _ => none }
def lawS3153CVisitsRow : OpenClaim := { program := "ybulkbmgufmt", sum := "61074714a2d7c9675cc8522488d96a1425c2855c2ba2690304c806bf4864dcb1", func := "example.com/ringward/ringward/capture.LawS3153CVisits", spec := "lawS3153CVisits", stops := ["fmt.errorf, its operands' methods called", "fmt.Sprintf"], inPlace := ["internal/reflectlite.TypeOf", "fmt.errorf"], unfollowed := true, recurses := true, named := ["io.EOF"], apart := false, laid := [("io.EOF", laid_io_EOF)] }
/-- NO THEOREM (fmt's text is open here; it may be false): for the released tool's asking of the row's closed facts alone. THE STATEMENT IS 'LawS3153CVisitsToldSaid' (YbulkbmguFmtCards.lean). -/
def LawS3153CVisitsFormAsk : Prop := lawS3153CVisitsRow.holds Ybaf.pinned (OpenSpec.ofChange lawS3153CVisitsSpec)

/-- ITS FALSE NEIGHBOUR: 'it returns false'. Refute it at one input. -/
def lawS3153CVisitsWrong : ChangeSpec := { name := "lawS3153CVisits", fn := fun _ => fun
  | [d1, d2, d3] => { results := [.lit (.bool false)], args := [d1, d2, d3] }
  | _ => none }
def LawS3153CVisitsWrongFormAsk : Prop := lawS3153CVisitsRow.holds Ybaf.pinned (OpenSpec.ofChange lawS3153CVisitsWrong)

/-- 'capture.LawS3153CAhead': WHATEVER THE INPUT: true; the input reads as it did. -/
def lawS3153CAheadSpec : ChangeSpec := { name := "lawS3153CAhead", fn := fun _ => fun
  | [d1, d2] => { results := [.lit (.bool true)], args := [d1, d2] }
  | _ => none }
def lawS3153CAheadRow : OpenClaim := { program := "ybulkbmgufmt", sum := "61074714a2d7c9675cc8522488d96a1425c2855c2ba2690304c806bf4864dcb1", func := "example.com/ringward/ringward/capture.LawS3153CAhead", spec := "lawS3153CAhead", stops := ["fmt.errorf, its operands' methods called", "fmt.Sprintf"], inPlace := ["internal/reflectlite.TypeOf", "fmt.errorf"], unfollowed := true, recurses := true, named := ["io.EOF"], apart := false, laid := [("io.EOF", laid_io_EOF)] }
/-- NO THEOREM (fmt's text is open here; it may be false): for the released tool's asking of the row's closed facts alone. THE STATEMENT IS 'LawS3153CAheadToldSaid' (YbulkbmguFmtCards.lean). -/
def LawS3153CAheadFormAsk : Prop := lawS3153CAheadRow.holds Ybaf.pinned (OpenSpec.ofChange lawS3153CAheadSpec)

/-- ITS FALSE NEIGHBOUR: 'it returns false'. Refute it at one input. -/
def lawS3153CAheadWrong : ChangeSpec := { name := "lawS3153CAhead", fn := fun _ => fun
  | [d1, d2] => { results := [.lit (.bool false)], args := [d1, d2] }
  | _ => none }
def LawS3153CAheadWrongFormAsk : Prop := lawS3153CAheadRow.holds Ybaf.pinned (OpenSpec.ofChange lawS3153CAheadWrong)

end Rows
end Go.Proofs.YbulkbmguFmt
