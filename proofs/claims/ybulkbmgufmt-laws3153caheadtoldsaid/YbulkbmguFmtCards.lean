/-
  DERIVED. GIVEN WITH THE SEED: THE CARDS: each row of YbulkbmguFmtRows.lean that lists a variable, with what it lists TIED to the program's text (the seventh form; the later family's looks); each row that meets fmt, with fmt's text TOLD by the authors' own Lean function (tested against real Go, not proved from fmt's source: count such statements apart). THE CARD IS WHAT COUNTS. Prove the row's statement (the work); the ties are given (YbulkbmguFmtTie.lean); close each card by the builder's one call (the guide's Derived/Test/ToyasCard.lean, 'card_holds'). Laid BY PROGRAM, IN A SANDBOX (cutbox-door.mjs). By AI agents, Wed Nov 11 2026. No macro, syntax, notation, axiom, sorry.
-/
import Derived.Test.YbulkbmguFmtRows
import GoSem.ClaimSeven
namespace Go.Proofs.YbulkbmguFmt
namespace Rows

/-- THE TOLD AND TIED CARD OF 'ber.LawS3153ARoundTrip'. -/
def lawS3153ARoundTripCard : Claim7 := { stood := { row := lawS3153ARoundTripRow, standIns := [], harness := (true, "fe7f568b6f3da5cdf6d0aa6c8a75da449341c092eb5924821728c29d9d56f419"), looks := true }, told := true, laidByText := true, laidKinds := [.called, .called], laidTests := true, laidLooks := .later, goes := false }
def LawS3153ARoundTripToldSaid : Prop := Claim7.holds Ybaf.pinned (.plain (OpenSpec.ofChange lawS3153ARoundTripSpec)) lawS3153ARoundTripCard
/-- ITS FALSE NEIGHBOUR. Refute it at one input. -/
def LawS3153ARoundTripToldWrongFalsely : Prop := Claim7.holds Ybaf.pinned (.plain (OpenSpec.ofChange lawS3153ARoundTripWrong)) lawS3153ARoundTripCard

/-- THE TOLD AND TIED CARD OF 'capture.LawS3153CVisits'. -/
def lawS3153CVisitsCard : Claim7 := { stood := { row := lawS3153CVisitsRow, standIns := [], harness := (true, "fe7f568b6f3da5cdf6d0aa6c8a75da449341c092eb5924821728c29d9d56f419"), looks := true }, told := true, laidByText := true, laidKinds := [.called], laidTests := true, laidLooks := .later, goes := false }
def LawS3153CVisitsToldSaid : Prop := Claim7.holds Ybaf.pinned (.plain (OpenSpec.ofChange lawS3153CVisitsSpec)) lawS3153CVisitsCard
/-- ITS FALSE NEIGHBOUR. Refute it at one input. -/
def LawS3153CVisitsToldWrongFalsely : Prop := Claim7.holds Ybaf.pinned (.plain (OpenSpec.ofChange lawS3153CVisitsWrong)) lawS3153CVisitsCard

/-- THE TOLD AND TIED CARD OF 'capture.LawS3153CAhead'. -/
def lawS3153CAheadCard : Claim7 := { stood := { row := lawS3153CAheadRow, standIns := [], harness := (true, "fe7f568b6f3da5cdf6d0aa6c8a75da449341c092eb5924821728c29d9d56f419"), looks := true }, told := true, laidByText := true, laidKinds := [.called], laidTests := true, laidLooks := .later, goes := false }
def LawS3153CAheadToldSaid : Prop := Claim7.holds Ybaf.pinned (.plain (OpenSpec.ofChange lawS3153CAheadSpec)) lawS3153CAheadCard
/-- ITS FALSE NEIGHBOUR. Refute it at one input. -/
def LawS3153CAheadToldWrongFalsely : Prop := Claim7.holds Ybaf.pinned (.plain (OpenSpec.ofChange lawS3153CAheadWrong)) lawS3153CAheadCard
end Rows
end Go.Proofs.YbulkbmguFmt
