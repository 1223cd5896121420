/-
  DERIVED. GIVEN WITH THE SEED: THE CARDS: each row of YbulkdfkFmtRows.lean that lists a variable, with what it lists TIED to the program's text (the seventh form; the later family's looks); each row that meets fmt, with fmt's text TOLD by the authors' own Lean function (tested against real Go, not proved from fmt's source: count such statements apart). THE CARD IS WHAT COUNTS. Prove the row's statement (the work); the ties are given (YbulkdfkFmtTie.lean); close each card by the builder's one call (the guide's Derived/Test/ToyasCard.lean, 'card_holds'). Laid BY PROGRAM, IN A SANDBOX (cutbox-door.mjs). By AI agents, Wed Nov 11 2026. No macro, syntax, notation, axiom, sorry.
-/
import Derived.Test.YbulkdfkFmtRows
import GoSem.ClaimSeven
namespace Go.Proofs.YbulkdfkFmt
namespace Rows

/-- THE TOLD CARD OF 'ber.LawS0205AValue'. -/
def lawS0205AValueCard : Claim7 := { stood := { row := lawS0205AValueRow, standIns := [], harness := (true, "5619a40347519748225fdc8921aca580d30f18d38004166b7a08d00dd9c0f3a5"), looks := false }, told := true, goes := false }
def LawS0205AValueToldSaid : Prop := Claim7.holds Ybaf.pinned (.plain (OpenSpec.ofChange lawS0205AValueSpec)) lawS0205AValueCard
/-- ITS FALSE NEIGHBOUR. Refute it at one input. -/
def LawS0205AValueToldWrongFalsely : Prop := Claim7.holds Ybaf.pinned (.plain (OpenSpec.ofChange lawS0205AValueWrong)) lawS0205AValueCard

/-- THE TOLD CARD OF 'ber.LawS0205ARoundTrip'. -/
def lawS0205ARoundTripCard : Claim7 := { stood := { row := lawS0205ARoundTripRow, standIns := [], harness := (true, "5619a40347519748225fdc8921aca580d30f18d38004166b7a08d00dd9c0f3a5"), looks := false }, told := true, goes := false }
def LawS0205ARoundTripToldSaid : Prop := Claim7.holds Ybaf.pinned (.plain (OpenSpec.ofChange lawS0205ARoundTripSpec)) lawS0205ARoundTripCard
/-- ITS FALSE NEIGHBOUR. Refute it at one input. -/
def LawS0205ARoundTripToldWrongFalsely : Prop := Claim7.holds Ybaf.pinned (.plain (OpenSpec.ofChange lawS0205ARoundTripWrong)) lawS0205ARoundTripCard

/-- THE TOLD CARD OF 'event.LawS0205BSplits'. -/
def lawS0205BSplitsCard : Claim7 := { stood := { row := lawS0205BSplitsRow, standIns := [], harness := (true, "5619a40347519748225fdc8921aca580d30f18d38004166b7a08d00dd9c0f3a5"), looks := false }, told := true, goes := false }
def LawS0205BSplitsToldSaid : Prop := Claim7.holds Ybaf.pinned (.plain (OpenSpec.ofChange lawS0205BSplitsSpec)) lawS0205BSplitsCard
/-- ITS FALSE NEIGHBOUR. Refute it at one input. -/
def LawS0205BSplitsToldWrongFalsely : Prop := Claim7.holds Ybaf.pinned (.plain (OpenSpec.ofChange lawS0205BSplitsWrong)) lawS0205BSplitsCard

/-- THE TOLD CARD OF 'event.LawS0205BShape'. -/
def lawS0205BShapeCard : Claim7 := { stood := { row := lawS0205BShapeRow, standIns := [], harness := (true, "5619a40347519748225fdc8921aca580d30f18d38004166b7a08d00dd9c0f3a5"), looks := false }, told := true, goes := false }
def LawS0205BShapeToldSaid : Prop := Claim7.holds Ybaf.pinned (.plain (OpenSpec.ofChange lawS0205BShapeSpec)) lawS0205BShapeCard
/-- ITS FALSE NEIGHBOUR. Refute it at one input. -/
def LawS0205BShapeToldWrongFalsely : Prop := Claim7.holds Ybaf.pinned (.plain (OpenSpec.ofChange lawS0205BShapeWrong)) lawS0205BShapeCard

/-- THE TOLD AND TIED CARD OF 'decode.LawS0205CFields'. -/
def lawS0205CFieldsCard : Claim7 := { stood := { row := lawS0205CFieldsRow, standIns := [], harness := (true, "5619a40347519748225fdc8921aca580d30f18d38004166b7a08d00dd9c0f3a5"), looks := false }, told := true, laidByText := true, laidKinds := [.called, .called, .zero], laidTests := true, laidLooks := .later, goes := false }
def LawS0205CFieldsToldSaid : Prop := Claim7.holds Ybaf.pinned (.plain (OpenSpec.ofChange lawS0205CFieldsSpec)) lawS0205CFieldsCard
/-- ITS FALSE NEIGHBOUR. Refute it at one input. -/
def LawS0205CFieldsToldWrongFalsely : Prop := Claim7.holds Ybaf.pinned (.plain (OpenSpec.ofChange lawS0205CFieldsWrong)) lawS0205CFieldsCard
end Rows
end Go.Proofs.YbulkdfkFmt
