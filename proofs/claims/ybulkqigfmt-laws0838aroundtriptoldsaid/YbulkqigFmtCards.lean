/-
  DERIVED. GIVEN WITH THE SEED: THE CARDS: each row of YbulkqigFmtRows.lean that lists a variable, with what it lists TIED to the program's text (the seventh form; the later family's looks); each row that meets fmt, with fmt's text TOLD by the authors' own Lean function (tested against real Go, not proved from fmt's source: count such statements apart). THE CARD IS WHAT COUNTS. Prove the row's statement (the work); the ties are given (YbulkqigFmtTie.lean); close each card by the builder's one call (the guide's Derived/Test/ToyasCard.lean, 'card_holds'). Laid BY PROGRAM, IN A SANDBOX (cutbox-door.mjs). By AI agents, Wed Nov 11 2026. No macro, syntax, notation, axiom, sorry.
-/
import Derived.Test.YbulkqigFmtRows
import GoSem.ClaimSeven
namespace Go.Proofs.YbulkqigFmt
namespace Rows

/-- THE TOLD CARD OF 'octets.LawS0838ARoundTrip'. -/
def lawS0838ARoundTripCard : Claim7 := { stood := { row := lawS0838ARoundTripRow, standIns := [], harness := (true, "333df538e1e5d09283f7bcdedca0d5254f7b4a7d9c6de60b77f1edadc4520e1c"), looks := false }, told := true, goes := false }
def LawS0838ARoundTripToldSaid : Prop := Claim7.holds Ybaf.pinned (.plain (OpenSpec.ofChange lawS0838ARoundTripSpec)) lawS0838ARoundTripCard
/-- ITS FALSE NEIGHBOUR. Refute it at one input. -/
def LawS0838ARoundTripToldWrongFalsely : Prop := Claim7.holds Ybaf.pinned (.plain (OpenSpec.ofChange lawS0838ARoundTripWrong)) lawS0838ARoundTripCard

/-- THE TOLD CARD OF 'octets.LawS0838AAgrees'. -/
def lawS0838AAgreesCard : Claim7 := { stood := { row := lawS0838AAgreesRow, standIns := [], harness := (true, "333df538e1e5d09283f7bcdedca0d5254f7b4a7d9c6de60b77f1edadc4520e1c"), looks := false }, told := true, goes := false }
def LawS0838AAgreesToldSaid : Prop := Claim7.holds Ybaf.pinned (.plain (OpenSpec.ofChange lawS0838AAgreesSpec)) lawS0838AAgreesCard
/-- ITS FALSE NEIGHBOUR. Refute it at one input. -/
def LawS0838AAgreesToldWrongFalsely : Prop := Claim7.holds Ybaf.pinned (.plain (OpenSpec.ofChange lawS0838AAgreesWrong)) lawS0838AAgreesCard

/-- THE TOLD AND TIED CARD OF 'tpdu.LawS0838BTable'. -/
def lawS0838BTableCard : Claim7 := { stood := { row := lawS0838BTableRow, standIns := [], harness := (true, "333df538e1e5d09283f7bcdedca0d5254f7b4a7d9c6de60b77f1edadc4520e1c"), looks := false }, told := true, laidByText := true, laidKinds := [.mapped], laidTests := true, laidLooks := .later, goes := false }
def LawS0838BTableToldSaid : Prop := Claim7.holds Ybaf.pinned (.plain (OpenSpec.ofChange lawS0838BTableSpec)) lawS0838BTableCard
/-- ITS FALSE NEIGHBOUR. Refute it at one input. -/
def LawS0838BTableToldWrongFalsely : Prop := Claim7.holds Ybaf.pinned (.plain (OpenSpec.ofChange lawS0838BTableWrong)) lawS0838BTableCard

/-- THE TOLD AND TIED CARD OF 'tpdu.LawS0838BRawStrings'. -/
def lawS0838BRawStringsCard : Claim7 := { stood := { row := lawS0838BRawStringsRow, standIns := [], harness := (true, "333df538e1e5d09283f7bcdedca0d5254f7b4a7d9c6de60b77f1edadc4520e1c"), looks := false }, told := true, laidByText := true, laidKinds := [.mapped], laidTests := true, laidLooks := .later, goes := false }
def LawS0838BRawStringsToldSaid : Prop := Claim7.holds Ybaf.pinned (.plain (OpenSpec.ofChange lawS0838BRawStringsSpec)) lawS0838BRawStringsCard
/-- ITS FALSE NEIGHBOUR. Refute it at one input. -/
def LawS0838BRawStringsToldWrongFalsely : Prop := Claim7.holds Ybaf.pinned (.plain (OpenSpec.ofChange lawS0838BRawStringsWrong)) lawS0838BRawStringsCard
end Rows
end Go.Proofs.YbulkqigFmt
