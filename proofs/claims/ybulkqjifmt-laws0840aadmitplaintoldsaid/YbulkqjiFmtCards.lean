/-
  DERIVED. GIVEN WITH THE SEED: THE CARDS: each row of YbulkqjiFmtRows.lean that lists a variable, with what it lists TIED to the program's text (the seventh form; the later family's looks); each row that meets fmt, with fmt's text TOLD by the authors' own Lean function (tested against real Go, not proved from fmt's source: count such statements apart). THE CARD IS WHAT COUNTS. Prove the row's statement (the work); the ties are given (YbulkqjiFmtTie.lean); close each card by the builder's one call (the guide's Derived/Test/ToyasCard.lean, 'card_holds'). Laid BY PROGRAM, IN A SANDBOX (cutbox-door.mjs). By AI agents, Wed Nov 11 2026. No macro, syntax, notation, axiom, sorry.
-/
import Derived.Test.YbulkqjiFmtRows
import GoSem.ClaimSeven
namespace Go.Proofs.YbulkqjiFmt
namespace Rows

/-- THE TOLD AND TIED CARD OF 'kvcache.LawS0840AAdmitPlain'. -/
def lawS0840AAdmitPlainCard : Claim7 := { stood := { row := lawS0840AAdmitPlainRow, standIns := [], harness := (true, "44bf1829b2a8b826590ea4c471a064ba1726cc8ca3a7c469d4cd436d0074216e"), looks := false }, told := true, laidByText := true, laidKinds := [.called], laidTests := true, laidLooks := .later, goes := false }
def LawS0840AAdmitPlainToldSaid : Prop := Claim7.holds Ybaf.pinned (.plain (OpenSpec.ofChange lawS0840AAdmitPlainSpec)) lawS0840AAdmitPlainCard
/-- ITS FALSE NEIGHBOUR. Refute it at one input. -/
def LawS0840AAdmitPlainToldWrongFalsely : Prop := Claim7.holds Ybaf.pinned (.plain (OpenSpec.ofChange lawS0840AAdmitPlainWrong)) lawS0840AAdmitPlainCard

/-- THE TOLD AND TIED CARD OF 'kvcache.LawS0840AAdmitCaching'. -/
def lawS0840AAdmitCachingCard : Claim7 := { stood := { row := lawS0840AAdmitCachingRow, standIns := [], harness := (true, "44bf1829b2a8b826590ea4c471a064ba1726cc8ca3a7c469d4cd436d0074216e"), looks := false }, told := true, laidByText := true, laidKinds := [.called], laidTests := true, laidLooks := .later, goes := false }
def LawS0840AAdmitCachingToldSaid : Prop := Claim7.holds Ybaf.pinned (.plain (OpenSpec.ofChange lawS0840AAdmitCachingSpec)) lawS0840AAdmitCachingCard
/-- ITS FALSE NEIGHBOUR. Refute it at one input. -/
def LawS0840AAdmitCachingToldWrongFalsely : Prop := Claim7.holds Ybaf.pinned (.plain (OpenSpec.ofChange lawS0840AAdmitCachingWrong)) lawS0840AAdmitCachingCard
end Rows
end Go.Proofs.YbulkqjiFmt
