/-
  NARROWER THAN 'FOR EVERY INPUT', by the rows' own cells (each row's printed sentence says how): LawS0838BTable: maps, laid · LawS0838BRawStrings: maps, laid.
  DERIVED. THE GIVEN ROWS OF THIS SEAT. 4 by the template 'for every input the law returns true; each argument reads behind the call as it read before'; 0 by the template 'total and deterministic' (their statements: YbulkqigFmtTotals.lean).
  GIVEN WITH THE SEED: the statements are not yours to turn. If you find one false, say at which input.
  Laid BY PROGRAM, IN A SANDBOX (cutbox-rows.mjs): the forced cells as the released guide's own fill.sh prints them over the translation 718d102aa1d6c010… (all of the seat's roots in one cut). By AI agents, Wed Nov 11 2026. No macro, syntax, notation, axiom, sorry.
-/
import Derived.Test.YbulkqigFmtChecked
import GoSem.Claim
import GoSem.ClaimJoined
import GoSem.ClaimMapViews
import Derived.JoinedTies
import Derived.KernelRfl
namespace Go.Proofs.YbulkqigFmt
/- THE CELL 'sum', in the pinned program and in every row, IS THE sha256 OF THE DUMP (.gsa) THAT YbulkqigFmtProg.lean LOADS. Nothing in Lean hashes anything: it is a label: what it is worth is what the hold of that sum in a sandbox is worth. -/
noncomputable def Ybaf.pinned : Pinned := { name := "ybulkqigfmt", sum := "718d102aa1d6c010217abce61cbc699b4bae94c43fca630f3bf27a6f28815107", checked := Ybaf.checked }
namespace Rows
def none {H : Type} : Left H := { results := [], args := [] }

/- WHAT THE LISTED PACKAGE-LEVEL VARIABLES READ AS WHEN THE CALL BEGINS. Each datum BY PROGRAM (the guide's laid-datum.mjs) off the statement by which the dump's own 'gosem.cut.vars' lays the variable. In a bare row this is a premise. The card (YbulkqigFmtCards.lean) ties it to the program's text. -/
def laid_example_com_kurzpost_kurzpost_tpdu_typesByMTI {H : Type} : DataW H := .map [(.string [97, 117, 116, 111], .agg [.lit (.string [83, 77, 83, 45, 68, 69, 76, 73, 86, 69, 82]), .lit (.string [83, 77, 83, 45, 83, 85, 66, 77, 73, 84]), .lit (.string [83, 77, 83, 45, 83, 84, 65, 84, 85, 83, 45, 82, 69, 80, 79, 82, 84]), .lit (.string [83, 77, 83, 45, 68, 69, 76, 73, 86, 69, 82])]), (.string [109, 111], .agg [.lit (.string [83, 77, 83, 45, 68, 69, 76, 73, 86, 69, 82, 45, 82, 69, 80, 79, 82, 84]), .lit (.string [83, 77, 83, 45, 83, 85, 66, 77, 73, 84]), .lit (.string [83, 77, 83, 45, 67, 79, 77, 77, 65, 78, 68]), .lit (.string [])]), (.string [109, 116], .agg [.lit (.string [83, 77, 83, 45, 68, 69, 76, 73, 86, 69, 82]), .lit (.string [83, 77, 83, 45, 83, 85, 66, 77, 73, 84, 45, 82, 69, 80, 79, 82, 84]), .lit (.string [83, 77, 83, 45, 83, 84, 65, 84, 85, 83, 45, 82, 69, 80, 79, 82, 84]), .lit (.string [83, 77, 83, 45, 68, 69, 76, 73, 86, 69, 82])])]

/-- 'octets.LawS0838ARoundTrip': WHATEVER THE INPUT: true; the input reads as it did. -/
def lawS0838ARoundTripSpec : ChangeSpec := { name := "lawS0838ARoundTrip", fn := fun _ => fun
  | [d1, d2] => { results := [.lit (.bool true)], args := [d1, d2] }
  | _ => none }
def lawS0838ARoundTripRow : OpenClaim := { program := "ybulkqigfmt", sum := "718d102aa1d6c010217abce61cbc699b4bae94c43fca630f3bf27a6f28815107", func := "example.com/kurzpost/kurzpost/internal/octets.LawS0838ARoundTrip", spec := "lawS0838ARoundTrip", stops := ["fmt.errorf"], inPlace := ["fmt.errorf"], apart := false }
/-- NO THEOREM (fmt's text is open here; it may be false): for the released tool's asking of the row's closed facts alone. THE STATEMENT IS 'LawS0838ARoundTripToldSaid' (YbulkqigFmtCards.lean). -/
def LawS0838ARoundTripFormAsk : Prop := lawS0838ARoundTripRow.holds Ybaf.pinned (OpenSpec.ofChange lawS0838ARoundTripSpec)

/-- ITS FALSE NEIGHBOUR: 'it returns false'. Refute it at one input. -/
def lawS0838ARoundTripWrong : ChangeSpec := { name := "lawS0838ARoundTrip", fn := fun _ => fun
  | [d1, d2] => { results := [.lit (.bool false)], args := [d1, d2] }
  | _ => none }
def LawS0838ARoundTripWrongFormAsk : Prop := lawS0838ARoundTripRow.holds Ybaf.pinned (OpenSpec.ofChange lawS0838ARoundTripWrong)

/-- 'octets.LawS0838AAgrees': WHATEVER THE INPUT: true; the input reads as it did. -/
def lawS0838AAgreesSpec : ChangeSpec := { name := "lawS0838AAgrees", fn := fun _ => fun
  | [d] => { results := [.lit (.bool true)], args := [d] }
  | _ => none }
def lawS0838AAgreesRow : OpenClaim := { program := "ybulkqigfmt", sum := "718d102aa1d6c010217abce61cbc699b4bae94c43fca630f3bf27a6f28815107", func := "example.com/kurzpost/kurzpost/internal/octets.LawS0838AAgrees", spec := "lawS0838AAgrees", stops := ["fmt.errorf"], inPlace := ["fmt.errorf"], apart := false }
/-- NO THEOREM (fmt's text is open here; it may be false): for the released tool's asking of the row's closed facts alone. THE STATEMENT IS 'LawS0838AAgreesToldSaid' (YbulkqigFmtCards.lean). -/
def LawS0838AAgreesFormAsk : Prop := lawS0838AAgreesRow.holds Ybaf.pinned (OpenSpec.ofChange lawS0838AAgreesSpec)

/-- ITS FALSE NEIGHBOUR: 'it returns false'. Refute it at one input. -/
def lawS0838AAgreesWrong : ChangeSpec := { name := "lawS0838AAgrees", fn := fun _ => fun
  | [d] => { results := [.lit (.bool false)], args := [d] }
  | _ => none }
def LawS0838AAgreesWrongFormAsk : Prop := lawS0838AAgreesRow.holds Ybaf.pinned (OpenSpec.ofChange lawS0838AAgreesWrong)

/-- 'tpdu.LawS0838BTable': WHATEVER THE INPUT: true; the input reads as it did. -/
def lawS0838BTableSpec : ChangeSpec := { name := "lawS0838BTable", vars := ["example.com/kurzpost/kurzpost/tpdu.typesByMTI"], fn := fun _ => fun
  | [d1, d2, d3, d4, g1] => { results := [.lit (.bool true)], args := [d1, d2, d3, d4], vars := [g1] }
  | _ => none }
def lawS0838BTableRow : OpenClaim := { program := "ybulkqigfmt", sum := "718d102aa1d6c010217abce61cbc699b4bae94c43fca630f3bf27a6f28815107", func := "example.com/kurzpost/kurzpost/tpdu.LawS0838BTable", spec := "lawS0838BTable", stops := ["fmt.errorf"], inPlace := ["fmt.errorf"], named := ["example.com/kurzpost/kurzpost/tpdu.typesByMTI"], maps := true, apart := false, laid := [("example.com/kurzpost/kurzpost/tpdu.typesByMTI", laid_example_com_kurzpost_kurzpost_tpdu_typesByMTI)] }
/-- NO THEOREM (fmt's text is open here; it may be false): for the released tool's asking of the row's closed facts alone. THE STATEMENT IS 'LawS0838BTableToldSaid' (YbulkqigFmtCards.lean). -/
def LawS0838BTableFormAsk : Prop := lawS0838BTableRow.holds Ybaf.pinned (OpenSpec.ofChange lawS0838BTableSpec)

/-- ITS FALSE NEIGHBOUR: 'it returns false'. Refute it at one input. -/
def lawS0838BTableWrong : ChangeSpec := { name := "lawS0838BTable", vars := ["example.com/kurzpost/kurzpost/tpdu.typesByMTI"], fn := fun _ => fun
  | [d1, d2, d3, d4, g1] => { results := [.lit (.bool false)], args := [d1, d2, d3, d4], vars := [g1] }
  | _ => none }
def LawS0838BTableWrongFormAsk : Prop := lawS0838BTableRow.holds Ybaf.pinned (OpenSpec.ofChange lawS0838BTableWrong)

/-- 'tpdu.LawS0838BRawStrings': WHATEVER THE INPUT: true; the input reads as it did. -/
def lawS0838BRawStringsSpec : ChangeSpec := { name := "lawS0838BRawStrings", vars := ["example.com/kurzpost/kurzpost/tpdu.typesByMTI"], fn := fun _ => fun
  | [d1, d2, g1] => { results := [.lit (.bool true)], args := [d1, d2], vars := [g1] }
  | _ => none }
def lawS0838BRawStringsRow : OpenClaim := { program := "ybulkqigfmt", sum := "718d102aa1d6c010217abce61cbc699b4bae94c43fca630f3bf27a6f28815107", func := "example.com/kurzpost/kurzpost/tpdu.LawS0838BRawStrings", spec := "lawS0838BRawStrings", stops := ["fmt.errorf"], inPlace := ["fmt.errorf"], named := ["example.com/kurzpost/kurzpost/tpdu.typesByMTI"], maps := true, apart := false, laid := [("example.com/kurzpost/kurzpost/tpdu.typesByMTI", laid_example_com_kurzpost_kurzpost_tpdu_typesByMTI)] }
/-- NO THEOREM (fmt's text is open here; it may be false): for the released tool's asking of the row's closed facts alone. THE STATEMENT IS 'LawS0838BRawStringsToldSaid' (YbulkqigFmtCards.lean). -/
def LawS0838BRawStringsFormAsk : Prop := lawS0838BRawStringsRow.holds Ybaf.pinned (OpenSpec.ofChange lawS0838BRawStringsSpec)

/-- ITS FALSE NEIGHBOUR: 'it returns false'. Refute it at one input. -/
def lawS0838BRawStringsWrong : ChangeSpec := { name := "lawS0838BRawStrings", vars := ["example.com/kurzpost/kurzpost/tpdu.typesByMTI"], fn := fun _ => fun
  | [d1, d2, g1] => { results := [.lit (.bool false)], args := [d1, d2], vars := [g1] }
  | _ => none }
def LawS0838BRawStringsWrongFormAsk : Prop := lawS0838BRawStringsRow.holds Ybaf.pinned (OpenSpec.ofChange lawS0838BRawStringsWrong)

end Rows
end Go.Proofs.YbulkqigFmt
