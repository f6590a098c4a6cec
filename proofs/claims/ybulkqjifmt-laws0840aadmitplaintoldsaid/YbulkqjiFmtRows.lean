/-
  NARROWER THAN 'FOR EVERY INPUT', by the rows' own cells (each row's printed sentence says how): LawS0840AAdmitPlain: laid · LawS0840AAdmitCaching: laid.
  DERIVED. THE GIVEN ROWS OF THIS SEAT. 2 by the template 'for every input the law returns true; each argument reads behind the call as it read before'; 0 by the template 'total and deterministic' (their statements: YbulkqjiFmtTotals.lean).
  GIVEN WITH THE SEED: the statements are not yours to turn. If you find one false, say at which input.
  Laid BY PROGRAM, IN A SANDBOX (cutbox-rows.mjs): the forced cells as the released guide's own fill.sh prints them over the translation 7fe75d9e96c13d4c… (all of the seat's roots in one cut). By AI agents, Wed Nov 11 2026. No macro, syntax, notation, axiom, sorry.
-/
import Derived.Test.YbulkqjiFmtChecked
import GoSem.Claim
import GoSem.ClaimJoined
import GoSem.ClaimMapViews
import Derived.JoinedTies
import Derived.KernelRfl
namespace Go.Proofs.YbulkqjiFmt
/- THE CELL 'sum', in the pinned program and in every row, IS THE sha256 OF THE DUMP (.gsa) THAT YbulkqjiFmtProg.lean LOADS. Nothing in Lean hashes anything: it is a label: what it is worth is what the hold of that sum in a sandbox is worth. -/
noncomputable def Ybaf.pinned : Pinned := { name := "ybulkqjifmt", sum := "7fe75d9e96c13d4cb3d723cad99b5aed3185cb5f65b91fd0e111bfb9a15c03ca", checked := Ybaf.checked }
namespace Rows
def none {H : Type} : Left H := { results := [], args := [] }

/- WHAT THE LISTED PACKAGE-LEVEL VARIABLES READ AS WHEN THE CALL BEGINS. Each datum BY PROGRAM (the guide's laid-datum.mjs) off the statement by which the dump's own 'gosem.cut.vars' lays the variable. In a bare row this is a premise. The card (YbulkqjiFmtCards.lean) ties it to the program's text. -/
def laid_example_com_stepclock_stepclock_kvcache_gap {H : Type} : DataW H := .lit (.int .i32 (-1))

/-- 'kvcache.LawS0840AAdmitPlain': WHATEVER THE INPUT: true; the input reads as it did. -/
def lawS0840AAdmitPlainSpec : ChangeSpec := { name := "lawS0840AAdmitPlain", vars := ["example.com/stepclock/stepclock/kvcache.gap"], fn := fun _ => fun
  | [d1, d2, d3, g1] => { results := [.lit (.bool true)], args := [d1, d2, d3], vars := [g1] }
  | _ => none }
def lawS0840AAdmitPlainRow : OpenClaim := { program := "ybulkqjifmt", sum := "7fe75d9e96c13d4cb3d723cad99b5aed3185cb5f65b91fd0e111bfb9a15c03ca", func := "example.com/stepclock/stepclock/kvcache.LawS0840AAdmitPlain", spec := "lawS0840AAdmitPlain", stops := ["fmt.Sprintf", "fmt.errorf"], inPlace := ["fmt.Sprintf", "fmt.errorf"], unfollowed := true, recurses := true, named := ["example.com/stepclock/stepclock/kvcache.gap"], plainKeys := false, apart := false, laid := [("example.com/stepclock/stepclock/kvcache.gap", laid_example_com_stepclock_stepclock_kvcache_gap)] }
/-- NO THEOREM (fmt's text is open here; it may be false): for the released tool's asking of the row's closed facts alone. THE STATEMENT IS 'LawS0840AAdmitPlainToldSaid' (YbulkqjiFmtCards.lean). -/
def LawS0840AAdmitPlainFormAsk : Prop := lawS0840AAdmitPlainRow.holds Ybaf.pinned (OpenSpec.ofChange lawS0840AAdmitPlainSpec)

/-- ITS FALSE NEIGHBOUR: 'it returns false'. Refute it at one input. -/
def lawS0840AAdmitPlainWrong : ChangeSpec := { name := "lawS0840AAdmitPlain", vars := ["example.com/stepclock/stepclock/kvcache.gap"], fn := fun _ => fun
  | [d1, d2, d3, g1] => { results := [.lit (.bool false)], args := [d1, d2, d3], vars := [g1] }
  | _ => none }
def LawS0840AAdmitPlainWrongFormAsk : Prop := lawS0840AAdmitPlainRow.holds Ybaf.pinned (OpenSpec.ofChange lawS0840AAdmitPlainWrong)

/-- 'kvcache.LawS0840AAdmitCaching': WHATEVER THE INPUT: true; the input reads as it did. -/
def lawS0840AAdmitCachingSpec : ChangeSpec := { name := "lawS0840AAdmitCaching", vars := ["example.com/stepclock/stepclock/kvcache.gap"], fn := fun _ => fun
  | [d1, d2, d3, g1] => { results := [.lit (.bool true)], args := [d1, d2, d3], vars := [g1] }
  | _ => none }
def lawS0840AAdmitCachingRow : OpenClaim := { program := "ybulkqjifmt", sum := "7fe75d9e96c13d4cb3d723cad99b5aed3185cb5f65b91fd0e111bfb9a15c03ca", func := "example.com/stepclock/stepclock/kvcache.LawS0840AAdmitCaching", spec := "lawS0840AAdmitCaching", stops := ["fmt.Sprintf", "fmt.errorf"], inPlace := ["fmt.Sprintf", "fmt.errorf"], unfollowed := true, recurses := true, named := ["example.com/stepclock/stepclock/kvcache.gap"], plainKeys := false, apart := false, laid := [("example.com/stepclock/stepclock/kvcache.gap", laid_example_com_stepclock_stepclock_kvcache_gap)] }
/-- NO THEOREM (fmt's text is open here; it may be false): for the released tool's asking of the row's closed facts alone. THE STATEMENT IS 'LawS0840AAdmitCachingToldSaid' (YbulkqjiFmtCards.lean). -/
def LawS0840AAdmitCachingFormAsk : Prop := lawS0840AAdmitCachingRow.holds Ybaf.pinned (OpenSpec.ofChange lawS0840AAdmitCachingSpec)

/-- ITS FALSE NEIGHBOUR: 'it returns false'. Refute it at one input. -/
def lawS0840AAdmitCachingWrong : ChangeSpec := { name := "lawS0840AAdmitCaching", vars := ["example.com/stepclock/stepclock/kvcache.gap"], fn := fun _ => fun
  | [d1, d2, d3, g1] => { results := [.lit (.bool false)], args := [d1, d2, d3], vars := [g1] }
  | _ => none }
def LawS0840AAdmitCachingWrongFormAsk : Prop := lawS0840AAdmitCachingRow.holds Ybaf.pinned (OpenSpec.ofChange lawS0840AAdmitCachingWrong)

end Rows
end Go.Proofs.YbulkqjiFmt
