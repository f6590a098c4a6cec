/-
  No cell of these rows narrows 'for every input' (looked for: loops, veiled, ifaces, maps, wideKeys, modest, calm, conditions, laid).
  DERIVED. THE GIVEN ROWS OF THIS SEAT. 1 by the template 'for every input the law returns true; each argument reads behind the call as it read before'; 0 by the template 'total and deterministic' (their statements: YbulkqncTotals.lean).
  GIVEN WITH THE SEED: the statements are not yours to turn. If you find one false, say at which input.
  Laid BY PROGRAM, IN A SANDBOX (cutbox-rows.mjs): the forced cells as the released guide's own fill.sh prints them over the translation f1afecd391f584e8… (all of the seat's roots in one cut). By AI agents, Wed Nov 11 2026. No macro, syntax, notation, axiom, sorry.
-/
import Derived.Test.YbulkqncChecked
import GoSem.Claim
import GoSem.ClaimJoined
import GoSem.ClaimMapViews
import Derived.JoinedTies
import Derived.KernelRfl
namespace Go.Proofs.Ybulkqnc
/- THE CELL 'sum', in the pinned program and in every row, IS THE sha256 OF THE DUMP (.gsa) THAT YbulkqncProg.lean LOADS. Nothing in Lean hashes anything: it is a label: what it is worth is what the hold of that sum in a sandbox is worth. -/
noncomputable def Yba.pinned : Pinned := { name := "ybulkqnc", sum := "f1afecd391f584e8233a5673714103de49624484862ed4f1ff2aad3ca4b0ce32", checked := Yba.checked }
namespace Rows
def none {H : Type} : Left H := { results := [], args := [] }

/-- 'cli.LawS0847AEnter': WHATEVER THE INPUT: true; the input reads as it did. -/
def lawS0847AEnterSpec : ChangeSpec := { name := "lawS0847AEnter", fn := fun _ => fun
  | [d1, d2, d3, d4, d5] => { results := [.lit (.bool true)], args := [d1, d2, d3, d4, d5] }
  | _ => none }
def lawS0847AEnterRow : OpenClaim := { program := "ybulkqnc", sum := "f1afecd391f584e8233a5673714103de49624484862ed4f1ff2aad3ca4b0ce32", func := "example.com/edgesign/edgesign/internal/cli.LawS0847AEnter", spec := "lawS0847AEnter", unfollowed := true, recurses := true, apart := false }
def LawS0847AEnterSaid : Prop := lawS0847AEnterRow.holds Yba.pinned (OpenSpec.ofChange lawS0847AEnterSpec)

/-- ITS FALSE NEIGHBOUR: 'it returns false'. Refute it at one input. -/
def lawS0847AEnterWrong : ChangeSpec := { name := "lawS0847AEnter", fn := fun _ => fun
  | [d1, d2, d3, d4, d5] => { results := [.lit (.bool false)], args := [d1, d2, d3, d4, d5] }
  | _ => none }
def LawS0847AEnterWrongFalsely : Prop := lawS0847AEnterRow.holds Yba.pinned (OpenSpec.ofChange lawS0847AEnterWrong)

end Rows
end Go.Proofs.Ybulkqnc
