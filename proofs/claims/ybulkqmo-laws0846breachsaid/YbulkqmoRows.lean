/-
  No cell of these rows narrows 'for every input' (looked for: loops, veiled, ifaces, maps, wideKeys, modest, calm, conditions, laid).
  DERIVED. THE GIVEN ROWS OF THIS SEAT. 3 by the template 'for every input the law returns true; each argument reads behind the call as it read before'; 0 by the template 'total and deterministic' (their statements: YbulkqmoTotals.lean).
  GIVEN WITH THE SEED: the statements are not yours to turn. If you find one false, say at which input.
  Laid BY PROGRAM, IN A SANDBOX (cutbox-rows.mjs): the forced cells as the released guide's own fill.sh prints them over the translation 511d0f561e7126b6… (all of the seat's roots in one cut). By AI agents, Wed Nov 11 2026. No macro, syntax, notation, axiom, sorry.
-/
import Derived.Test.YbulkqmoChecked
import GoSem.Claim
import GoSem.ClaimJoined
import GoSem.ClaimMapViews
import Derived.JoinedTies
import Derived.KernelRfl
namespace Go.Proofs.Ybulkqmo
/- THE CELL 'sum', in the pinned program and in every row, IS THE sha256 OF THE DUMP (.gsa) THAT YbulkqmoProg.lean LOADS. Nothing in Lean hashes anything: it is a label: what it is worth is what the hold of that sum in a sandbox is worth. -/
noncomputable def Yba.pinned : Pinned := { name := "ybulkqmo", sum := "511d0f561e7126b6ebac6a0019882ac95cb329201691f4f5eda1981f63702176", checked := Yba.checked }
namespace Rows
def none {H : Type} : Left H := { results := [], args := [] }

/-- 'eval.LawS0846BReach': WHATEVER THE INPUT: true; the input reads as it did. -/
def lawS0846BReachSpec : ChangeSpec := { name := "lawS0846BReach", fn := fun _ => fun
  | [d1, d2, d3] => { results := [.lit (.bool true)], args := [d1, d2, d3] }
  | _ => none }
def lawS0846BReachRow : OpenClaim := { program := "ybulkqmo", sum := "511d0f561e7126b6ebac6a0019882ac95cb329201691f4f5eda1981f63702176", func := "example.com/assent/assent/internal/eval.LawS0846BReach", spec := "lawS0846BReach", plainKeys := false, apart := false }
def LawS0846BReachSaid : Prop := lawS0846BReachRow.holds Yba.pinned (OpenSpec.ofChange lawS0846BReachSpec)

/-- ITS FALSE NEIGHBOUR: 'it returns false'. Refute it at one input. -/
def lawS0846BReachWrong : ChangeSpec := { name := "lawS0846BReach", fn := fun _ => fun
  | [d1, d2, d3] => { results := [.lit (.bool false)], args := [d1, d2, d3] }
  | _ => none }
def LawS0846BReachWrongFalsely : Prop := lawS0846BReachRow.holds Yba.pinned (OpenSpec.ofChange lawS0846BReachWrong)

/-- 'load.LawS0846CTurns': WHATEVER THE INPUT: true; the input reads as it did. -/
def lawS0846CTurnsSpec : ChangeSpec := { name := "lawS0846CTurns", fn := fun _ => fun
  | [d] => { results := [.lit (.bool true)], args := [d] }
  | _ => none }
def lawS0846CTurnsRow : OpenClaim := { program := "ybulkqmo", sum := "511d0f561e7126b6ebac6a0019882ac95cb329201691f4f5eda1981f63702176", func := "example.com/assent/assent/internal/load.LawS0846CTurns", spec := "lawS0846CTurns", unfollowed := true, recurses := true, plainKeys := false, apart := false }
def LawS0846CTurnsSaid : Prop := lawS0846CTurnsRow.holds Yba.pinned (OpenSpec.ofChange lawS0846CTurnsSpec)

/-- ITS FALSE NEIGHBOUR: 'it returns false'. Refute it at one input. -/
def lawS0846CTurnsWrong : ChangeSpec := { name := "lawS0846CTurns", fn := fun _ => fun
  | [d] => { results := [.lit (.bool false)], args := [d] }
  | _ => none }
def LawS0846CTurnsWrongFalsely : Prop := lawS0846CTurnsRow.holds Yba.pinned (OpenSpec.ofChange lawS0846CTurnsWrong)

/-- 'load.LawS0846CPeriod': WHATEVER THE INPUT: true; the input reads as it did. -/
def lawS0846CPeriodSpec : ChangeSpec := { name := "lawS0846CPeriod", fn := fun _ => fun
  | [d1, d2] => { results := [.lit (.bool true)], args := [d1, d2] }
  | _ => none }
def lawS0846CPeriodRow : OpenClaim := { program := "ybulkqmo", sum := "511d0f561e7126b6ebac6a0019882ac95cb329201691f4f5eda1981f63702176", func := "example.com/assent/assent/internal/load.LawS0846CPeriod", spec := "lawS0846CPeriod", unfollowed := true, recurses := true, plainKeys := false, apart := false }
def LawS0846CPeriodSaid : Prop := lawS0846CPeriodRow.holds Yba.pinned (OpenSpec.ofChange lawS0846CPeriodSpec)

/-- ITS FALSE NEIGHBOUR: 'it returns false'. Refute it at one input. -/
def lawS0846CPeriodWrong : ChangeSpec := { name := "lawS0846CPeriod", fn := fun _ => fun
  | [d1, d2] => { results := [.lit (.bool false)], args := [d1, d2] }
  | _ => none }
def LawS0846CPeriodWrongFalsely : Prop := lawS0846CPeriodRow.holds Yba.pinned (OpenSpec.ofChange lawS0846CPeriodWrong)

end Rows
end Go.Proofs.Ybulkqmo
