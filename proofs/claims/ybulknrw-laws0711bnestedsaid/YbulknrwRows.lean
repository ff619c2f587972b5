/-
  No cell of these rows narrows 'for every input' (looked for: loops, veiled, ifaces, maps, wideKeys, modest, calm, conditions, laid).
  DERIVED. THE GIVEN ROWS OF THIS SEAT. 2 by the template 'for every input the law returns true; each argument reads behind the call as it read before'; 0 by the template 'total and deterministic' (their statements: YbulknrwTotals.lean).
  GIVEN WITH THE SEED: the statements are not yours to turn. If you find one false, say at which input.
  Laid BY PROGRAM, IN A SANDBOX (cutbox-rows.mjs): the forced cells as the released guide's own fill.sh prints them over the translation e400f0c22156d8b0… (all of the seat's roots in one cut). By AI agents, Wed Nov 11 2026. No macro, syntax, notation, axiom, sorry.
-/
import Derived.Test.YbulknrwChecked
import GoSem.Claim
import GoSem.ClaimJoined
import GoSem.ClaimMapViews
import Derived.JoinedTies
import Derived.KernelRfl
namespace Go.Proofs.Ybulknrw
/- THE CELL 'sum', in the pinned program and in every row, IS THE sha256 OF THE DUMP (.gsa) THAT YbulknrwProg.lean LOADS. Nothing in Lean hashes anything: it is a label: what it is worth is what the hold of that sum in a sandbox is worth. -/
noncomputable def Yba.pinned : Pinned := { name := "ybulknrw", sum := "e400f0c22156d8b0052ccf097de47eb94710f4ebf691415087b6e2222fab4dd5", checked := Yba.checked }
namespace Rows
def none {H : Type} : Left H := { results := [], args := [] }

/-- 'syntax.LawS0711BCalls': WHATEVER THE INPUT: true; the input reads as it did. -/
def lawS0711BCallsSpec : ChangeSpec := { name := "lawS0711BCalls", fn := fun _ => fun
  | [d1, d2] => { results := [.lit (.bool true)], args := [d1, d2] }
  | _ => none }
def lawS0711BCallsRow : OpenClaim := { program := "ybulknrw", sum := "e400f0c22156d8b0052ccf097de47eb94710f4ebf691415087b6e2222fab4dd5", func := "example.com/lanewright/lanewright/internal/syntax.LawS0711BCalls", spec := "lawS0711BCalls", unfollowed := true, recurses := true, apart := false }
def LawS0711BCallsSaid : Prop := lawS0711BCallsRow.holds Yba.pinned (OpenSpec.ofChange lawS0711BCallsSpec)

/-- ITS FALSE NEIGHBOUR: 'it returns false'. Refute it at one input. -/
def lawS0711BCallsWrong : ChangeSpec := { name := "lawS0711BCalls", fn := fun _ => fun
  | [d1, d2] => { results := [.lit (.bool false)], args := [d1, d2] }
  | _ => none }
def LawS0711BCallsWrongFalsely : Prop := lawS0711BCallsRow.holds Yba.pinned (OpenSpec.ofChange lawS0711BCallsWrong)

/-- 'syntax.LawS0711BNested': WHATEVER THE INPUT: true; the input reads as it did. -/
def lawS0711BNestedSpec : ChangeSpec := { name := "lawS0711BNested", fn := fun _ => fun
  | [d1, d2] => { results := [.lit (.bool true)], args := [d1, d2] }
  | _ => none }
def lawS0711BNestedRow : OpenClaim := { program := "ybulknrw", sum := "e400f0c22156d8b0052ccf097de47eb94710f4ebf691415087b6e2222fab4dd5", func := "example.com/lanewright/lanewright/internal/syntax.LawS0711BNested", spec := "lawS0711BNested", unfollowed := true, recurses := true, apart := false }
def LawS0711BNestedSaid : Prop := lawS0711BNestedRow.holds Yba.pinned (OpenSpec.ofChange lawS0711BNestedSpec)

/-- ITS FALSE NEIGHBOUR: 'it returns false'. Refute it at one input. -/
def lawS0711BNestedWrong : ChangeSpec := { name := "lawS0711BNested", fn := fun _ => fun
  | [d1, d2] => { results := [.lit (.bool false)], args := [d1, d2] }
  | _ => none }
def LawS0711BNestedWrongFalsely : Prop := lawS0711BNestedRow.holds Yba.pinned (OpenSpec.ofChange lawS0711BNestedWrong)

end Rows
end Go.Proofs.Ybulknrw
