/-
  No cell of these rows narrows 'for every input' (looked for: loops, veiled, ifaces, maps, wideKeys, modest, calm, conditions, laid).
  DERIVED. THE GIVEN ROWS OF THIS SEAT. 4 by the template 'for every input the law returns true; each argument reads behind the call as it read before'; 0 by the template 'total and deterministic' (their statements: YbulknskTotals.lean).
  GIVEN WITH THE SEED: the statements are not yours to turn. If you find one false, say at which input.
  Laid BY PROGRAM, IN A SANDBOX (cutbox-rows.mjs): the forced cells as the released guide's own fill.sh prints them over the translation 0cd4318b582b7735… (all of the seat's roots in one cut). By AI agents, Wed Nov 11 2026. No macro, syntax, notation, axiom, sorry.
-/
import Derived.Test.YbulknskChecked
import GoSem.Claim
import GoSem.ClaimJoined
import GoSem.ClaimMapViews
import Derived.JoinedTies
import Derived.KernelRfl
namespace Go.Proofs.Ybulknsk
/- THE CELL 'sum', in the pinned program and in every row, IS THE sha256 OF THE DUMP (.gsa) THAT YbulknskProg.lean LOADS. Nothing in Lean hashes anything: it is a label: what it is worth is what the hold of that sum in a sandbox is worth. -/
noncomputable def Yba.pinned : Pinned := { name := "ybulknsk", sum := "0cd4318b582b773526f9d4124fbaaef689b42bb1561eab3d57c7982db46b1ac2", checked := Yba.checked }
namespace Rows
def none {H : Type} : Left H := { results := [], args := [] }

/-- 'unixfs.LawS0712BExact': WHATEVER THE INPUT: true; the input reads as it did. -/
def lawS0712BExactSpec : ChangeSpec := { name := "lawS0712BExact", fn := fun _ => fun
  | [d1, d2] => { results := [.lit (.bool true)], args := [d1, d2] }
  | _ => none }
def lawS0712BExactRow : OpenClaim := { program := "ybulknsk", sum := "0cd4318b582b773526f9d4124fbaaef689b42bb1561eab3d57c7982db46b1ac2", func := "example.com/merkweave/merkweave/unixfs.LawS0712BExact", spec := "lawS0712BExact", apart := false }
def LawS0712BExactSaid : Prop := lawS0712BExactRow.holds Yba.pinned (OpenSpec.ofChange lawS0712BExactSpec)

/-- ITS FALSE NEIGHBOUR: 'it returns false'. Refute it at one input. -/
def lawS0712BExactWrong : ChangeSpec := { name := "lawS0712BExact", fn := fun _ => fun
  | [d1, d2] => { results := [.lit (.bool false)], args := [d1, d2] }
  | _ => none }
def LawS0712BExactWrongFalsely : Prop := lawS0712BExactRow.holds Yba.pinned (OpenSpec.ofChange lawS0712BExactWrong)

/-- 'unixfs.LawS0712BAssoc': WHATEVER THE INPUT: true; the input reads as it did. -/
def lawS0712BAssocSpec : ChangeSpec := { name := "lawS0712BAssoc", fn := fun _ => fun
  | [d1, d2, d3] => { results := [.lit (.bool true)], args := [d1, d2, d3] }
  | _ => none }
def lawS0712BAssocRow : OpenClaim := { program := "ybulknsk", sum := "0cd4318b582b773526f9d4124fbaaef689b42bb1561eab3d57c7982db46b1ac2", func := "example.com/merkweave/merkweave/unixfs.LawS0712BAssoc", spec := "lawS0712BAssoc", apart := false }
def LawS0712BAssocSaid : Prop := lawS0712BAssocRow.holds Yba.pinned (OpenSpec.ofChange lawS0712BAssocSpec)

/-- ITS FALSE NEIGHBOUR: 'it returns false'. Refute it at one input. -/
def lawS0712BAssocWrong : ChangeSpec := { name := "lawS0712BAssoc", fn := fun _ => fun
  | [d1, d2, d3] => { results := [.lit (.bool false)], args := [d1, d2, d3] }
  | _ => none }
def LawS0712BAssocWrongFalsely : Prop := lawS0712BAssocRow.holds Yba.pinned (OpenSpec.ofChange lawS0712BAssocWrong)

/-- 'unixfs.LawS0712BRoot': WHATEVER THE INPUT: true; the input reads as it did. -/
def lawS0712BRootSpec : ChangeSpec := { name := "lawS0712BRoot", fn := fun _ => fun
  | [d] => { results := [.lit (.bool true)], args := [d] }
  | _ => none }
def lawS0712BRootRow : OpenClaim := { program := "ybulknsk", sum := "0cd4318b582b773526f9d4124fbaaef689b42bb1561eab3d57c7982db46b1ac2", func := "example.com/merkweave/merkweave/unixfs.LawS0712BRoot", spec := "lawS0712BRoot", apart := false }
def LawS0712BRootSaid : Prop := lawS0712BRootRow.holds Yba.pinned (OpenSpec.ofChange lawS0712BRootSpec)

/-- ITS FALSE NEIGHBOUR: 'it returns false'. Refute it at one input. -/
def lawS0712BRootWrong : ChangeSpec := { name := "lawS0712BRoot", fn := fun _ => fun
  | [d] => { results := [.lit (.bool false)], args := [d] }
  | _ => none }
def LawS0712BRootWrongFalsely : Prop := lawS0712BRootRow.holds Yba.pinned (OpenSpec.ofChange lawS0712BRootWrong)

/-- 'blockbuf.LawS0712CMeasure': WHATEVER THE INPUT: true; the input reads as it did. -/
def lawS0712CMeasureSpec : ChangeSpec := { name := "lawS0712CMeasure", fn := fun _ => fun
  | [d1, d2, d3] => { results := [.lit (.bool true)], args := [d1, d2, d3] }
  | _ => none }
def lawS0712CMeasureRow : OpenClaim := { program := "ybulknsk", sum := "0cd4318b582b773526f9d4124fbaaef689b42bb1561eab3d57c7982db46b1ac2", func := "example.com/merkweave/merkweave/internal/blockbuf.LawS0712CMeasure", spec := "lawS0712CMeasure", unfollowed := true, recurses := true, apart := false }
def LawS0712CMeasureSaid : Prop := lawS0712CMeasureRow.holds Yba.pinned (OpenSpec.ofChange lawS0712CMeasureSpec)

/-- ITS FALSE NEIGHBOUR: 'it returns false'. Refute it at one input. -/
def lawS0712CMeasureWrong : ChangeSpec := { name := "lawS0712CMeasure", fn := fun _ => fun
  | [d1, d2, d3] => { results := [.lit (.bool false)], args := [d1, d2, d3] }
  | _ => none }
def LawS0712CMeasureWrongFalsely : Prop := lawS0712CMeasureRow.holds Yba.pinned (OpenSpec.ofChange lawS0712CMeasureWrong)

end Rows
end Go.Proofs.Ybulknsk
