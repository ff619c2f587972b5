/-
  No cell of these rows narrows 'for every input' (looked for: loops, veiled, ifaces, maps, wideKeys, modest, calm, conditions, laid).
  DERIVED. THE GIVEN ROWS OF THIS SEAT. 1 by the template 'for every input the law returns true; each argument reads behind the call as it read before'; 0 by the template 'total and deterministic' (their statements: YbulknxgTotals.lean).
  GIVEN WITH THE SEED: the statements are not yours to turn. If you find one false, say at which input.
  Laid BY PROGRAM, IN A SANDBOX (cutbox-rows.mjs): the forced cells as the released guide's own fill.sh prints them over the translation c30a9c646028e067… (all of the seat's roots in one cut). By AI agents, Wed Nov 11 2026. No macro, syntax, notation, axiom, sorry.
-/
import Derived.Test.YbulknxgChecked
import GoSem.Claim
import GoSem.ClaimJoined
import GoSem.ClaimMapViews
import Derived.JoinedTies
import Derived.KernelRfl
namespace Go.Proofs.Ybulknxg
/- THE CELL 'sum', in the pinned program and in every row, IS THE sha256 OF THE DUMP (.gsa) THAT YbulknxgProg.lean LOADS. Nothing in Lean hashes anything: it is a label: what it is worth is what the hold of that sum in a sandbox is worth. -/
noncomputable def Yba.pinned : Pinned := { name := "ybulknxg", sum := "c30a9c646028e06746670ee4ce285ac5ee4095e0b5ba63871dc733b8609126d2", checked := Yba.checked }
namespace Rows
def none {H : Type} : Left H := { results := [], args := [] }

/-- 'repeats.LawS0721CPlaces': WHATEVER THE INPUT: true; the input reads as it did. -/
def lawS0721CPlacesSpec : ChangeSpec := { name := "lawS0721CPlaces", fn := fun _ => fun
  | [d1, d2] => { results := [.lit (.bool true)], args := [d1, d2] }
  | _ => none }
def lawS0721CPlacesRow : OpenClaim := { program := "ybulknxg", sum := "c30a9c646028e06746670ee4ce285ac5ee4095e0b5ba63871dc733b8609126d2", func := "example.com/tenorfix/tenorfix/internal/repeats.LawS0721CPlaces", spec := "lawS0721CPlaces", apart := false }
def LawS0721CPlacesSaid : Prop := lawS0721CPlacesRow.holds Yba.pinned (OpenSpec.ofChange lawS0721CPlacesSpec)

/-- ITS FALSE NEIGHBOUR: 'it returns false'. Refute it at one input. -/
def lawS0721CPlacesWrong : ChangeSpec := { name := "lawS0721CPlaces", fn := fun _ => fun
  | [d1, d2] => { results := [.lit (.bool false)], args := [d1, d2] }
  | _ => none }
def LawS0721CPlacesWrongFalsely : Prop := lawS0721CPlacesRow.holds Yba.pinned (OpenSpec.ofChange lawS0721CPlacesWrong)

end Rows
end Go.Proofs.Ybulknxg
