/-
  No cell of these rows narrows 'for every input' (looked for: loops, veiled, ifaces, maps, wideKeys, modest, calm, conditions, laid).
  DERIVED. THE GIVEN ROWS OF THIS SEAT. 5 by the template 'for every input the law returns true; each argument reads behind the call as it read before'; 0 by the template 'total and deterministic' (their statements: YbulknriTotals.lean).
  GIVEN WITH THE SEED: the statements are not yours to turn. If you find one false, say at which input.
  Laid BY PROGRAM, IN A SANDBOX (cutbox-rows.mjs): the forced cells as the released guide's own fill.sh prints them over the translation 0abdd728d420554d… (all of the seat's roots in one cut). By AI agents, Wed Nov 11 2026. No macro, syntax, notation, axiom, sorry.
-/
import Derived.Test.YbulknriChecked
import GoSem.Claim
import GoSem.ClaimJoined
import GoSem.ClaimMapViews
import Derived.JoinedTies
import Derived.KernelRfl
namespace Go.Proofs.Ybulknri
/- THE CELL 'sum', in the pinned program and in every row, IS THE sha256 OF THE DUMP (.gsa) THAT YbulknriProg.lean LOADS. Nothing in Lean hashes anything: it is a label: what it is worth is what the hold of that sum in a sandbox is worth. -/
noncomputable def Yba.pinned : Pinned := { name := "ybulknri", sum := "0abdd728d420554d8a8ded787bf263c9a3e58079403cce058f94c37f49a763ab", checked := Yba.checked }
namespace Rows
def none {H : Type} : Left H := { results := [], args := [] }

/-- 'tidehelm.LawS0710BReport': WHATEVER THE INPUT: true; the input reads as it did. -/
def lawS0710BReportSpec : ChangeSpec := { name := "lawS0710BReport", fn := fun _ => fun
  | [d1, d2, d3, d4, d5, d6, d7, d8] => { results := [.lit (.bool true)], args := [d1, d2, d3, d4, d5, d6, d7, d8] }
  | _ => none }
def lawS0710BReportRow : OpenClaim := { program := "ybulknri", sum := "0abdd728d420554d8a8ded787bf263c9a3e58079403cce058f94c37f49a763ab", func := "example.com/tidehelm/tidehelm.LawS0710BReport", spec := "lawS0710BReport", unfollowed := true, recurses := true, apart := false }
def LawS0710BReportSaid : Prop := lawS0710BReportRow.holds Yba.pinned (OpenSpec.ofChange lawS0710BReportSpec)

/-- ITS FALSE NEIGHBOUR: 'it returns false'. Refute it at one input. -/
def lawS0710BReportWrong : ChangeSpec := { name := "lawS0710BReport", fn := fun _ => fun
  | [d1, d2, d3, d4, d5, d6, d7, d8] => { results := [.lit (.bool false)], args := [d1, d2, d3, d4, d5, d6, d7, d8] }
  | _ => none }
def LawS0710BReportWrongFalsely : Prop := lawS0710BReportRow.holds Yba.pinned (OpenSpec.ofChange lawS0710BReportWrong)

/-- 'tidehelm.LawS0710BOthers': WHATEVER THE INPUT: true; the input reads as it did. -/
def lawS0710BOthersSpec : ChangeSpec := { name := "lawS0710BOthers", fn := fun _ => fun
  | [d1, d2, d3, d4, d5, d6, d7, d8] => { results := [.lit (.bool true)], args := [d1, d2, d3, d4, d5, d6, d7, d8] }
  | _ => none }
def lawS0710BOthersRow : OpenClaim := { program := "ybulknri", sum := "0abdd728d420554d8a8ded787bf263c9a3e58079403cce058f94c37f49a763ab", func := "example.com/tidehelm/tidehelm.LawS0710BOthers", spec := "lawS0710BOthers", unfollowed := true, recurses := true, apart := false }
def LawS0710BOthersSaid : Prop := lawS0710BOthersRow.holds Yba.pinned (OpenSpec.ofChange lawS0710BOthersSpec)

/-- ITS FALSE NEIGHBOUR: 'it returns false'. Refute it at one input. -/
def lawS0710BOthersWrong : ChangeSpec := { name := "lawS0710BOthers", fn := fun _ => fun
  | [d1, d2, d3, d4, d5, d6, d7, d8] => { results := [.lit (.bool false)], args := [d1, d2, d3, d4, d5, d6, d7, d8] }
  | _ => none }
def LawS0710BOthersWrongFalsely : Prop := lawS0710BOthersRow.holds Yba.pinned (OpenSpec.ofChange lawS0710BOthersWrong)

/-- 'tidehelm.LawS0710BPlace': WHATEVER THE INPUT: true; the input reads as it did. -/
def lawS0710BPlaceSpec : ChangeSpec := { name := "lawS0710BPlace", fn := fun _ => fun
  | [d1, d2, d3, d4, d5, d6, d7, d8] => { results := [.lit (.bool true)], args := [d1, d2, d3, d4, d5, d6, d7, d8] }
  | _ => none }
def lawS0710BPlaceRow : OpenClaim := { program := "ybulknri", sum := "0abdd728d420554d8a8ded787bf263c9a3e58079403cce058f94c37f49a763ab", func := "example.com/tidehelm/tidehelm.LawS0710BPlace", spec := "lawS0710BPlace", unfollowed := true, recurses := true, apart := false }
def LawS0710BPlaceSaid : Prop := lawS0710BPlaceRow.holds Yba.pinned (OpenSpec.ofChange lawS0710BPlaceSpec)

/-- ITS FALSE NEIGHBOUR: 'it returns false'. Refute it at one input. -/
def lawS0710BPlaceWrong : ChangeSpec := { name := "lawS0710BPlace", fn := fun _ => fun
  | [d1, d2, d3, d4, d5, d6, d7, d8] => { results := [.lit (.bool false)], args := [d1, d2, d3, d4, d5, d6, d7, d8] }
  | _ => none }
def LawS0710BPlaceWrongFalsely : Prop := lawS0710BPlaceRow.holds Yba.pinned (OpenSpec.ofChange lawS0710BPlaceWrong)

/-- 'sim.LawS0710CCount': WHATEVER THE INPUT: true; the input reads as it did. -/
def lawS0710CCountSpec : ChangeSpec := { name := "lawS0710CCount", fn := fun _ => fun
  | [d1, d2] => { results := [.lit (.bool true)], args := [d1, d2] }
  | _ => none }
def lawS0710CCountRow : OpenClaim := { program := "ybulknri", sum := "0abdd728d420554d8a8ded787bf263c9a3e58079403cce058f94c37f49a763ab", func := "example.com/tidehelm/tidehelm/internal/sim.LawS0710CCount", spec := "lawS0710CCount", unfollowed := true, recurses := true, apart := false }
def LawS0710CCountSaid : Prop := lawS0710CCountRow.holds Yba.pinned (OpenSpec.ofChange lawS0710CCountSpec)

/-- ITS FALSE NEIGHBOUR: 'it returns false'. Refute it at one input. -/
def lawS0710CCountWrong : ChangeSpec := { name := "lawS0710CCount", fn := fun _ => fun
  | [d1, d2] => { results := [.lit (.bool false)], args := [d1, d2] }
  | _ => none }
def LawS0710CCountWrongFalsely : Prop := lawS0710CCountRow.holds Yba.pinned (OpenSpec.ofChange lawS0710CCountWrong)

/-- 'sim.LawS0710CFollowed': WHATEVER THE INPUT: true; the input reads as it did. -/
def lawS0710CFollowedSpec : ChangeSpec := { name := "lawS0710CFollowed", fn := fun _ => fun
  | [d1, d2, d3, d4] => { results := [.lit (.bool true)], args := [d1, d2, d3, d4] }
  | _ => none }
def lawS0710CFollowedRow : OpenClaim := { program := "ybulknri", sum := "0abdd728d420554d8a8ded787bf263c9a3e58079403cce058f94c37f49a763ab", func := "example.com/tidehelm/tidehelm/internal/sim.LawS0710CFollowed", spec := "lawS0710CFollowed", unfollowed := true, recurses := true, apart := false }
def LawS0710CFollowedSaid : Prop := lawS0710CFollowedRow.holds Yba.pinned (OpenSpec.ofChange lawS0710CFollowedSpec)

/-- ITS FALSE NEIGHBOUR: 'it returns false'. Refute it at one input. -/
def lawS0710CFollowedWrong : ChangeSpec := { name := "lawS0710CFollowed", fn := fun _ => fun
  | [d1, d2, d3, d4] => { results := [.lit (.bool false)], args := [d1, d2, d3, d4] }
  | _ => none }
def LawS0710CFollowedWrongFalsely : Prop := lawS0710CFollowedRow.holds Yba.pinned (OpenSpec.ofChange lawS0710CFollowedWrong)

end Rows
end Go.Proofs.Ybulknri
