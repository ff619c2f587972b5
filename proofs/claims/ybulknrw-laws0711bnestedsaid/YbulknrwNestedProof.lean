import Derived.Test.YbulknrwRows
import Derived.WalkKit
import Derived.ProofKit
import Derived.OpenShut
import Derived.Test.YbulknrwNested
namespace Go.Proofs.Ybulknrw.lawS0711BNested
open Go.ChangeShapes Go.WideShapes Go.ChangeAt Go.RowKit
set_option linter.unusedVariables false

theorem own : ownKnob Yba.prog.godebug = none := by kernel_rfl

set_option maxRecDepth 100000 in
theorem lifted (os : Os) (started : os.Started) (H : Type) (enc : TypeId × Value → H) :
    ReturnsInHanded {} Yba.checked os 4 .any (Rows.lawS0711BNestedSpec.pre6 enc Yba.prog Yba.f4 Rows.lawS0711BNestedRow.domain false) (Rows.lawS0711BNestedSpec.post enc Yba.prog Yba.f4 false true false false) := by
  refine returnsInHanded_of_change (C := Yba.checked) own started (by kernel_rfl) Yba.func4
    (ChangeSpec.witness6 (enc := enc) (C := Yba.checked) false ⟨#[], #[.bool false, .bool false], []⟩ 8 (by kernel_rfl) (by kernel_rfl) (by kernel_rfl) (by kernel_rfl)) ?_
  intro W base args ds gs before hval0 hW hcnd _
  have hval : ∀ (j : Nat) t v, Yba.f4.params[j]? = some t → args[j]? = some v → Value.okWide Yba.prog W .any base t v := hval0
  have hW' := hW
  obtain ⟨p, q, hA0, hV, rfl, hfz, hnd⟩ := hW
  have hA : DataW.TrodAll enc Yba.prog W 0 (fun _ => true) true Yba.f4.params.toList args.toList ds p := hA0
  rw [Yba.params4] at hA hval
  obtain ⟨v0, vs0, d0, ds0, p0, q0, hargs, rfl, rfl, h0, r0⟩ := trodAll_cons hA
  obtain ⟨v1, vs1, d1, ds1, p1, q1, rfl, rfl, rfl, h1, r1⟩ := trodAll_cons r0
  obtain ⟨rfl, rfl, rfl⟩ := trodAll_nil r1
  obtain rfl : args = #[v0, v1] := by cases args; simp_all
  obtain ⟨rfl, rfl⟩ := trodVars_none hV
  obtain ⟨a0, rfl, rfl, rfl⟩ := open_bool Yba.underlying4 (hval 0 4 v0 rfl rfl) h0
  obtain ⟨a1, rfl, rfl, rfl⟩ := open_bool Yba.underlying4 (hval 1 4 v1 rfl rfl) h1
  have fin : Calls Yba.prog 4 #[.bool a0, .bool a1] W fun e w' => e = .returned (.bool true) ∧ Below W.heap.size W w' := law4_any a0 a1 W
  clear hA0 hval0
  refine fin.mono fun e W' ⟨he, bel⟩ => ?_
  subst he
  exact ⟨_, rfl, _, _, _, [], _, [], hW', trodAll_mk1 (shut_bool Yba.underlying4 _),
    (trodAll_cons_mk (shut_bool Yba.underlying4 _) (trodAll_cons_mk (shut_bool Yba.underlying4 _) trodAll_mk0)), rfl, bel.frame _, fun h => by cases h⟩

theorem over : Rows.lawS0711BNestedRow.holds Yba.pinned (OpenSpec.ofChange Rows.lawS0711BNestedSpec) :=
  OpenClaim.holds_of_wide 4 Yba.f4 rfl rfl rfl rfl rfl rfl rfl ⟨rfl, rfl, rfl, rfl, rfl⟩ rfl rfl rfl rfl rfl (by kernel_rfl) Yba.func4 (by kernel_rfl)
    (of_decide_eq_true (by kernel_rfl)) (by unfold Func.isWrapper; first | (rw [if_pos (by decide +kernel)]; kernel_rfl) | (rw [if_neg (by decide +kernel)]; exact ⟨rfl, rfl⟩))
    (fun os started H enc _ => lifted os started H enc)

/-- The statement. -/
theorem proved : Rows.LawS0711BNestedSaid := over
#print axioms proved
end Go.Proofs.Ybulknrw.lawS0711BNested
