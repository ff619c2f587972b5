import Derived.Test.YbulknriOpenC
import Derived.Test.YbulknriCount
namespace Go.Proofs.Ybulknri.lawS0710CCount
open Go.ChangeShapes Go.WideShapes Go.ChangeAt Go.RowKit
set_option linter.unusedVariables false

theorem own : ownKnob Yba.prog.godebug = none := by kernel_rfl
theorem laidOut : laidOutB Yba.prog = true := by kernel_rfl

set_option maxRecDepth 100000 in
theorem lifted (os : Os) (started : os.Started) (H : Type) (enc : TypeId × Value → H) :
    ReturnsInHanded {} Yba.checked os 6 .any (Rows.lawS0710CCountSpec.pre6 enc Yba.prog Yba.f6 Rows.lawS0710CCountRow.domain false) (Rows.lawS0710CCountSpec.post enc Yba.prog Yba.f6 false true false false) := by
  refine returnsInHanded_of_change (C := Yba.checked) own started (by kernel_rfl) Yba.func6
    (ChangeSpec.witness6 (enc := enc) (C := Yba.checked) false ⟨#[], #[.slice none 0 0, .slice none 0 0], []⟩ 8 (by kernel_rfl) (by kernel_rfl) (by kernel_rfl) (by kernel_rfl)) ?_
  intro W base args ds gs before hval0 hW hcnd _
  have hval : ∀ (j : Nat) t v, Yba.f6.params[j]? = some t → args[j]? = some v → Value.okWide Yba.prog W .any base t v := hval0
  have hW' := hW
  obtain ⟨p, q, hA0, hV, rfl, hfz, hnd⟩ := hW
  have hA : DataW.TrodAll enc Yba.prog W 0 (fun _ => true) true Yba.f6.params.toList args.toList ds p := hA0
  rw [Yba.params6] at hA hval
  obtain ⟨v0, vs0, d0, ds0, p0, q0, hargs, rfl, rfl, h0, r0⟩ := trodAll_cons hA
  obtain ⟨v1, vs1, d1, ds1, p1, q1, rfl, rfl, rfl, h1, r1⟩ := trodAll_cons r0
  obtain ⟨rfl, rfl, rfl⟩ := trodAll_nil r1
  obtain rfl : args = #[v0, v1] := by cases args; simp_all
  obtain ⟨rfl, rfl⟩ := trodVars_none hV
  have lt : ∀ {t : TypeId} {v : Value} {d : DataW H} {p : List MemPlace}, DataW.Trod enc Yba.prog W 0 (fun _ => true) true t v d p → ∀ x ∈ p, x.block < W.heap.size := fun h => by obtain ⟨m, hm⟩ := h; exact DataW.trod_lt m _ _ _ hm
  obtain ⟨a0, len0, cap0, rfl⟩ := okWide_slice Yba.underlying40 (hval 0 40 v0 rfl rfl)
  obtain ⟨a1, len1, cap1, rfl⟩ := okWide_slice Yba.underlying41 (hval 1 41 v1 rfl rfl)
  have fin : Calls Yba.prog 6 #[.slice a0 len0 cap0, .slice a1 len1 cap1] W fun e w' => e = .returned (.bool true) ∧ Below W.heap.size W w' := by
    obtain ⟨m0, hm0⟩ := h0
    obtain ⟨m1, hm1⟩ := h1
    by_cases hlen : len0 ≤ 256 ∧ len1 ≤ 1024
    · obtain ⟨b, o, ld, hla, hld⟩ := bytes_of hm0
      obtain ⟨eb, eo, ex, ey, hea, hE⟩ := edges_of hm1
      exact law6_any len0 len1 cap0 cap1 b o eb eo a0 a1 ld ex ey W hlen.1 hlen.2 hla hld hea hE
    · exact law6_long a0 a1 len0 len1 cap0 cap1 W (len_le Yba.underlying40 hm0) (len_le Yba.underlying41 hm1) (by omega)
  clear hA0 hval0
  refine fin.mono fun e W' ⟨he, bel⟩ => ?_
  subst he
  exact ⟨_, rfl, _, _, _, [], _, [], hW', trodAll_mk1 (shut_bool Yba.underlying4 _),
    (trodAll_cons_mk (Below.trod laidOut (by kernel_rfl) (of_decide_eq_true (by kernel_rfl)) h0 bel (lt h0))
    (trodAll_cons_mk (Below.trod laidOut (by kernel_rfl) (of_decide_eq_true (by kernel_rfl)) h1 bel (lt h1)) trodAll_mk0)), rfl, bel.frame _, fun h => by cases h⟩

theorem over : Rows.lawS0710CCountRow.holds Yba.pinned (OpenSpec.ofChange Rows.lawS0710CCountSpec) :=
  OpenClaim.holds_of_wide 6 Yba.f6 rfl rfl rfl rfl rfl rfl rfl ⟨rfl, rfl, rfl, rfl, rfl⟩ rfl rfl rfl rfl rfl (by kernel_rfl) Yba.func6 (by kernel_rfl)
    (of_decide_eq_true (by kernel_rfl)) (by unfold Func.isWrapper; first | (rw [if_pos (by decide +kernel)]; kernel_rfl) | (rw [if_neg (by decide +kernel)]; exact ⟨rfl, rfl⟩))
    (fun os started H enc _ => lifted os started H enc)

/-- The statement. -/
theorem proved : Rows.LawS0710CCountSaid := over
#print axioms proved
end Go.Proofs.Ybulknri.lawS0710CCount
