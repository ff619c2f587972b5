/-
  THE SHELL OF A PROOF OF 'Rows.LawS0712BExactSaid' ('example.com/merkweave/merkweave/unixfs.LawS0712BExact'), WRITTEN BY PROGRAM (proof-skeleton.mjs) off the guide's own print for that function. Not trusted: Lean checks it.
  The holes are filled.
-/
import Derived.Test.YbulknskRows
import Derived.Test.YbulknskJoin
import Derived.WalkKit
import Derived.WalkSpells
import Derived.WalkLawsBesides
import Derived.Deep.QuietTactic
import Derived.BigQuiet
import Derived.ProofKit
import Derived.OpenShut
import Derived.ShutString
namespace Go.Proofs.Ybulknsk.lawS0712BExact
open Go.ChangeShapes Go.WideShapes Go.ChangeAt Go.RowKit
open Go.ChangeMaps (open_string shut_string)
set_option linter.unusedVariables false      -- a walk need not use every 'w<i>' (that an integer argument fits its kind)

theorem grown_drewN (w : World) (q : Nat) : Grown w (w.drewN q) := by
  have h := Grown.refl w
  exact h

theorem own : ownKnob Yba.prog.godebug = none := by kernel_rfl

/-! ### STEP 1: THE WALK: the Go text returns true. 'Grown w w'': the world has at most new blocks (Derived/RowKit3.lean). Part the cases AHEAD of 'go_enter' where a test parts the walk; take each callee by a contract of your own. -/
set_option maxHeartbeats 400000 in
theorem child_dot (dir nm : ByteArray) (w : World) (h : (dir.toList == [46]) = true) :
    Calls Yba.prog 7 #[.string dir, .string nm] w fun e w' => e = .returned (.string nm) ∧ w' = w := by
  go_enter Yba.func7, Yba.ntmps7
  go_wp2
  go_ret
  exact ⟨rfl, rfl⟩

set_option maxHeartbeats 400000 in
theorem child_other (dir nm : ByteArray) (w : World) (h1 : dir.size ≤ 1048576) (h2 : nm.size ≤ 1048576) (h : (dir.toList == [46]) = false) :
    Calls Yba.prog 7 #[.string dir, .string nm] w fun e w' => e = .returned (.string ((dir ++ ⟨#[47]⟩) ++ nm)) ∧ w' = w := by
  go_enter Yba.func7, Yba.ntmps7
  go_wp2
  go_ret
  exact ⟨rfl, rfl⟩

set_option maxHeartbeats 1000000 in
theorem walk (a0 : ByteArray) (a1 : ByteArray) (w0 : a0.size ≤ maxLen) (w1 : a1.size ≤ maxLen) (w : World) :
    Calls Yba.prog 3 #[.string a0, .string a1] w fun e w' => e = .returned (.bool true) ∧ Grown w w' := by
  unfold maxLen at w0 w1
  by_cases h0 : 1048576 < a0.size
  · go_enter Yba.func3, Yba.ntmps3
    go_wp2_with fail
    go_ret
    exact ⟨rfl, Grown.refl _⟩
  · have hd0 : decide (1048576 < (a0.size : Int)) = false := by simp; omega
    by_cases h1 : 1048576 < a1.size
    · go_enter Yba.func3, Yba.ntmps3
      go_wp2_with fail
      go_ret
      exact ⟨rfl, Grown.refl _⟩
    · have hd1 : decide (1048576 < (a1.size : Int)) = false := by simp; omega
      cases hdot : a0.toList == [46] with
      | true =>
        go_enter Yba.func3, Yba.ntmps3
        go_wp2_with fail
        refine (child_dot a0 a1 _ hdot).mono ?_
        rintro e w2 ⟨rfl, rfl⟩
        go_wp2_with fail
        go_ret
        exact ⟨by simp, Grown.refl _⟩
      | false =>
        obtain ⟨g, hg, hgs, hg0, hgm, hg1⟩ := joined a0 a1
        have hc := child_other a0 a1 w (by omega) (by omega) hdot
        rw [hg] at hc
        have HG : Hid (g.size = a0.size + 1 + a1.size) := hgs
        have HG0 : Hid (∀ k (h1 : k < g.size) (h2 : k < a0.size), g[k] = a0[k]) := hg0
        have HG1 : Hid (∀ k (h1 : a0.size + 1 + k < g.size) (h2 : k < a1.size), g[a0.size + 1 + k] = a1[k]) := hg1
        have HGM : Hid (∀ h : a0.size < g.size, g[a0.size] = 47) := hgm
        have hs1 : g.size ≤ a0.size + 1 + a1.size := by omega
        have hs2 : a0.size + 1 + a1.size ≤ g.size := by omega
        clear hg hgs hg0 hgm hg1
        go_enter Yba.func3, Yba.ntmps3
        go_wp2_with fail
        refine hc.mono ?_
        rintro e w2 ⟨rfl, rfl⟩
        clear hc
        have hb0 : ((g.size : Int) != (a0.size : Int) + 1 + (a1.size : Int)) = false := by rw [HG.out]; simp
        go_wp2_with fail
        go_loopw [6] (fun i wr => ∃ k q : Nat, k ≤ a0.size ∧ i = .int .i64 k ∧ wr = w2.drewN q) (fun i _ => a0.size - (intOf i).toNat)
        case atStart => exact ⟨0, 0, Nat.zero_le _, rfl, rfl⟩
        case round =>
          obtain ⟨k, q, hk, rfl, rfl⟩ := hrel
          by_cases hlt : k < a0.size
          · have hk0 : (0 : Int) ≤ (k : Int) := by omega
            have hk1 : (k : Int) < (a0.size : Int) := by omega
            have hk2 : k < g.size := by omega
            have hk3 : (k : Int) < (g.size : Int) := by omega
            have hb : ((g[k].toNat : Int) != (a0[k].toNat : Int)) = false := by rw [HG0.out k hk2 hlt]; simp
            go_wp2_with fail
            go_quiet (fail)
            go_wp2_with fail
            exact ⟨⟨k + 1, _, by omega, by go_num, rfl⟩, by simp [intOf]; omega⟩
          · obtain rfl : k = a0.size := by omega
            have hm2 : a0.size < g.size := by omega
            have hm3 : (a0.size : Int) < (g.size : Int) := by omega
            have hm0 : (0 : Int) ≤ (a0.size : Int) := by omega
            have hbm : ((g[a0.size].toNat : Int) != 47) = false := by rw [HGM.out hm2]; simp
            clear hlt hk
            go_wp2_with fail
            go_loopw [7] (fun i wr => ∃ k q : Nat, k ≤ a1.size ∧ i = .int .i64 k ∧ wr = w2.drewN q) (fun i _ => a1.size - (intOf i).toNat)
            case atStart => exact ⟨0, q, Nat.zero_le _, rfl, rfl⟩
            case round =>
              obtain ⟨k, q, hk, rfl, rfl⟩ := hrel
              by_cases hlt : k < a1.size
              · have hk0 : (0 : Int) ≤ (k : Int) := by omega
                have hk1 : (k : Int) < (a1.size : Int) := by omega
                have hk2 : a0.size + 1 + k < g.size := by omega
                have hk3 : (a0.size : Int) + 1 + (k : Int) < (g.size : Int) := by omega
                have hk4 : (0 : Int) ≤ (a0.size : Int) + 1 + (k : Int) := by omega
                have hk5 : ((a0.size : Int) + 1 + (k : Int)).toNat = a0.size + 1 + k := by omega
                have hb : ((g[a0.size + 1 + k].toNat : Int) != (a1[k].toNat : Int)) = false := by rw [HG1.out k hk2 hlt]; simp
                go_wp2_with fail
                go_quiet (fail)
                go_wp2_with fail
                exact ⟨⟨k + 1, _, by omega, by go_num, rfl⟩, by simp [intOf]; omega⟩
              · go_wp2_with fail
                go_ret
                exact ⟨rfl, grown_drewN _ _⟩

/-! ### THE ROW's STEP: WRITTEN OUT: LEAVE IT -/
set_option maxRecDepth 100000 in
theorem lifted (os : Os) (started : os.Started) (H : Type) (enc : TypeId × Value → H) :
    ReturnsInHanded {} Yba.checked os 3 .any (Rows.lawS0712BExactSpec.pre6 enc Yba.prog Yba.f3 Rows.lawS0712BExactRow.domain false) (Rows.lawS0712BExactSpec.post enc Yba.prog Yba.f3 false true false false) := by
  refine returnsInHanded_of_change (C := Yba.checked) own started (by kernel_rfl) Yba.func3
    (ChangeSpec.witness6 (enc := enc) (C := Yba.checked) false ⟨#[], #[.string ByteArray.empty, .string ByteArray.empty], []⟩ 8 (by kernel_rfl) (by kernel_rfl) (by kernel_rfl) (by kernel_rfl)) ?_
  intro W base args ds gs before hval0 hW hcnd _
  have hval : ∀ (j : Nat) t v, Yba.f3.params[j]? = some t → args[j]? = some v → Value.okWide Yba.prog W .any base t v := hval0
  have hW' := hW
  obtain ⟨p, q, hA0, hV, rfl, hfz, hnd⟩ := hW
  have hA : DataW.TrodAll enc Yba.prog W 0 (fun _ => true) true Yba.f3.params.toList args.toList ds p := hA0
  rw [Yba.params3] at hA hval
  obtain ⟨v0, vs0, d0, ds0, p0, q0, hargs, rfl, rfl, h0, r0⟩ := trodAll_cons hA
  obtain ⟨v1, vs1, d1, ds1, p1, q1, rfl, rfl, rfl, h1, r1⟩ := trodAll_cons r0
  obtain ⟨rfl, rfl, rfl⟩ := trodAll_nil r1
  obtain rfl : args = #[v0, v1] := by cases args; simp_all
  obtain ⟨rfl, rfl⟩ := trodVars_none hV
  obtain ⟨a0, rfl, rfl, rfl, w0⟩ := open_string Yba.underlying9 (hval 0 9 v0 rfl rfl) h0
  obtain ⟨a1, rfl, rfl, rfl, w1⟩ := open_string Yba.underlying9 (hval 1 9 v1 rfl rfl) h1
  clear hA0 hval0
  simp only [List.append_nil] at hW'
  refine (walk a0 a1 w0 w1 W).mono fun e W' ⟨he, hg⟩ => ?_
  subst he
  exact ⟨_, rfl, post_of_same (pa := []) (pv := []) hW' (fun _ _ _ => (trodAll_cons_mk (shut_bool Yba.underlying4 _) trodAll_mk0)) (fun sp _ => (trodAll_cons_mk (shut_string Yba.underlying9 w0) (trodAll_cons_mk (shut_string Yba.underlying9 w1) trodAll_mk0))) (fun _ _ => rfl) rfl
    (hg.frame _) hg.2.1 (ok_one (by kernel_rfl) rfl (okWide_bool_mk Yba.underlying4 _))⟩

theorem over : Rows.lawS0712BExactRow.holds Yba.pinned (OpenSpec.ofChange Rows.lawS0712BExactSpec) :=
  OpenClaim.holds_of_wide 3 Yba.f3 rfl rfl rfl rfl rfl rfl rfl ⟨rfl, rfl, rfl, rfl, rfl⟩ rfl rfl rfl rfl rfl (by kernel_rfl) Yba.func3 (by kernel_rfl)
    (of_decide_eq_true (by kernel_rfl)) (by unfold Func.isWrapper; first | (rw [if_pos (by decide +kernel)]; kernel_rfl) | (rw [if_neg (by decide +kernel)]; exact ⟨rfl, rfl⟩))
    (fun os started H enc _ => lifted os started H enc)

/-- ████ THE STATEMENT ████ -/
theorem proved : Rows.LawS0712BExactSaid :=
  over
#print axioms proved
end Go.Proofs.Ybulknsk.lawS0712BExact
