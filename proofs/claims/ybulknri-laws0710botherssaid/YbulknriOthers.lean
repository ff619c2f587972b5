import Derived.Test.YbulknriOpen
namespace Go.Proofs.Ybulknri.lawS0710BOthers
open Go.ChangeShapes Go.WideShapes Go.ChangeAt Go.RowKit
open Go.ChangeMaps (open_string shut_string)
set_option linter.unusedVariables false

theorem own : ownKnob Yba.prog.godebug = none := by kernel_rfl
theorem laidOut : laidOutB Yba.prog = true := by kernel_rfl

set_option maxRecDepth 100000 in
theorem agg7 {H : Type} {enc : TypeId × Value → H} {W : World} {base : Nat} {spare : Nat → Bool} {held : Bool} {v : Value} {d : DataW H} {p : List MemPlace} {r : Reach} {b0 : Nat}
    (hv : Value.okWide Yba.prog W r b0 24 v) (h : DataW.Trod enc Yba.prog W base spare held 24 v d p) :
    ∃ (t o : Int) (r : Bool) (d n l i : Int), v = .agg #[.int .i64 t, .int .u64 o, .bool r, .int .i64 d, .int .i64 n, .int .u64 l, .int .u64 i] := by
  obtain ⟨cs, rfl, _⟩ := okWide_struct Yba.underlying24 hv
  obtain ⟨m, hm⟩ := h
  obtain ⟨t, o, r, d, n, l, i, e⟩ := hgt_of hm
  exact ⟨t, o, r, d, n, l, i, by simp only [Value.cells] at e; rw [← e]⟩
set_option maxRecDepth 100000 in
theorem agg3 {H : Type} {enc : TypeId × Value → H} {W : World} {base : Nat} {spare : Nat → Bool} {held : Bool} {v : Value} {d : DataW H} {p : List MemPlace} {r : Reach} {b0 : Nat}
    (hv : Value.okWide Yba.prog W r b0 26 v) (h : DataW.Trod enc Yba.prog W base spare held 26 v d p) :
    ∃ (a b c : Int), v = .agg #[.int .u64 a, .int .u64 b, .int .i64 c] := by
  obtain ⟨cs, rfl, _⟩ := okWide_struct Yba.underlying26 hv
  obtain ⟨m, hm⟩ := h
  obtain ⟨a, b, c, e⟩ := sub_of hm
  exact ⟨a, b, c, by simp only [Value.cells] at e; rw [← e]⟩

set_option maxRecDepth 100000 in
theorem lifted (os : Os) (started : os.Started) (H : Type) (enc : TypeId × Value → H) :
    ReturnsInHanded {} Yba.checked os 4 .any (Rows.lawS0710BOthersSpec.pre6 enc Yba.prog Yba.f4 Rows.lawS0710BOthersRow.domain false) (Rows.lawS0710BOthersSpec.post enc Yba.prog Yba.f4 false true false false) := by
  refine returnsInHanded_of_change (C := Yba.checked) own started (by kernel_rfl) Yba.func4
    (ChangeSpec.witness6 (enc := enc) (C := Yba.checked) false ⟨#[], #[.agg #[.int .i64 0, .int .u64 0, .bool false, .int .i64 0, .int .i64 0, .int .u64 0, .int .u64 0], .agg #[.int .i64 0, .int .u64 0, .bool false, .int .i64 0, .int .i64 0, .int .u64 0, .int .u64 0],
      .agg #[.int .u64 0, .int .u64 0, .int .i64 0], .int .u64 0, .int .i64 0, .int .i64 0, .bool false, .slice none 0 0], []⟩ 8 (by kernel_rfl) (by kernel_rfl) (by kernel_rfl) (by kernel_rfl)) ?_
  intro W base args ds gs before hval0 hW hcnd _
  have hval : ∀ (j : Nat) t v, Yba.f4.params[j]? = some t → args[j]? = some v → Value.okWide Yba.prog W .any base t v := hval0
  have hW' := hW
  obtain ⟨p, q, hA0, hV, rfl, hfz, hnd⟩ := hW
  have hA : DataW.TrodAll enc Yba.prog W 0 (fun _ => true) true Yba.f4.params.toList args.toList ds p := hA0
  rw [Yba.params4] at hA hval
  obtain ⟨v0, vs0, d0, ds0, p0, q0, hargs, rfl, rfl, h0, r0⟩ := trodAll_cons hA
  obtain ⟨v1, vs1, d1, ds1, p1, q1, rfl, rfl, rfl, h1, r1⟩ := trodAll_cons r0
  obtain ⟨v2, vs2, d2, ds2, p2, q2, rfl, rfl, rfl, h2, r2⟩ := trodAll_cons r1
  obtain ⟨v3, vs3, d3, ds3, p3, q3, rfl, rfl, rfl, h3, r3⟩ := trodAll_cons r2
  obtain ⟨v4, vs4, d4, ds4, p4, q4, rfl, rfl, rfl, h4, r4⟩ := trodAll_cons r3
  obtain ⟨v5, vs5, d5, ds5, p5, q5, rfl, rfl, rfl, h5, r5⟩ := trodAll_cons r4
  obtain ⟨v6, vs6, d6, ds6, p6, q6, rfl, rfl, rfl, h6, r6⟩ := trodAll_cons r5
  obtain ⟨v7, vs7, d7, ds7, p7, q7, rfl, rfl, rfl, h7, r7⟩ := trodAll_cons r6
  obtain ⟨rfl, rfl, rfl⟩ := trodAll_nil r7
  obtain rfl : args = #[v0, v1, v2, v3, v4, v5, v6, v7] := by cases args; simp_all
  obtain ⟨rfl, rfl⟩ := trodVars_none hV
  have lt : ∀ {t : TypeId} {v : Value} {d : DataW H} {p : List MemPlace}, DataW.Trod enc Yba.prog W 0 (fun _ => true) true t v d p → ∀ x ∈ p, x.block < W.heap.size := fun h => by obtain ⟨m, hm⟩ := h; exact DataW.trod_lt m _ _ _ hm
  obtain ⟨t, o, r, d, n, l, i, rfl⟩ := agg7 (hval 0 24 v0 rfl rfl) h0
  obtain ⟨t', o', r', d', n', l', i', rfl⟩ := agg7 (hval 1 24 v1 rfl rfl) h1
  obtain ⟨sl, sp, sd, rfl⟩ := agg3 (hval 2 26 v2 rfl rfl) h2
  obtain ⟨via, rfl, rfl, rfl, w3⟩ := open_int Yba.underlying22 (hval 3 22 v3 rfl rfl) h3
  obtain ⟨oth, rfl, rfl, rfl, w4⟩ := open_int Yba.underlying3 (hval 4 3 v4 rfl rfl) h4
  obtain ⟨rem, rfl, rfl, rfl, w5⟩ := open_int Yba.underlying2 (hval 5 2 v5 rfl rfl) h5
  obtain ⟨anew, rfl, rfl, rfl⟩ := open_bool Yba.underlying4 (hval 6 4 v6 rfl rfl) h6
  obtain ⟨a7, len, cap, rfl⟩ := okWide_slice Yba.underlying27 (hval 7 27 v7 rfl rfl)
  have fin : Calls Yba.prog 4 #[.agg #[.int .i64 t, .int .u64 o, .bool r, .int .i64 d, .int .i64 n, .int .u64 l, .int .u64 i], .agg #[.int .i64 t', .int .u64 o', .bool r', .int .i64 d', .int .i64 n', .int .u64 l', .int .u64 i'],
      .agg #[.int .u64 sl, .int .u64 sp, .int .i64 sd], .int .u64 via, .int .i64 oth, .int .i64 rem, .bool anew, .slice a7 len cap] W
      fun e w' => e = .returned (.bool true) ∧ Below W.heap.size W w' := by
    by_cases hlen : len ≤ 1024
    · by_cases hz : len = 0
      · subst hz
        exact oth_nil t o r d n l i t' o' r' d' n' l' i' sl sp sd via oth rem anew a7 cap W
      · obtain ⟨m, hm⟩ := h7
        obtain ⟨b, off, rfl, L, hL⟩ := links_of hm (by omega)
        exact oth_some t o r d n l i t' o' r' d' n' l' i' sl sp sd via oth rem anew b off len cap L W hlen hL
    · have hml : len ≤ maxLen := by
        obtain ⟨m, hm⟩ := h7
        rcases Deep.open_slice Yba.underlying27 hm with ⟨hcs, _⟩ | ⟨a', len', cap', m', n', D, Pl, hcs, _, hlc, hmx, _⟩
        · simp [Value.cells] at hcs; omega
        · simp only [Value.cells, List.cons.injEq, Value.slice.injEq, and_true] at hcs
          obtain ⟨_, rfl, rfl⟩ := hcs
          omega
      exact oth_long t o r d n l i t' o' r' d' n' l' i' sl sp sd via oth rem anew a7 len cap W (by omega) hml
  clear hA0 hval0
  refine fin.mono fun e W' ⟨he, bel⟩ => ?_
  subst he
  exact ⟨_, rfl, _, _, _, [], _, [], hW', trodAll_mk1 (shut_bool Yba.underlying4 _),
    (trodAll_cons_mk (Below.trod laidOut (by kernel_rfl) (of_decide_eq_true (by kernel_rfl)) h0 bel (lt h0))
    (trodAll_cons_mk (Below.trod laidOut (by kernel_rfl) (of_decide_eq_true (by kernel_rfl)) h1 bel (lt h1))
    (trodAll_cons_mk (Below.trod laidOut (by kernel_rfl) (of_decide_eq_true (by kernel_rfl)) h2 bel (lt h2))
    (trodAll_cons_mk (shut_int Yba.underlying22 w3)
    (trodAll_cons_mk (shut_int Yba.underlying3 w4)
    (trodAll_cons_mk (shut_int Yba.underlying2 w5)
    (trodAll_cons_mk (shut_bool Yba.underlying4 _)
    (trodAll_cons_mk (Below.trod laidOut (by kernel_rfl) (of_decide_eq_true (by kernel_rfl)) h7 bel (lt h7)) trodAll_mk0)))))))), rfl, bel.frame _, fun h => by cases h⟩

theorem over : Rows.lawS0710BOthersRow.holds Yba.pinned (OpenSpec.ofChange Rows.lawS0710BOthersSpec) :=
  OpenClaim.holds_of_wide 4 Yba.f4 rfl rfl rfl rfl rfl rfl rfl ⟨rfl, rfl, rfl, rfl, rfl⟩ rfl rfl rfl rfl rfl (by kernel_rfl) Yba.func4 (by kernel_rfl)
    (of_decide_eq_true (by kernel_rfl)) (by unfold Func.isWrapper; first | (rw [if_pos (by decide +kernel)]; kernel_rfl) | (rw [if_neg (by decide +kernel)]; exact ⟨rfl, rfl⟩))
    (fun os started H enc _ => lifted os started H enc)

/-- The statement. -/
theorem proved : Rows.LawS0710BOthersSaid := over
#print axioms proved
end Go.Proofs.Ybulknri.lawS0710BOthers
