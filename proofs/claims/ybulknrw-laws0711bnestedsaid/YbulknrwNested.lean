import Derived.Test.YbulknrwSkip
namespace Go.Proofs.Ybulknrw
open Go.RowKit

/-- What the law reads behind the outer 'try'. -/
structure Facts (n : Nat) (a b ok ran : Bool) (v : Value) (xs : List Int) (w : World) : Prop where
  ca : w.cell? ⟨n, 0, none⟩ = some (.bool a)
  cb : w.cell? ⟨n + 1, 0, none⟩ = some (.bool b)
  cl : w.cell? ⟨n + 1 + 1 + 1 + 1, 0, none⟩ = some v
  co : w.cell? ⟨n + 1 + 1 + 1 + 1 + 1, 0, none⟩ = some (.bool ok)
  cr : w.cell? ⟨n + 1 + 1 + 1 + 1 + 1 + 1, 0, none⟩ = some (.bool ran)
  has : w.ownsRow (n + 9) 3 1 v xs.length (xs.map I)

theorem Facts.below {n : Nat} {a b ok ran : Bool} {v : Value} {xs : List Int} {w w' : World} (h : Facts n a b ok ran v xs w) (hb : Below w.heap.size w w') : Facts n a b ok ran v xs w' :=
  ⟨(hb.cell (p := ⟨n, 0, none⟩) (cell_lt h.ca)).trans h.ca, (hb.cell (p := ⟨n + 1, 0, none⟩) (cell_lt h.cb)).trans h.cb, (hb.cell (p := ⟨n + 1 + 1 + 1 + 1, 0, none⟩) (cell_lt h.cl)).trans h.cl,
    (hb.cell (p := ⟨n + 1 + 1 + 1 + 1 + 1, 0, none⟩) (cell_lt h.co)).trans h.co, (hb.cell (p := ⟨n + 1 + 1 + 1 + 1 + 1 + 1, 0, none⟩) (cell_lt h.cr)).trans h.cr,
    h.has.kept (row := none) ⟨hb.os, hb.tape, hb.output, hb.size, fun j hj _ => hb.block j hj⟩ (by cases v.ownBlock with | none => exact Or.inl rfl | some _ => exact Or.inr (by simp))⟩

theorem news_I2 (W : World) (z y : Int) (E : TypeId) (k : Nat) (hk : k = W.heap.size) : ∀ (j : Nat) v, [I z, I y][j]? = some v → (W.alloc (.cells #[.int .i64 z, .int .i64 y] E)).cell? ((⟨k, 0, none⟩ : Addr).add j) = some v := fun j v h => by
  subst hk
  match j with
  | 0 =>
    simp at h
    subst h
    rw [Addr.add_lit, Nat.add_zero, World.cell?_alloc_new]
    rfl
  | 1 =>
    simp at h
    subst h
    rw [Addr.add_lit, World.cell?_alloc_new]
    rfl
  | j + 2 => simp at h
theorem one_I2 (z y : Int) : ∀ v ∈ [I z, I y], v.oneCell' = true := by
  intro v hv
  simp at hv
  rcases hv with rfl | rfl <;> rfl

/-- The outer 'try' and what stands behind it. -/
theorem outer_try (n : Nat) (p : Value) (pv : Option Addr) (a b : Bool) (w : World) (hs : w.heap.size = n + 9) (h : LogAt w (n + 1 + 1 + 1 + 1) (n + 9) (.slice none 0 0) [])
    (ha : w.cell? ⟨n, 0, none⟩ = some (.bool a)) (hb : w.cell? ⟨n + 1, 0, none⟩ = some (.bool b)) (hp : w.cell? ⟨n + 1 + 1 + 1, 0, none⟩ = some (.pointer pv))
    (hok : w.cell? ⟨n + 1 + 1 + 1 + 1 + 1, 0, none⟩ = some (.bool false)) (hran : w.cell? ⟨n + 1 + 1 + 1 + 1 + 1 + 1, 0, none⟩ = some (.bool false))
    (fok : w.frozen? ⟨n + 1 + 1 + 1 + 1 + 1, 0, none⟩ = false) (fran : w.frozen? ⟨n + 1 + 1 + 1 + 1 + 1 + 1, 0, none⟩ = false)
    (hip : w.cell? ⟨n + 1 + 1 + 1 + 1 + 1 + 1 + 1, 0, none⟩ = some (.func (.func 10) #[] #[.pointer (some ⟨n + 1 + 1 + 1 + 1, 0, none⟩), .pointer (some ⟨n + 1, 0, none⟩)]))
    (his : w.cell? ⟨n + 1 + 1 + 1 + 1 + 1 + 1 + 1 + 1, 0, none⟩ = some (.func (.func 11) #[] #[.pointer (some ⟨n + 1 + 1 + 1 + 1, 0, none⟩)])) :
    Calls Yba.prog 7 #[p, .func (.func 9) #[] #[.pointer (some ⟨n + 1 + 1 + 1 + 1, 0, none⟩), .pointer (some ⟨n, 0, none⟩)],
      .func (.func 12) #[] #[.pointer (some ⟨n + 1 + 1 + 1 + 1, 0, none⟩), .pointer (some ⟨n + 1 + 1 + 1, 0, none⟩), .pointer (some ⟨n + 1 + 1 + 1 + 1 + 1 + 1 + 1, 0, none⟩), .pointer (some ⟨n + 1 + 1 + 1 + 1 + 1 + 1 + 1 + 1, 0, none⟩), .pointer (some ⟨n + 1 + 1 + 1 + 1 + 1, 0, none⟩), .pointer (some ⟨n + 1 + 1 + 1 + 1 + 1 + 1, 0, none⟩)]] w fun e w' =>
      e = .returned (.bool (!a)) ∧ ∃ v, Facts n a b (a && !b) a v (1 :: (if a then (if b then [2, 3, 4, 5] else [2, 3, 5]) else [])) w' ∧ Below n w w' := by
  cases a with
  | false =>
    refine (tryN_ok p _ (n + 1 + 1 + 1 + 1) n (n + 9) _ [] w h ha (by omega) (by omega) 9 1 cf9 (fun W hL hf => parse9 _ _ _ false _ [] W hL hf (by omega) (by omega) (by simp))).mono ?_
    rintro e w5 ⟨rfl, v, hL, hM⟩
    have hc : ∀ k o, k < n + 9 → k ≠ n + 1 + 1 + 1 + 1 → w5.cell? ⟨k, o, none⟩ = w.cell? ⟨k, o, none⟩ := fun k o hk hk2 => hM.cell (by omega) hk2 (h.apart hk)
    exact ⟨rfl, v, ⟨(hc _ _ (by omega) (by omega)).trans ha, (hc _ _ (by omega) (by omega)).trans hb, hL.cell, (hc _ _ (by omega) (by omega)).trans hok, (hc _ _ (by omega) (by omega)).trans hran, hL.own⟩,
      ⟨hM.os, hM.tape, hM.output, hM.size, fun k hk => hM.block k (by omega) (by omega) (h.apart (by omega))⟩⟩
  | true =>
    refine (tryN_no p (n + 1 + 1 + 1 + 1) n (n + 9) _ [] w h ha (by omega) (by omega) 9 1 cf9 (fun W hL hf => parse9 _ _ _ true _ [] W hL hf (by omega) (by omega) (by simp)) 12 _ (cf12 _)
      (fun w' => ∃ v, Facts n true b (!b) true v (1 :: (if b then [2, 3, 4, 5] else [2, 3, 5])) w' ∧ Below n w w') ?_).mono ?_
    · intro W v hL hM
      have hc : ∀ k o, k < n + 9 → k ≠ n + 1 + 1 + 1 + 1 → W.cell? ⟨k, o, none⟩ = w.cell? ⟨k, o, none⟩ := fun k o hk hk2 => hM.cell (by omega) hk2 (h.apart hk)
      have hf : ∀ k o, k < n + 9 → k ≠ n + 1 + 1 + 1 + 1 → W.frozen? ⟨k, o, none⟩ = w.frozen? ⟨k, o, none⟩ := fun k o hk hk2 => hM.frozen (by omega) hk2 (h.apart hk)
      refine (skip12 (n + 9) _ _ _ _ _ _ (n + 1) pv b v _ W hL ((hc _ _ (by omega) (by omega)).trans hb) ((hc _ _ (by omega) (by omega)).trans hp) ((hc _ _ (by omega) (by omega)).trans hip) ((hc _ _ (by omega) (by omega)).trans his)
        ((hc _ _ (by omega) (by omega)).trans hok) ((hc _ _ (by omega) (by omega)).trans hran) ((hf _ _ (by omega) (by omega)).trans fok) ((hf _ _ (by omega) (by omega)).trans fran)
        (by omega) (by omega) (by omega) (by omega) (by omega) (by omega) (by omega) (by omega) (by omega) (by omega) (by omega) (by omega) (by omega) (by simp)).mono ?_
      rintro e w5 ⟨rfl, v5, hL5, k1, k2, hK⟩
      refine ⟨rfl, v5, ⟨(hK.cell (by omega) (by omega) (by omega) (by omega)).trans ((hc _ _ (by omega) (by omega)).trans ha), (hK.cell (by omega) (by omega) (by omega) (by omega)).trans ((hc _ _ (by omega) (by omega)).trans hb), hL5.cell, k1, k2, hL5.own⟩,
        ⟨hK.os.trans hM.os, hK.tape.trans hM.tape, hK.output.trans hM.output, Nat.le_trans hM.size hK.size, fun k hk => (hK.block k (by omega) (by omega) (by omega) (by omega)).trans (hM.block k (by omega) (by omega) (h.apart (by omega)))⟩⟩
    · rintro e w5 ⟨rfl, v5, hF, hB⟩
      exact ⟨rfl, v5, by simpa using hF, hB⟩

set_option maxRecDepth 100000 in
set_option maxHeartbeats 1000000 in
theorem law4_any (a b : Bool) (w : World) :
    Calls Yba.prog 4 #[.bool a, .bool b] w fun e w' => e = .returned (.bool true) ∧ Below w.heap.size w w' := by
  obtain ⟨i0, hi0, hz0, hz1, hz2⟩ := info_parts Yba.info3
  go_enter Yba.func4, Yba.ntmps4
  go_wp2_with fail
  refine calls_abs (fun W => (W.heap.size = w.heap.size + 9 ∧ Below w.heap.size w W) ∧ LogAt W (w.heap.size + 1 + 1 + 1 + 1) (w.heap.size + 9) (.slice none 0 0) [] ∧
    (W.cell? ⟨w.heap.size, 0, none⟩ = some (.bool a) ∧ W.cell? ⟨w.heap.size + 1, 0, none⟩ = some (.bool b) ∧ W.cell? ⟨w.heap.size + 1 + 1 + 1, 0, none⟩ = some (.pointer (some ⟨w.heap.size + 1 + 1, 0, none⟩))) ∧
    (W.cell? ⟨w.heap.size + 1 + 1 + 1 + 1 + 1, 0, none⟩ = some (.bool false) ∧ W.cell? ⟨w.heap.size + 1 + 1 + 1 + 1 + 1 + 1, 0, none⟩ = some (.bool false) ∧ W.frozen? ⟨w.heap.size + 1 + 1 + 1 + 1 + 1, 0, none⟩ = false ∧ W.frozen? ⟨w.heap.size + 1 + 1 + 1 + 1 + 1 + 1, 0, none⟩ = false) ∧
    (W.cell? ⟨w.heap.size + 1 + 1 + 1 + 1 + 1 + 1 + 1, 0, none⟩ = some (.func (.func 10) #[] #[.pointer (some ⟨w.heap.size + 1 + 1 + 1 + 1, 0, none⟩), .pointer (some ⟨w.heap.size + 1, 0, none⟩)]) ∧
      W.cell? ⟨w.heap.size + 1 + 1 + 1 + 1 + 1 + 1 + 1 + 1, 0, none⟩ = some (.func (.func 11) #[] #[.pointer (some ⟨w.heap.size + 1 + 1 + 1 + 1, 0, none⟩)]))) ?_ ?_
  · refine ⟨⟨by simp, ?_⟩, ⟨by simp [go_sem], by simp [go_sem], by omega, World.ownsRow_nil _ _ _ _, by simp⟩, ⟨by simp [go_sem], by simp [go_sem], by simp [go_sem]⟩, ⟨by simp [go_sem], by simp [go_sem], by simp [go_sem], by simp [go_sem]⟩, ⟨by simp [go_sem], by simp [go_sem]⟩⟩
    repeat (first | exact Below.refl _ _ | refine bAlloc ?_ _ | refine Below.setCell ?_ (by show _ ≤ _; simp; try omega) _)
  intro W ⟨⟨hz, hB0⟩, hL, ⟨q1, q2, q3⟩, ⟨q4, q5, q6, q7⟩, q8, q9⟩
  refine (outer_try w.heap.size _ _ a b W hz hL q1 q2 q3 q4 q5 q6 q7 q8 q9).mono ?_
  rintro e w5 ⟨rfl, v, hF, hB1⟩
  have hB := hB0.trans hB1
  have hs5 : w.heap.size + 9 ≤ w5.heap.size := by have := hB1.size; omega
  clear hB0 hB1 hL hz q1 q2 q3 q4 q5 q6 q7 q8 q9
  have hB6 : Below w5.heap.size w5 (w5.alloc (.cells #[.int .i64 1] 3)) := bAlloc (Below.refl _ _) _
  have hF6 := hF.below hB6
  have hO6 : (w5.alloc (.cells #[.int .i64 1] 3)).ownsRow w5.heap.size 3 1 (.slice (some ⟨w5.heap.size, 0, none⟩) 1 1) 1 [I 1] := World.ownsRow_lit w5 #[.int .i64 1] 1 (Nat.le_refl _) (by decide) rfl
  have c1 := hF.ca
  have d1 := hF6.ca
  have hs := cell_lt c1
  cases a with
  | false =>
    have d3 := hF6.cl
    have d4 := hF6.co
    have d5 := hF6.cr
    go_wp2_with fail
    refine (eq_any v _ [1] _ (has_own hF6.has) (has_own (B := w5.heap.size) hO6) (by simp)).mono ?_
    rintro e w7 ⟨rfl, q, rfl⟩
    go_wp2_with fail
    go_ret
    exact ⟨rfl, hB.trans ((hB6.mono (by omega)).trans ⟨rfl, rfl, rfl, Nat.le_refl _, fun _ _ => rfl⟩)⟩
  | true =>
    cases b with
    | false =>
      go_wp2_with (first
        | (at_builtin; refine wpList_append_lies _ rfl (.tmp 30) (.tmp 31) 41 rfl w5.heap.size 3 i0 (.int .i64 0) 1 8 Yba.underlying41 hi0 hz0 hz1 hz2 rfl (by omega) _ _ _ rfl (hO6.alloc _) ⟨w5.heap.size + 1, 0, none⟩ 2 2 [I 2, I 3] rfl rfl (news_I2 _ _ _ _ _ (by simp)) (one_I2 2 3) (by omega) (by unfold maxLen; omega) (by omega) (by simp; omega) (w5.heap.size + 1 + 1) (by simp) ?_; intro g2 cap2 w7 hown2 hgrow2 hat2 hlt2; have hB7 : Below w5.heap.size w5 w7 := (bAlloc hB6 _).grown hgrow2 (by simp; omega) (fun j hj => (hO6.lt j hj).1); have hF7 := hF.below hB7; have e2 := hF7.cb; have hz7 := hB7.size)
        | (at_builtin; refine wpList_append_lies _ rfl (.tmp 37) (.tmp 38) 41 rfl w5.heap.size 3 i0 (.int .i64 0) 1 8 Yba.underlying41 hi0 hz0 hz1 hz2 rfl (by omega) _ _ _ rfl (hown2.alloc _) ⟨w7.heap.size, 0, none⟩ 1 1 [I 5] rfl rfl (news_I _ _ _ _ rfl) (one_I 5) (by omega) (by unfold maxLen; omega) (by omega) (by simp; omega) (w7.heap.size + 1) (by simp) ?_; intro g9 cap9 w9 hown9 hgrow9 hat9 hlt9; have hB9 : Below w5.heap.size w5 w9 := (bAlloc hB7 _).grown hgrow9 (by simp; omega) (fun j hj => (hown2.lt j hj).1); have hF9 := hF.below hB9; have hz9 := hB9.size; have y2 := hF9.cb; have y3 := hF9.cl; have y4 := hF9.co; have y5 := hF9.cr))
      refine (eq_any v _ [1, 2, 3, 5] _ (has_own hF9.has) (has_own (B := w5.heap.size) hown9) (by simp)).mono ?_
      rintro e w10 ⟨rfl, q, rfl⟩
      go_wp2_with fail
      go_ret
      exact ⟨rfl, hB.trans ((hB9.mono (by omega)).trans ⟨rfl, rfl, rfl, Nat.le_refl _, fun _ _ => rfl⟩)⟩
    | true =>
      go_wp2_with (first
        | (at_builtin; refine wpList_append_lies _ rfl (.tmp 30) (.tmp 31) 41 rfl w5.heap.size 3 i0 (.int .i64 0) 1 8 Yba.underlying41 hi0 hz0 hz1 hz2 rfl (by omega) _ _ _ rfl (hO6.alloc _) ⟨w5.heap.size + 1, 0, none⟩ 2 2 [I 2, I 3] rfl rfl (news_I2 _ _ _ _ _ (by simp)) (one_I2 2 3) (by omega) (by unfold maxLen; omega) (by omega) (by simp; omega) (w5.heap.size + 1 + 1) (by simp) ?_; intro g2 cap2 w7 hown2 hgrow2 hat2 hlt2; have hB7 : Below w5.heap.size w5 w7 := (bAlloc hB6 _).grown hgrow2 (by simp; omega) (fun j hj => (hO6.lt j hj).1); have hF7 := hF.below hB7; have e2 := hF7.cb; have hz7 := hB7.size)
        | (at_builtin; refine wpList_append_lies _ rfl (.tmp 34) (.tmp 35) 41 rfl w5.heap.size 3 i0 (.int .i64 0) 1 8 Yba.underlying41 hi0 hz0 hz1 hz2 rfl (by omega) _ _ _ rfl (hown2.alloc _) ⟨w7.heap.size, 0, none⟩ 1 1 [I 4] rfl rfl (news_I _ _ _ _ rfl) (one_I 4) (by omega) (by unfold maxLen; omega) (by omega) (by simp; omega) (w7.heap.size + 1) (by simp) ?_; intro g8 cap8 w8 hown8 hgrow8 hat8 hlt8; have hB8 : Below w5.heap.size w5 w8 := (bAlloc hB7 _).grown hgrow8 (by simp; omega) (fun j hj => (hown2.lt j hj).1); have hF8 := hF.below hB8; have hz8 := hB8.size)
        | (at_builtin; refine wpList_append_lies _ rfl (.tmp 37) (.tmp 38) 41 rfl w5.heap.size 3 i0 (.int .i64 0) 1 8 Yba.underlying41 hi0 hz0 hz1 hz2 rfl (by omega) _ _ _ rfl (hown8.alloc _) ⟨w8.heap.size, 0, none⟩ 1 1 [I 5] rfl rfl (news_I _ _ _ _ rfl) (one_I 5) (by omega) (by unfold maxLen; omega) (by omega) (by simp; omega) (w8.heap.size + 1) (by simp) ?_; intro g9 cap9 w9 hown9 hgrow9 hat9 hlt9; have hB9 : Below w5.heap.size w5 w9 := (bAlloc hB8 _).grown hgrow9 (by simp; omega) (fun j hj => (hown8.lt j hj).1); have hF9 := hF.below hB9; have hz9 := hB9.size; have y2 := hF9.cb; have y3 := hF9.cl; have y4 := hF9.co; have y5 := hF9.cr))
      refine (eq_any v _ [1, 2, 3, 4, 5] _ (has_own hF9.has) (has_own (B := w5.heap.size) hown9) (by simp)).mono ?_
      rintro e w10 ⟨rfl, q, rfl⟩
      go_wp2_with fail
      go_ret
      exact ⟨rfl, hB.trans ((hB9.mono (by omega)).trans ⟨rfl, rfl, rfl, Nat.le_refl _, fun _ _ => rfl⟩)⟩
end Go.Proofs.Ybulknrw
