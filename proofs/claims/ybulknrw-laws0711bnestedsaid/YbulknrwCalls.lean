import Derived.Test.YbulknrwEq
namespace Go.Proofs.Ybulknrw
open Go.RowKit

theorem calls_abs {P : Program} {f : FuncId} {args : Array Value} {W : World} {Q : Ending → World → Prop} (F : World → Prop) (hF : F W) (h : ∀ W' : World, F W' → Calls P f args W' Q) : Calls P f args W Q := h W hF

theorem cf5 (caps : Array Value) (W : World) : (callFunc 5 caps).run Yba.prog W = .ok (.enter 5 caps) W := by simp [go_sem]
theorem cf6 (caps : Array Value) (W : World) : (callFunc 6 caps).run Yba.prog W = .ok (.enter 6 caps) W := by simp [go_sem]

/-- What 'try' does to the log here. -/
theorem try_ok (p sv : Value) (sb lb fb B st : Nat) (v : Value) (w : World) (h : LogAt w lb B v []) (hs : w.cell? ⟨sb, 0, none⟩ = some (.int .i64 (st : Nat))) (hfl : w.cell? ⟨fb, 0, none⟩ = some (.bool false)) (h1 : sb < B) (h2 : sb ≠ lb) (h3 : fb < B) (h4 : fb ≠ lb) (hst : st ≤ 4) :
    Calls Yba.prog 7 #[p, .func (.func 5) #[] #[.pointer (some ⟨sb, 0, none⟩), .pointer (some ⟨lb, 0, none⟩), .pointer (some ⟨fb, 0, none⟩)], sv] w fun e w' => e = .returned (.bool true) ∧ Pushed w lb B v (List.replicate st 1) w' := by
  have hl := cell_lt h.cell
  have hM0 := (Moved.refl w lb v).alloc (.cells #[.bool false] 4)
  have ha := h.alloc (.cells #[.bool false] 4)
  refine try_ret p 5 _ sv w _ (cf5 _) ((parse5 sb lb fb B st false v _ ha ((hM0.cell (cell_lt hs) h2 (h.apart h1)).trans hs) ((hM0.cell (cell_lt hfl) h4 (h.apart h3)).trans hfl) h1 h2 h3 h4 hst).mono ?_)
  rintro e w1 ⟨rfl, v', hL, hM⟩
  have hv : v.ownBlock ≠ some w.heap.size := h.new (Nat.le_refl _)
  have hv' : v'.ownBlock ≠ some w.heap.size := fun e => by
    rcases hM.row _ e with e' | e'
    · exact hv e'
    · simp at e'; omega
  have hne : w.heap.size ≠ lb := by omega
  refine ⟨rfl, ⟨(hM.cell (by simp) hne hv).trans (by simp [go_sem]), (hM.frozen (by simp) hne hv).trans (by simp [go_sem])⟩, v', hL.setApart hv' hne _ _, (hM0.trans hM).setNew (Nat.le_refl _) _ _⟩

theorem try_no (p : Value) (sb lb fb B st : Nat) (v : Value) (w : World) (h : LogAt w lb B v []) (hs : w.cell? ⟨sb, 0, none⟩ = some (.int .i64 (st : Nat))) (hfl : w.cell? ⟨fb, 0, none⟩ = some (.bool true)) (h1 : sb < B) (h2 : sb ≠ lb) (h3 : fb < B) (h4 : fb ≠ lb) (hst : st ≤ 4) :
    Calls Yba.prog 7 #[p, .func (.func 5) #[] #[.pointer (some ⟨sb, 0, none⟩), .pointer (some ⟨lb, 0, none⟩), .pointer (some ⟨fb, 0, none⟩)], .func (.func 6) #[] #[.pointer (some ⟨lb, 0, none⟩)]] w fun e w' => e = .returned (.bool false) ∧ Pushed w lb B v (List.replicate st 1 ++ [2]) w' := by
  have hl := cell_lt h.cell
  have hM0 := (Moved.refl w lb v).alloc (.cells #[.bool false] 4)
  have ha := h.alloc (.cells #[.bool false] 4)
  refine try_bail p 5 _ 6 _ w _ (cf5 _) (cf6 _) ((parse5 sb lb fb B st true v _ ha ((hM0.cell (cell_lt hs) h2 (h.apart h1)).trans hs) ((hM0.cell (cell_lt hfl) h4 (h.apart h3)).trans hfl) h1 h2 h3 h4 hst).mono ?_)
  rintro e w1 ⟨rfl, v', hL, hM⟩
  have hv : v.ownBlock ≠ some w.heap.size := h.new (Nat.le_refl _)
  have hne : w.heap.size ≠ lb := by omega
  refine ⟨rfl, (hM.cell (by simp) hne hv).trans (by simp [go_sem]), (app2 lb B v' _ w1 hL (by simp; omega)).mono ?_⟩
  rintro e w2 ⟨rfl, v2, hL2, hM2⟩
  exact ⟨rfl, v2, hL2, (hM0.trans hM).trans hM2⟩

set_option maxRecDepth 100000 in
set_option maxHeartbeats 1000000 in
theorem law3_any (fail : Bool) (n : Nat) (w : World) (hn : n < 256) :
    Calls Yba.prog 3 #[.bool fail, .int .u8 (n : Int)] w fun e w' => e = .returned (.bool true) ∧ Below w.heap.size w w' := by
  obtain ⟨st, hst, hst4⟩ : ∃ st : Nat, (n : Int) % 5 = (st : Int) ∧ st ≤ 4 := ⟨n % 5, by omega, by omega⟩
  go_enter Yba.func3, Yba.ntmps3
  go_wp2_with fail
  refine calls_abs (fun W => (W.heap.size = w.heap.size + 1 + 1 + 1 + 1 ∧ Below w.heap.size w W) ∧ (W.cell? ⟨w.heap.size, 0, none⟩ = some (.bool fail) ∧ W.cell? ⟨w.heap.size + 1, 18, none⟩ = some (.slice none 0 0) ∧ W.cell? ⟨w.heap.size + 1, 19, none⟩ = some (.int .i64 0) ∧
      W.cell? ⟨w.heap.size + 1 + 1, 0, none⟩ = some (.int .i64 (st : Nat))) ∧ LogAt W (w.heap.size + 1 + 1 + 1) (w.heap.size + 1 + 1 + 1 + 1) (.slice none 0 0) []) ?_ ?_
  · refine ⟨⟨by simp, bAlloc (bAlloc (bAlloc (bAlloc (Below.refl _ _) _) _) _) _⟩, ⟨by simp [go_sem], by simp [go_sem], by simp [go_sem], by simp [go_sem]⟩, ⟨by simp [go_sem], by simp [go_sem], by omega, World.ownsRow_nil _ _ _ _, by simp⟩⟩
  intro W ⟨⟨hz, hB⟩, ⟨c0, c18, c19, cs⟩, hL⟩
  obtain ⟨i0, hi0, hz0, hz1, hz2⟩ := info_parts Yba.info3
  cases fail with
  | false =>
    refine (try_ok _ _ _ _ _ _ st _ W hL cs c0 (by omega) (by omega) (by omega) (by omega) hst4).mono ?_
    rintro e w5 ⟨rfl, v', hL5, hM⟩
    have hbB : ∀ b, b < w.heap.size + 1 + 1 + 1 → ∀ o, w5.cell? ⟨b, o, none⟩ = W.cell? ⟨b, o, none⟩ := fun b hb o => hM.cell (by omega) (by omega) (hL.apart (by omega))
    have q0 := (hbB w.heap.size (by omega) 0).trans c0
    have q18 := (hbB (w.heap.size + 1) (by omega) 18).trans c18
    have q19 := (hbB (w.heap.size + 1) (by omega) 19).trans c19
    have qs := (hbB (w.heap.size + 1 + 1) (by omega) 0).trans cs
    have hB5 : Below w.heap.size w w5 := hB.trans ⟨hM.os, hM.tape, hM.output, hM.size, fun k hk => hM.block k (by omega) (by omega) (hL.apart (by omega))⟩
    have hz5 : w.heap.size + 1 + 1 + 1 + 1 ≤ w5.heap.size := by have := hM.size; omega
    clear hbB hL hM c0 c18 c19 cs hB hz
    go_wp2_with fail
    go_loopw [11, 12] (fun wv i wr => ∃ (k : Nat) (v : Value), k ≤ st ∧ i = .int .i64 k ∧ wv = v ∧ wr.ownsRow w5.heap.size 3 1 v k ((List.replicate k 1).map I) ∧ Below w5.heap.size w5 wr) (fun _ i _ => st - (intOf i).toNat)
    case atStart => exact ⟨0, _, Nat.zero_le _, rfl, rfl, World.ownsRow_nil _ _ _ _, Below.refl _ _⟩
    case round =>
      obtain ⟨k, v, hk, rfl, rfl, hown, hbr⟩ := hrel
      have hzr := hbr.size
      have p0 := (hbr.cell (p := ⟨w.heap.size, 0, none⟩) (by show w.heap.size < w5.heap.size; omega)).trans q0
      have ps := (hbr.cell (p := ⟨w.heap.size + 1 + 1, 0, none⟩) (by show w.heap.size + 1 + 1 < w5.heap.size; omega)).trans qs
      by_cases hlt : k < st
      · go_wp2_with (first | (at_builtin; refine wpList_append_lies _ rfl (.tmp 32) (.tmp 33) 41 rfl w5.heap.size 3 i0 (.int .i64 0) 1 8 Yba.underlying41 hi0 hz0 hz1 hz2 rfl (by omega) u11 _ _ rfl (hown.alloc _) ⟨wr.heap.size, 0, none⟩ 1 1 [I 1] rfl rfl (news_I _ _ _ _ rfl) (one_I 1) (by omega) (by unfold maxLen; omega) (by omega) (by simp; omega) (wr.heap.size + 1) (by simp) ?_; intro g1 cap1 w1 hown1 hgrow1 hat1 hlt1))
        refine ⟨⟨k + 1, _, by omega, by go_num, rfl, ?_, (hbr.alloc hzr _).grown hgrow1 (by simp; omega) (fun j hj => (hown.lt j hj).1)⟩, by simp [intOf]; omega⟩
        rw [List.replicate_succ', List.map_append]
        exact hown1
      · obtain rfl : k = st := by omega
        have p18 := (hbr.cell (p := ⟨w.heap.size + 1, 18, none⟩) (by show w.heap.size + 1 < w5.heap.size; omega)).trans q18
        have p19 := (hbr.cell (p := ⟨w.heap.size + 1, 19, none⟩) (by show w.heap.size + 1 < w5.heap.size; omega)).trans q19
        have pl := (hbr.cell (p := ⟨w.heap.size + 1 + 1 + 1, 0, none⟩) (by show w.heap.size + 1 + 1 + 1 < w5.heap.size; omega)).trans hL5.cell
        have hH1 : Has wr v' (List.replicate k 1) := has_own (hL5.own.kept (row := none) ⟨hbr.os, hbr.tape, hbr.output, hbr.size, fun j hj _ => hbr.block j hj⟩ (by cases v'.ownBlock with | none => exact Or.inl rfl | some _ => exact Or.inr (by simp)))
        have hH2 : Has wr u11 (List.replicate k 1) := has_own (B := w5.heap.size) (by rw [List.length_replicate]; exact hown)
        go_wp2_with fail
        refine (eq_any v' u11 (List.replicate k 1) _ hH1 hH2 (by simp; omega)).mono ?_
        rintro e w6 ⟨rfl, q, rfl⟩
        go_wp2_with fail
        go_ret
        exact ⟨rfl, hB5.trans (((hbr.mono (by omega))).trans ⟨rfl, rfl, rfl, Nat.le_refl _, fun _ _ => rfl⟩)⟩
  | true =>
    refine (try_no _ _ _ _ _ st _ W hL cs c0 (by omega) (by omega) (by omega) (by omega) hst4).mono ?_
    rintro e w5 ⟨rfl, v', hL5, hM⟩
    have hbB : ∀ b, b < w.heap.size + 1 + 1 + 1 → ∀ o, w5.cell? ⟨b, o, none⟩ = W.cell? ⟨b, o, none⟩ := fun b hb o => hM.cell (by omega) (by omega) (hL.apart (by omega))
    have q0 := (hbB w.heap.size (by omega) 0).trans c0
    have q18 := (hbB (w.heap.size + 1) (by omega) 18).trans c18
    have q19 := (hbB (w.heap.size + 1) (by omega) 19).trans c19
    have qs := (hbB (w.heap.size + 1 + 1) (by omega) 0).trans cs
    have hB5 : Below w.heap.size w w5 := hB.trans ⟨hM.os, hM.tape, hM.output, hM.size, fun k hk => hM.block k (by omega) (by omega) (hL.apart (by omega))⟩
    have hz5 : w.heap.size + 1 + 1 + 1 + 1 ≤ w5.heap.size := by have := hM.size; omega
    clear hbB hL hM c0 c18 c19 cs hB hz
    go_wp2_with fail
    go_loopw [11, 12] (fun wv i wr => ∃ (k : Nat) (v : Value), k ≤ st ∧ i = .int .i64 k ∧ wv = v ∧ wr.ownsRow w5.heap.size 3 1 v k ((List.replicate k 1).map I) ∧ Below w5.heap.size w5 wr) (fun _ i _ => st - (intOf i).toNat)
    case atStart => exact ⟨0, _, Nat.zero_le _, rfl, rfl, World.ownsRow_nil _ _ _ _, Below.refl _ _⟩
    case round =>
      obtain ⟨k, v, hk, rfl, rfl, hown, hbr⟩ := hrel
      have hzr := hbr.size
      have p0 := (hbr.cell (p := ⟨w.heap.size, 0, none⟩) (by show w.heap.size < w5.heap.size; omega)).trans q0
      have ps := (hbr.cell (p := ⟨w.heap.size + 1 + 1, 0, none⟩) (by show w.heap.size + 1 + 1 < w5.heap.size; omega)).trans qs
      by_cases hlt : k < st
      · go_wp2_with (first | (at_builtin; refine wpList_append_lies _ rfl (.tmp 32) (.tmp 33) 41 rfl w5.heap.size 3 i0 (.int .i64 0) 1 8 Yba.underlying41 hi0 hz0 hz1 hz2 rfl (by omega) u11 _ _ rfl (hown.alloc _) ⟨wr.heap.size, 0, none⟩ 1 1 [I 1] rfl rfl (news_I _ _ _ _ rfl) (one_I 1) (by omega) (by unfold maxLen; omega) (by omega) (by simp; omega) (wr.heap.size + 1) (by simp) ?_; intro g1 cap1 w1 hown1 hgrow1 hat1 hlt1))
        refine ⟨⟨k + 1, _, by omega, by go_num, rfl, ?_, (hbr.alloc hzr _).grown hgrow1 (by simp; omega) (fun j hj => (hown.lt j hj).1)⟩, by simp [intOf]; omega⟩
        rw [List.replicate_succ', List.map_append]
        exact hown1
      · obtain rfl : k = st := by omega
        go_wp2_with (first | (at_builtin; refine wpList_append_lies _ rfl (.tmp 36) (.tmp 37) 41 rfl w5.heap.size 3 i0 (.int .i64 0) 1 8 Yba.underlying41 hi0 hz0 hz1 hz2 rfl (by omega) u11 _ _ rfl (hown.alloc _) ⟨wr.heap.size, 0, none⟩ 1 1 [I 2] rfl rfl (news_I _ _ _ _ rfl) (one_I 2) (by omega) (by unfold maxLen; omega) (by omega) (by simp; omega) (wr.heap.size + 1) (by simp) ?_; intro g2 cap2 w7 hown2 hgrow2 hat2 hlt2; have hb7 : Below w5.heap.size w5 w7 := (hbr.alloc hzr _).grown hgrow2 (by simp; omega) (fun j hj => (hown.lt j hj).1); have p18 := (hb7.cell (p := ⟨w.heap.size + 1, 18, none⟩) (by show w.heap.size + 1 < w5.heap.size; omega)).trans q18; have p19 := (hb7.cell (p := ⟨w.heap.size + 1, 19, none⟩) (by show w.heap.size + 1 < w5.heap.size; omega)).trans q19; have pl := (hb7.cell (p := ⟨w.heap.size + 1 + 1 + 1, 0, none⟩) (by show w.heap.size + 1 + 1 + 1 < w5.heap.size; omega)).trans hL5.cell))
        have hH1 : Has w7 v' (List.replicate k 1 ++ [2]) := has_own (hL5.own.kept (row := none) ⟨hb7.os, hb7.tape, hb7.output, hb7.size, fun j hj _ => hb7.block j hj⟩ (by cases v'.ownBlock with | none => exact Or.inl rfl | some _ => exact Or.inr (by simp)))
        have hH2 : Has w7 (.slice (some ⟨g2, 0, none⟩) (k + 1) cap2) (List.replicate k 1 ++ [2]) := has_own (B := w5.heap.size) (by rw [List.length_append, List.length_replicate, List.map_append]; exact hown2)
        refine (eq_any v' (.slice (some ⟨g2, 0, none⟩) (k + 1) cap2) (List.replicate k 1 ++ [2]) _ hH1 hH2 (by simp; omega)).mono ?_
        rintro e w6 ⟨rfl, q, rfl⟩
        go_wp2_with fail
        go_ret
        exact ⟨rfl, hB5.trans ((hb7.mono (by omega)).trans ⟨rfl, rfl, rfl, Nat.le_refl _, fun _ _ => rfl⟩)⟩
end Go.Proofs.Ybulknrw
