import Derived.Test.YbulknrwCalls
import Derived.Laws.EntriesVeiled
namespace Go.Proofs.Ybulknrw
open Go.RowKit

theorem cf9 (caps : Array Value) (W : World) : (callFunc 9 caps).run Yba.prog W = .ok (.enter 9 caps) W := by simp [go_sem]
theorem cf10 (caps : Array Value) (W : World) : (callFunc 10 caps).run Yba.prog W = .ok (.enter 10 caps) W := by simp [go_sem]
theorem cf11 (caps : Array Value) (W : World) : (callFunc 11 caps).run Yba.prog W = .ok (.enter 11 caps) W := by simp [go_sem]
theorem cf12 (caps : Array Value) (W : World) : (callFunc 12 caps).run Yba.prog W = .ok (.enter 12 caps) W := by simp [go_sem]

set_option maxHeartbeats 400000 in
theorem app11 (lb B : Nat) (v : Value) (xs : List Int) (w : World) (h : LogAt w lb B v xs) (hlen : xs.length ≤ 1000) :
    Calls Yba.prog 11 #[.pointer (some ⟨lb, 0, none⟩)] w fun e w' => e = .returned (.tuple #[]) ∧ Pushed w lb B v (xs ++ [4]) w' := by
  obtain ⟨i0, hi0, hz0, hz1, hz2⟩ := info_parts Yba.info3
  have hc := h.cell
  have hf := h.free
  have hsz := h.size
  go_enter Yba.func11, Yba.ntmps11
  go_wp2_with (first
    | (at_builtin; refine wpList_append_lies _ rfl (.tmp 1) (.tmp 2) 41 rfl B 3 i0 (.int .i64 0) 1 8 Yba.underlying41 hi0 hz0 hz1 hz2 rfl (by omega) v _ _ rfl (h.alloc _).own ⟨w.heap.size, 0, none⟩ 1 1 [I 4] rfl rfl (news_I _ _ _ _ rfl) (one_I 4) (by omega) (by unfold maxLen; omega) (by omega) (by simp; omega) (w.heap.size + 1) (by simp) ?_; intro g1 cap1 w1 hown1 hgrow1 hat1 hlt1; obtain ⟨c1, f1, l1, hL1, hM1⟩ := h.after _ hown1 hgrow1 hat1))
  go_end0
  exact ⟨rfl, _, hL1, hM1⟩

set_option maxHeartbeats 400000 in
theorem parse9 (lb fb B : Nat) (fail : Bool) (v : Value) (xs : List Int) (w : World) (h : LogAt w lb B v xs) (hfl : w.cell? ⟨fb, 0, none⟩ = some (.bool fail)) (h3 : fb < B) (h4 : fb ≠ lb) (hlen : xs.length ≤ 1000) :
    Calls Yba.prog 9 #[.pointer (some ⟨lb, 0, none⟩), .pointer (some ⟨fb, 0, none⟩)] w fun e w' =>
      e = (if fail then .panicked [{ v := .iface 43 (.agg #[]), recovered := false }] else .returned (.tuple #[])) ∧ Pushed w lb B v (xs ++ [1]) w' := by
  obtain ⟨i0, hi0, hz0, hz1, hz2⟩ := info_parts Yba.info3
  have hc := h.cell
  have hf := h.free
  have hsz := h.size
  cases fail
  all_goals
    go_enter Yba.func9, Yba.ntmps9
    go_wp2_with (first
      | (at_builtin; refine wpList_append_lies _ rfl (.tmp 2) (.tmp 3) 41 rfl B 3 i0 (.int .i64 0) 1 8 Yba.underlying41 hi0 hz0 hz1 hz2 rfl (by omega) v _ _ rfl (h.alloc _).own ⟨w.heap.size, 0, none⟩ 1 1 [I 1] rfl rfl (news_I _ _ _ _ rfl) (one_I 1) (by omega) (by unfold maxLen; omega) (by omega) (by simp; omega) (w.heap.size + 1) (by simp) ?_; intro g1 cap1 w1 hown1 hgrow1 hat1 hlt1; obtain ⟨c1, f1, l1, hL1, hM1⟩ := h.after _ hown1 hgrow1 hat1; have cf := (hM1.cell (b := fb) (o := 0) (cell_lt hfl) h4 (h.apart h3)).trans hfl))
    first
      | (go_end0; exact ⟨rfl, _, hL1, hM1⟩)
      | exact ⟨rfl, rfl, _, hL1, hM1⟩

set_option maxHeartbeats 400000 in
theorem parse10 (lb fb B : Nat) (fail : Bool) (v : Value) (xs : List Int) (w : World) (h : LogAt w lb B v xs) (hfl : w.cell? ⟨fb, 0, none⟩ = some (.bool fail)) (h3 : fb < B) (h4 : fb ≠ lb) (hlen : xs.length ≤ 1000) :
    Calls Yba.prog 10 #[.pointer (some ⟨lb, 0, none⟩), .pointer (some ⟨fb, 0, none⟩)] w fun e w' =>
      e = (if fail then .panicked [{ v := .iface 43 (.agg #[]), recovered := false }] else .returned (.tuple #[])) ∧ Pushed w lb B v (xs ++ [3]) w' := by
  obtain ⟨i0, hi0, hz0, hz1, hz2⟩ := info_parts Yba.info3
  have hc := h.cell
  have hf := h.free
  have hsz := h.size
  cases fail
  all_goals
    go_enter Yba.func10, Yba.ntmps10
    go_wp2_with (first
      | (at_builtin; refine wpList_append_lies _ rfl (.tmp 2) (.tmp 3) 41 rfl B 3 i0 (.int .i64 0) 1 8 Yba.underlying41 hi0 hz0 hz1 hz2 rfl (by omega) v _ _ rfl (h.alloc _).own ⟨w.heap.size, 0, none⟩ 1 1 [I 3] rfl rfl (news_I _ _ _ _ rfl) (one_I 3) (by omega) (by unfold maxLen; omega) (by omega) (by simp; omega) (w.heap.size + 1) (by simp) ?_; intro g1 cap1 w1 hown1 hgrow1 hat1 hlt1; obtain ⟨c1, f1, l1, hL1, hM1⟩ := h.after _ hown1 hgrow1 hat1; have cf := (hM1.cell (b := fb) (o := 0) (cell_lt hfl) h4 (h.apart h3)).trans hfl))
    first
      | (go_end0; exact ⟨rfl, _, hL1, hM1⟩)
      | exact ⟨rfl, rfl, _, hL1, hM1⟩

/-- 'try' with a parse that returns. -/
theorem tryN_ok (p sv : Value) (lb fb B : Nat) (v : Value) (xs : List Int) (w : World) (h : LogAt w lb B v xs) (hfl : w.cell? ⟨fb, 0, none⟩ = some (.bool false)) (h3 : fb < B) (h4 : fb ≠ lb)
    (F : FuncId) (z : Int) (hcf : ∀ caps W, (callFunc F caps).run Yba.prog W = .ok (.enter F caps) W)
    (hp : ∀ W : World, LogAt W lb B v xs → W.cell? ⟨fb, 0, none⟩ = some (.bool false) → Calls Yba.prog F #[.pointer (some ⟨lb, 0, none⟩), .pointer (some ⟨fb, 0, none⟩)] W fun e w' => e = .returned (.tuple #[]) ∧ Pushed W lb B v (xs ++ [z]) w') :
    Calls Yba.prog 7 #[p, .func (.func F) #[] #[.pointer (some ⟨lb, 0, none⟩), .pointer (some ⟨fb, 0, none⟩)], sv] w fun e w' => e = .returned (.bool true) ∧ Pushed w lb B v (xs ++ [z]) w' := by
  have hl := cell_lt h.cell
  have hM0 := (Moved.refl w lb v).alloc (.cells #[.bool false] 4)
  have ha := h.alloc (.cells #[.bool false] 4)
  refine try_ret p F _ sv w _ (hcf _) ((hp _ ha ((hM0.cell (cell_lt hfl) h4 (h.apart h3)).trans hfl)).mono ?_)
  rintro e w1 ⟨rfl, v', hL, hM⟩
  have hv : v.ownBlock ≠ some w.heap.size := h.new (Nat.le_refl _)
  have hv' : v'.ownBlock ≠ some w.heap.size := fun e => by
    rcases hM.row _ e with e' | e'
    · exact hv e'
    · simp at e'; omega
  have hne : w.heap.size ≠ lb := by omega
  refine ⟨rfl, ⟨(hM.cell (by simp) hne hv).trans (by simp [go_sem]), (hM.frozen (by simp) hne hv).trans (by simp [go_sem])⟩, v', hL.setApart hv' hne _ _, (hM0.trans hM).setNew (Nat.le_refl _) _ _⟩

/-- 'try' with a parse that bails out: the skip runs from where parse left the world. -/
theorem tryN_no (p : Value) (lb fb B : Nat) (v : Value) (xs : List Int) (w : World) (h : LogAt w lb B v xs) (hfl : w.cell? ⟨fb, 0, none⟩ = some (.bool true)) (h3 : fb < B) (h4 : fb ≠ lb)
    (F : FuncId) (z : Int) (hcf : ∀ caps W, (callFunc F caps).run Yba.prog W = .ok (.enter F caps) W)
    (hp : ∀ W : World, LogAt W lb B v xs → W.cell? ⟨fb, 0, none⟩ = some (.bool true) → Calls Yba.prog F #[.pointer (some ⟨lb, 0, none⟩), .pointer (some ⟨fb, 0, none⟩)] W fun e w' => e = .panicked [{ v := .iface 43 (.agg #[]), recovered := false }] ∧ Pushed W lb B v (xs ++ [z]) w')
    (G : FuncId) (caps2 : Array Value) (hcg : ∀ W, (callFunc G caps2).run Yba.prog W = .ok (.enter G caps2) W) (R : World → Prop)
    (hg : ∀ (W : World) (v' : Value), LogAt W lb B v' (xs ++ [z]) → Moved w W lb v v' → Calls Yba.prog G caps2 W fun e w' => e = .returned (.tuple #[]) ∧ R w') :
    Calls Yba.prog 7 #[p, .func (.func F) #[] #[.pointer (some ⟨lb, 0, none⟩), .pointer (some ⟨fb, 0, none⟩)], .func (.func G) #[] caps2] w fun e w' => e = .returned (.bool false) ∧ R w' := by
  have hl := cell_lt h.cell
  have hM0 := (Moved.refl w lb v).alloc (.cells #[.bool false] 4)
  have ha := h.alloc (.cells #[.bool false] 4)
  refine try_bail p F _ G _ w _ (hcf _) hcg ((hp _ ha ((hM0.cell (cell_lt hfl) h4 (h.apart h3)).trans hfl)).mono ?_)
  rintro e w1 ⟨rfl, v', hL, hM⟩
  have hv : v.ownBlock ≠ some w.heap.size := h.new (Nat.le_refl _)
  have hne : w.heap.size ≠ lb := by omega
  exact ⟨rfl, (hM.cell (by simp) hne hv).trans (by simp [go_sem]), hg w1 v' hL (hM0.trans hM)⟩

/-- The inner 'try'. -/
theorem inner_try (p : Value) (lb fb B : Nat) (b : Bool) (v : Value) (xs : List Int) (w : World) (h : LogAt w lb B v xs) (hfl : w.cell? ⟨fb, 0, none⟩ = some (.bool b)) (h3 : fb < B) (h4 : fb ≠ lb) (hlen : xs.length ≤ 900) :
    Calls Yba.prog 7 #[p, .func (.func 10) #[] #[.pointer (some ⟨lb, 0, none⟩), .pointer (some ⟨fb, 0, none⟩)], .func (.func 11) #[] #[.pointer (some ⟨lb, 0, none⟩)]] w fun e w' => e = .returned (.bool (!b)) ∧ Pushed w lb B v (xs ++ (if b then [3, 4] else [3])) w' := by
  cases b with
  | false =>
    exact tryN_ok p _ lb fb B v xs w h hfl h3 h4 10 3 cf10 (fun W hL hf => (parse10 lb fb B false v xs W hL hf h3 h4 (by omega)))
  | true =>
    have := tryN_no p lb fb B v xs w h hfl h3 h4 10 3 cf10 (fun W hL hf => (parse10 lb fb B true v xs W hL hf h3 h4 (by omega))) 11 #[.pointer (some ⟨lb, 0, none⟩)] (cf11 _) (Pushed w lb B v (xs ++ [3, 4])) (fun W v' hL hM => (app11 lb B v' _ W hL (by simp; omega)).mono (by
      rintro e w2 ⟨rfl, v2, hL2, hM2⟩
      exact ⟨rfl, v2, by simpa using hL2, hM.trans hM2⟩))
    exact this
end Go.Proofs.Ybulknrw
