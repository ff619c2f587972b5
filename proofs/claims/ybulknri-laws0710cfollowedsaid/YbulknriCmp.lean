import Derived.Test.YbulknriLeaf
namespace Go.Proofs.Ybulknri
open Go.RowKit
attribute [local go_sem ↓] Go.wp_at_zero Go.wp_at_succ

def lev (t o : Int) (r : Bool) (t' o' : Int) (r' : Bool) : Int := orI [cmpI t t', cmpI o o', cmpI (bitI r) (bitI r')]

set_option maxHeartbeats 1000000 in
theorem levels_any (t o : Int) (r : Bool) (d n l i t' o' : Int) (r' : Bool) (d' n' l' i' : Int) (w : World) :
    Calls Yba.prog 20 #[.agg #[.int .i64 t, .int .u64 o, .bool r, .int .i64 d, .int .i64 n, .int .u64 l, .int .u64 i],
      .agg #[.int .i64 t', .int .u64 o', .bool r', .int .i64 d', .int .i64 n', .int .u64 l', .int .u64 i']] w
      fun e w' => e = .returned (.int .i64 (lev t o r t' o' r')) ∧ Below w.heap.size w w' := by
  go_enter Yba.func20, Yba.ntmps20
  go_wp2_with fail
  go_region_held3 (fun w' => w'.cell? ⟨w.heap.size, 0, none⟩ = some (.int .i64 t) ∧ w'.cell? ⟨w.heap.size, 1, none⟩ = some (.int .u64 o) ∧ w'.cell? ⟨w.heap.size, 2, none⟩ = some (.bool r) ∧
      w'.cell? ⟨w.heap.size + 1, 0, none⟩ = some (.int .i64 t') ∧ w'.cell? ⟨w.heap.size + 1, 1, none⟩ = some (.int .u64 o') ∧ w'.cell? ⟨w.heap.size + 1, 2, none⟩ = some (.bool r')) (go_keep)
    (first
      | (go_at_call 26; refine (cmp2 _ _ _).mono ?_; rintro e w' ⟨rfl, rfl⟩)
      | (go_at_call 38; refine (cmp22 _ _ _).mono ?_; rintro e w' ⟨rfl, rfl⟩)
      | (go_at_call 22; refine (bit_any _ _).mono ?_; rintro e w' ⟨rfl, rfl⟩)
      | (go_at_call 25; refine (cmp3 _ _ _).mono ?_; rintro e w' ⟨rfl, rfl⟩)
      | (go_at_call 24; refine (or3_any _ _ (cmpI t t') (cmpI o o') (cmpI (bitI r) (bitI r')) _ ?_ ?_ ?_).mono ?_; (simp [go_sem]); (simp [go_sem]); (simp [go_sem]); rintro e w' ⟨rfl, rfl⟩))
  all_goals go_wp2
  all_goals go_ret
  exact ⟨rfl, ((((Below.refl _ _).alloc (by simp) _).alloc (by simp) _).alloc (by simp; omega) _).drew⟩

theorem bcell {W w1 : World} (hb : Below W.heap.size W w1) : (∀ b o, b < W.heap.size → w1.cell? ⟨b, o, none⟩ = W.cell? ⟨b, o, none⟩) ∧ (∀ b o, b < W.heap.size → w1.frozen? ⟨b, o, none⟩ = W.frozen? ⟨b, o, none⟩) :=
  ⟨fun b o h => hb.cell (p := ⟨b, o, none⟩) h, fun b o h => hb.frozen (p := ⟨b, o, none⟩) h⟩

/-- A new block keeps what lay below. -/
theorem bAlloc {w W : World} (h : Below w.heap.size w W) (o : Obj) : Below w.heap.size w (W.alloc o) := h.alloc h.size o
/-- A callee that keeps what it met. -/
theorem bCall {w W w1 : World} (h : Below w.heap.size w W) (hb : Below W.heap.size W w1) : Below w.heap.size w w1 := h.trans (hb.mono h.size)

def srch (t o : Int) (r : Bool) (d t' o' : Int) (r' : Bool) (d' : Int) : Int := orI [lev t o r t' o' r', cmpI d d']

set_option maxHeartbeats 1000000 in
theorem search_any (t o : Int) (r : Bool) (d n l i t' o' : Int) (r' : Bool) (d' n' l' i' : Int) (w : World) :
    Calls Yba.prog 39 #[.agg #[.int .i64 t, .int .u64 o, .bool r, .int .i64 d, .int .i64 n, .int .u64 l, .int .u64 i],
      .agg #[.int .i64 t', .int .u64 o', .bool r', .int .i64 d', .int .i64 n', .int .u64 l', .int .u64 i']] w
      fun e w' => e = .returned (.int .i64 (srch t o r d t' o' r' d')) ∧ Below w.heap.size w w' := by
  go_enter Yba.func39, Yba.ntmps39
  go_wp2_with fail
  go_region_held3 (fun w' => w'.cell? ⟨w.heap.size, 0, none⟩ = some (.int .i64 t) ∧ w'.cell? ⟨w.heap.size, 1, none⟩ = some (.int .u64 o) ∧ w'.cell? ⟨w.heap.size, 2, none⟩ = some (.bool r) ∧ w'.cell? ⟨w.heap.size, 3, none⟩ = some (.int .i64 d) ∧
      w'.cell? ⟨w.heap.size, 4, none⟩ = some (.int .i64 n) ∧ w'.cell? ⟨w.heap.size, 5, none⟩ = some (.int .u64 l) ∧ w'.cell? ⟨w.heap.size, 6, none⟩ = some (.int .u64 i) ∧
      w'.cell? ⟨w.heap.size + 1, 0, none⟩ = some (.int .i64 t') ∧ w'.cell? ⟨w.heap.size + 1, 1, none⟩ = some (.int .u64 o') ∧ w'.cell? ⟨w.heap.size + 1, 2, none⟩ = some (.bool r') ∧ w'.cell? ⟨w.heap.size + 1, 3, none⟩ = some (.int .i64 d') ∧
      w'.cell? ⟨w.heap.size + 1, 4, none⟩ = some (.int .i64 n') ∧ w'.cell? ⟨w.heap.size + 1, 5, none⟩ = some (.int .u64 l') ∧ w'.cell? ⟨w.heap.size + 1, 6, none⟩ = some (.int .u64 i')) (first | (go_keep; done) | ((try dsimp only); (repeat' apply And.intro) <;> (rw [hc _ _ (by simp <;> omega)]; simp [go_sem])))
    (first
      | (go_at_call 26; refine (cmp2 _ _ _).mono ?_; rintro e w' ⟨rfl, rfl⟩)
      | (go_at_call 20; refine (levels_any _ _ _ _ _ _ _ _ _ _ _ _ _ _ _).mono ?_; rintro e w1 ⟨rfl, hb⟩; obtain ⟨hc, hf⟩ := bcell hb)
      | (go_at_call 24; refine (or2_any _ _ (lev t o r t' o' r') (cmpI d d') _ ?_ ?_).mono ?_; (simp [go_sem]); (simp [go_sem]); rintro e w' ⟨rfl, rfl⟩))
  all_goals go_wp2
  all_goals go_ret
  exact ⟨rfl, by repeat (first | exact Below.refl _ _ | refine Below.drew ?_ | refine bAlloc ?_ _ | refine bCall ?_ hb)⟩

def less (t o : Int) (r : Bool) (d n l i t' o' : Int) (r' : Bool) (d' n' l' i' : Int) : Int := orI [srch t o r d t' o' r' d', cmpI n n', cmpI l l', cmpI i i']

set_option maxHeartbeats 1000000 in
theorem less_any (t o : Int) (r : Bool) (d n l i t' o' : Int) (r' : Bool) (d' n' l' i' : Int) (w : World) :
    Calls Yba.prog 23 #[.agg #[.int .i64 t, .int .u64 o, .bool r, .int .i64 d, .int .i64 n, .int .u64 l, .int .u64 i],
      .agg #[.int .i64 t', .int .u64 o', .bool r', .int .i64 d', .int .i64 n', .int .u64 l', .int .u64 i']] w
      fun e w' => e = .returned (.bool (decide (less t o r d n l i t' o' r' d' n' l' i' < 0))) ∧ Below w.heap.size w w' := by
  go_enter Yba.func23, Yba.ntmps23
  go_wp2_with fail
  go_region_held3 (fun w' => w'.cell? ⟨w.heap.size, 0, none⟩ = some (.int .i64 t) ∧ w'.cell? ⟨w.heap.size, 1, none⟩ = some (.int .u64 o) ∧ w'.cell? ⟨w.heap.size, 2, none⟩ = some (.bool r) ∧ w'.cell? ⟨w.heap.size, 3, none⟩ = some (.int .i64 d) ∧
      w'.cell? ⟨w.heap.size, 4, none⟩ = some (.int .i64 n) ∧ w'.cell? ⟨w.heap.size, 5, none⟩ = some (.int .u64 l) ∧ w'.cell? ⟨w.heap.size, 6, none⟩ = some (.int .u64 i) ∧
      w'.cell? ⟨w.heap.size + 1, 0, none⟩ = some (.int .i64 t') ∧ w'.cell? ⟨w.heap.size + 1, 1, none⟩ = some (.int .u64 o') ∧ w'.cell? ⟨w.heap.size + 1, 2, none⟩ = some (.bool r') ∧ w'.cell? ⟨w.heap.size + 1, 3, none⟩ = some (.int .i64 d') ∧
      w'.cell? ⟨w.heap.size + 1, 4, none⟩ = some (.int .i64 n') ∧ w'.cell? ⟨w.heap.size + 1, 5, none⟩ = some (.int .u64 l') ∧ w'.cell? ⟨w.heap.size + 1, 6, none⟩ = some (.int .u64 i'))
    (first | (go_keep; done) | ((try dsimp only); (repeat' apply And.intro) <;> (rw [hc _ _ (by simp <;> omega)]; simp [go_sem])))
    (first
      | (go_at_call 26; refine (cmp2 _ _ _).mono ?_; rintro e w' ⟨rfl, rfl⟩)
      | (go_at_call 38; refine (cmp22 _ _ _).mono ?_; rintro e w' ⟨rfl, rfl⟩)
      | (go_at_call 39; refine (search_any _ _ _ _ _ _ _ _ _ _ _ _ _ _ _).mono ?_; rintro e w1 ⟨rfl, hb⟩; obtain ⟨hc, hf⟩ := bcell hb)
      | (go_at_call 24; refine (or4_any _ _ (srch t o r d t' o' r' d') (cmpI n n') (cmpI l l') (cmpI i i') _ ?_ ?_ ?_ ?_).mono ?_; (simp [go_sem]); (simp [go_sem]); (simp [go_sem]); (simp [go_sem]); rintro e w' ⟨rfl, rfl⟩))
  all_goals go_wp2
  all_goals go_ret
  exact ⟨rfl, by repeat (first | exact Below.refl _ _ | refine Below.drew ?_ | refine bAlloc ?_ _ | refine bCall ?_ hb)⟩

def pairB (n l n' l' : Int) : Bool := n == n' && l == l'

set_option maxHeartbeats 1000000 in
theorem pair_any (t o : Int) (r : Bool) (d n l i t' o' : Int) (r' : Bool) (d' n' l' i' : Int) (w : World) :
    Calls Yba.prog 17 #[.agg #[.int .i64 t, .int .u64 o, .bool r, .int .i64 d, .int .i64 n, .int .u64 l, .int .u64 i],
      .agg #[.int .i64 t', .int .u64 o', .bool r', .int .i64 d', .int .i64 n', .int .u64 l', .int .u64 i']] w
      fun e w' => e = .returned (.bool (pairB n l n' l')) ∧ Below w.heap.size w w' := by
  cases hn : n == n' with
  | true =>
    go_enter Yba.func17, Yba.ntmps17
    go_wp2
    go_ret
    exact ⟨by simp [pairB, hn], by repeat (first | exact Below.refl _ _ | refine Below.drew ?_ | refine bAlloc ?_ _)⟩
  | false =>
    go_enter Yba.func17, Yba.ntmps17
    go_wp2
    go_ret
    exact ⟨by simp [pairB, hn], by repeat (first | exact Below.refl _ _ | refine Below.drew ?_ | refine bAlloc ?_ _)⟩
end Go.Proofs.Ybulknri
