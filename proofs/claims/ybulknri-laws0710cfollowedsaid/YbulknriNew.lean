import Derived.Test.YbulknriFind
import Derived.Test.YbulknriSub
namespace Go.Proofs.Ybulknri
open Go.RowKit
attribute [local go_sem ↓] Go.wp_at_zero Go.wp_at_succ

set_option maxRecDepth 100000 in
set_option maxHeartbeats 400000 in
theorem len64_0 (w : World) : Calls Yba.prog 58 #[.int .u64 0] w fun e w' => (∃ j : Int, e = .returned (.int .i64 j)) ∧ w' = w := by
  go_enter Yba.func58, Yba.ntmps58
  go_wp2
  go_ret
  exact ⟨⟨_, rfl⟩, rfl⟩

set_option maxRecDepth 100000 in
set_option maxHeartbeats 400000 in
theorem len_0 (w : World) : Calls Yba.prog 48 #[.int .u64 0] w fun e w' => (∃ j : Int, e = .returned (.int .i64 j)) ∧ w' = w := by
  go_enter Yba.func48, Yba.ntmps48
  go_wp2_with fail
  refine (len64_0 _).mono ?_
  rintro e w1 ⟨⟨j, rfl⟩, rfl⟩
  go_wp2_with fail
  go_ret
  exact ⟨⟨_, rfl⟩, rfl⟩

set_option maxRecDepth 100000 in
set_option maxHeartbeats 400000 in
theorem ins_0 (w : World) : Calls Yba.prog 49 #[.slice none 0 0, .int .i64 0, .int .i64 0, .func (.func 43) #[] #[]] w fun e w' => e = .returned (.tuple #[]) ∧ w' = w := by
  go_enter Yba.func49, Yba.ntmps49
  go_wp2_with fail
  go_loop [8] (fun v => v = .int .i64 1) (fun _ => 0)
  case atStart => rfl
  case round =>
    subst hrel
    go_wp2_with fail
    go_end0
    exact ⟨rfl, rfl⟩

set_option maxRecDepth 100000 in
set_option maxHeartbeats 400000 in
theorem pdq_0 (j : Int) (w : World) : Calls Yba.prog 47 #[.slice none 0 0, .int .i64 0, .int .i64 0, .int .i64 j, .func (.func 43) #[] #[]] w fun e w' => e = .returned (.tuple #[]) ∧ w' = w := by
  go_enter Yba.func47, Yba.ntmps47
  go_wp2_with fail
  go_loop [1, 2] (fun a b => a = .int .i64 0 ∧ b = .int .i64 0) (fun _ _ => 0)
  case atStart => exact ⟨rfl, rfl⟩
  case round =>
    obtain ⟨rfl, rfl⟩ := hrel
    go_wp2_with fail
    refine (ins_0 _).mono ?_
    rintro e w1 ⟨rfl, rfl⟩
    go_wp2_with fail
    exact bodyPost_ret (v := .tuple #[]) (by simp [results, Yba.results47, go_sem]) rfl ⟨rfl, rfl⟩

set_option maxRecDepth 100000 in
set_option maxHeartbeats 400000 in
theorem sort_0 (w : World) : Calls Yba.prog 42 #[.slice none 0 0, .func (.func 43) #[] #[]] w fun e w' => e = .returned (.tuple #[]) ∧ w' = w := by
  go_enter Yba.func42, Yba.ntmps42
  go_wp2_with fail
  refine (len_0 _).mono ?_
  rintro e w1 ⟨⟨j, rfl⟩, rfl⟩
  go_wp2_with fail
  refine (pdq_0 j _).mono ?_
  rintro e w1 ⟨rfl, rfl⟩
  go_wp2_with fail
  go_end0
  exact ⟨rfl, rfl⟩

set_option maxHeartbeats 400000 in
theorem count_nil (nb : Nat) (N : Nod) (w : World) (hN : HasNode w nb N (.slice none 0 0)) :
    Calls Yba.prog 18 #[.pointer (some ⟨nb, 0, none⟩)] w fun e w' => e = .returned (.int .i64 0) ∧ w' = w := by
  have c14 := hN.c14
  clear hN
  go_enter Yba.func18, Yba.ntmps18
  go_wp2_with fail
  go_loop [2, 9] (fun a b => a = .int .i64 0 ∧ b = .int .i64 0) (fun _ _ => 0)
  case atStart => exact ⟨rfl, rfl⟩
  case round =>
    obtain ⟨rfl, rfl⟩ := hrel
    go_wp2_with fail
    go_ret
    exact ⟨rfl, rfl⟩

set_option maxHeartbeats 400000 in
theorem index_nil (f : Value) (w : World) :
    Calls Yba.prog 27 #[.slice none 0 0, f] w fun e w' => e = .returned (.int .i64 (-1)) ∧ w' = w := by
  go_enter Yba.func27, Yba.ntmps27
  go_wp2_with fail
  go_loop [8] (fun b => b = .int .i64 0) (fun _ => 0)
  case atStart => rfl
  case round =>
    subst hrel
    go_wp2_with fail
    go_ret
    exact ⟨rfl, rfl⟩

set_option maxHeartbeats 1000000 in
theorem near_nil (nb : Nat) (N : Nod) (w : World) (hN : HasNode w nb N (.slice none 0 0)) :
    Calls Yba.prog 12 #[.pointer (some ⟨nb, 0, none⟩)] w fun e w' => e = .returned (.int .u64 0) ∧ Below w.heap.size w w' := by
  have hr := rule (w := w)
  have hnb := hN.lt
  have hN' := hN
  obtain ⟨h0, h1, h2, h3, h4, h5, h6, _, _, _, _, _, _, _, h14⟩ := hN'
  go_enter Yba.func12, Yba.ntmps12
  go_wp2_with fail
  refine (levels_any _ _ _ _ _ _ _ _ _ _ _ _ _ _ _).mono ?_
  rintro e w1 ⟨rfl, hb⟩
  cases hz : lev N.t N.o N.r 0 0 false != 0 with
  | true =>
    go_wp2_with fail
    go_ret
    exact ⟨rfl, hb⟩
  | false =>
    go_wp2_with fail
    refine (index_nil _ _).mono ?_
    rintro e w2 ⟨rfl, rfl⟩
    go_wp2_with fail
    go_ret
    exact ⟨rfl, hb⟩

end Go.Proofs.Ybulknri
