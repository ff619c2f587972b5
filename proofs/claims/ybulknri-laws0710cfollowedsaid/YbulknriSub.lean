import Derived.Test.YbulknriNear
namespace Go.Proofs.Ybulknri
open Go.RowKit
attribute [local go_sem ↓] Go.wp_at_zero Go.wp_at_succ

set_option maxRecDepth 100000 in
set_option maxHeartbeats 1000000 in
theorem rank_any (nb lb off sb b1 : Nat) (N : Nod) (L : Lnk) (lk : Value) (s : Bool) (w : World) (hN : HasNode w nb N lk) (hL : HasLink w lb off L)
    (g1 : w.cell? ⟨sb, 0, none⟩ = some (.bool s)) (g2 : w.cell? ⟨b1, 0, none⟩ = some (.pointer (some ⟨nb, 0, none⟩))) :
    Calls Yba.prog 21 #[.pointer (some ⟨lb, off, none⟩), .pointer (some ⟨sb, 0, none⟩), .pointer (some ⟨b1, 0, none⟩)] w
      fun e w' => (∃ j : Int, e = .returned (.int .i64 j)) ∧ Below w.heap.size w w' := by
  have h3 := hN.c3
  have k4 := hL.c4
  clear hN hL
  cases s with
  | false =>
    go_enter Yba.func21, Yba.ntmps21
    go_wp2_with fail
    go_quiet ((go_at_call 22; exact Calls.quiet_of_same (bit_any _ _)))
    go_wp2
    go_ret
    exact ⟨⟨_, rfl⟩, bDrewN (Below.refl _ _) _⟩
  | true =>
    go_enter Yba.func21, Yba.ntmps21
    go_wp2_with fail
    go_quiet ((go_at_call 22; exact Calls.quiet_of_same (bit_any _ _)))
    go_wp2
    go_ret
    exact ⟨⟨_, rfl⟩, bDrewN (Below.refl _ _) _⟩


set_option maxRecDepth 100000 in
set_option maxHeartbeats 1000000 in
theorem sub_rem (nb : Nat) (N : Nod) (lk : Value) (w : World) (hN : HasNode w nb N lk) (hz : N.rem = 0) :
    Calls Yba.prog 11 #[.pointer (some ⟨nb, 0, none⟩)] w
      fun e w' => (∃ a b c : Int, e = .returned (.agg #[.int .u64 a, .int .u64 b, .int .i64 c])) ∧ Below w.heap.size w w' := by
  have h12 := hN.c12
  rw [hz] at h12
  have hnb := hN.lt
  clear hN
  go_enter Yba.func11, Yba.ntmps11
  go_wp2_with fail
  refine bodyPost_ret (v := .agg #[.int .u64 0, .int .u64 0, .int .i64 0]) (by simp [results, Yba.results11, go_sem]) rfl ⟨⟨_, _, _, rfl⟩, ?_⟩
  repeat (first | exact Below.refl _ _ | refine bDrewN ?_ _ | refine bAlloc ?_ _ | refine Below.setCell ?_ (Nat.le_add_right _ _) _)

set_option maxRecDepth 100000 in
set_option maxHeartbeats 1000000 in
theorem sub_self (nb : Nat) (N : Nod) (lk : Value) (w : World) (hN : HasNode w nb N lk) (hz : (N.rem == 0) = false) (hl : N.l = N.i) :
    Calls Yba.prog 11 #[.pointer (some ⟨nb, 0, none⟩)] w
      fun e w' => (∃ a b c : Int, e = .returned (.agg #[.int .u64 a, .int .u64 b, .int .i64 c])) ∧ Below w.heap.size w w' := by
  have h12 := hN.c12
  have h5 := hN.c5
  have h6 := hN.c6
  rw [hl] at h5
  clear hl
  have hnb := hN.lt
  clear hN
  go_enter Yba.func11, Yba.ntmps11
  go_wp2_with fail
  go_quiet (fail)
  go_wp2_with fail
  refine bodyPost_ret (v := .agg #[.int .u64 N.i, .int .u64 0, .int .i64 0]) (by simp [results, Yba.results11, go_sem]) rfl ⟨⟨_, _, _, rfl⟩, ?_⟩
  repeat (first | exact Below.refl _ _ | refine bDrewN ?_ _ | refine bAlloc ?_ _ | refine Below.setCell ?_ (Nat.le_add_right _ _) _)

end Go.Proofs.Ybulknri
