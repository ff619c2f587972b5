import Derived.Test.YbulknriNode
namespace Go.Proofs.Ybulknri
open Go.RowKit
attribute [local go_sem ↓] Go.wp_at_zero Go.wp_at_succ

abbrev boxL (L : Lnk) : Obj := .cells #[.int .u64 L.id, .int .i64 L.t, .int .u64 L.o, .bool L.r, .int .i64 L.d, .int .i64 L.n, .int .u64 L.l, .int .u64 L.i, .int .u64 L.sl, .int .u64 L.sp, .int .i64 L.sd, .int .u64 L.via, .bool L.known] 103

theorem boxed (L : Lnk) (w : World) : HasLink (w.alloc (boxL L)) w.heap.size 0 L := by
  constructor <;> simp [boxL, go_sem]

set_option maxHeartbeats 1000000 in
theorem below_any (nb : Nat) (N : Nod) (L : Lnk) (lk : Value) (w : World) (hN : HasNode w nb N lk) :
    Calls Yba.prog 28 #[.pointer (some ⟨nb, 0, none⟩), .agg #[.int .u64 L.id, .int .i64 L.t, .int .u64 L.o, .bool L.r, .int .i64 L.d, .int .i64 L.n, .int .u64 L.l, .int .u64 L.i, .int .u64 L.sl, .int .u64 L.sp, .int .i64 L.sd, .int .u64 L.via, .bool L.known]] w
      fun e w' => (∃ b, e = .returned (.bool b)) ∧ Below w.heap.size w w' := by
  have hL := boxed L w
  have hB := bAlloc (Below.refl w.heap.size w) (boxL L)
  have hN' := hN.later hB
  clear hN
  go_enter Yba.func28, Yba.ntmps28
  go_wp2_with fail
  generalize w.alloc (boxL L) = W0 at *
  have hr := rule (w := W0)
  have hnb := hN'.lt
  have hlb := hL.lt
  obtain ⟨h0, h1, h2, h3, h4, h5, h6, _, _, _, _, _, _, _, _⟩ := hN'
  obtain ⟨_, k1, k2, k3, k4, k5, k6, k7, _, _, _, _, kk⟩ := hL
  simp only [Nat.zero_add] at k1 k2 k3 k4 k5 k6 k7 kk
  cases hk : L.known with
  | true =>
    simp only [hk] at kk ⊢
    clear hk
    go_region_held3 (fun w' => Below W0.heap.size W0 w')
      (((try dsimp only); repeat (first | exact Below.refl _ _ | assumption | refine Below.drew ?_ | refine bAlloc ?_ _ | refine bCall ?_ hb)))
      (first
        | (go_at_call 23; refine (less_any _ _ _ _ _ _ _ _ _ _ _ _ _ _ _).mono ?_; rintro e w1 ⟨rfl, hb⟩))
    all_goals go_wp2
    all_goals go_ret
    exact ⟨⟨_, rfl⟩, by repeat (first | exact hB | refine Below.drew ?_ | refine bAlloc ?_ _ | refine bCall ?_ hb)⟩
  | false =>
    simp only [hk] at kk ⊢
    clear hk
    go_quiet (fail)
    go_wp2
    go_ret
    exact ⟨⟨_, rfl⟩, bDrewN hB _⟩

set_option maxHeartbeats 1000000 in
theorem isVia1_any (nb b1 b2 : Nat) (N : Nod) (L : Lnk) (lk : Value) (c : Int) (w : World) (hN : HasNode w nb N lk) (g1 : w.cell? ⟨b1, 0, none⟩ = some (.pointer (some ⟨nb, 0, none⟩))) (g2 : w.cell? ⟨b2, 0, none⟩ = some (.int .u64 c)) :
    Calls Yba.prog 37 #[.agg #[.int .u64 L.id, .int .i64 L.t, .int .u64 L.o, .bool L.r, .int .i64 L.d, .int .i64 L.n, .int .u64 L.l, .int .u64 L.i, .int .u64 L.sl, .int .u64 L.sp, .int .i64 L.sd, .int .u64 L.via, .bool L.known],
      .pointer (some ⟨b1, 0, none⟩), .pointer (some ⟨b2, 0, none⟩)] w
      fun e w' => (∃ b, e = .returned (.bool b)) ∧ Below w.heap.size w w' := by
  have hL := boxed L w
  have hB := bAlloc (Below.refl w.heap.size w) (boxL L)
  have hN' := hN.later hB
  have g1' : (w.alloc (boxL L)).cell? ⟨b1, 0, none⟩ = _ := (hB.cell (p := ⟨b1, 0, none⟩) (cell_lt g1)).trans g1
  have g2' : (w.alloc (boxL L)).cell? ⟨b2, 0, none⟩ = _ := (hB.cell (p := ⟨b2, 0, none⟩) (cell_lt g2)).trans g2
  clear hN g1 g2
  go_enter Yba.func37, Yba.ntmps37
  go_wp2_with fail
  refine (below_any nb N L _ _ hN').mono ?_
  rintro e w1 ⟨⟨b, rfl⟩, hb⟩
  have k := hL.later hb
  have k0 := k.c0
  have k11 := k.c11
  have q1 := (hb.cell (p := ⟨b1, 0, none⟩) (cell_lt g1')).trans g1'
  have q2 := (hb.cell (p := ⟨b2, 0, none⟩) (cell_lt g2')).trans g2'
  have hB1 := bCall hB hb
  clear hb hL hB hN' g1' g2' k
  simp only [Nat.zero_add] at k0 k11
  cases b with
  | false =>
    go_wp2
    go_ret
    exact ⟨⟨_, rfl⟩, hB1⟩
  | true =>
    cases hid : L.id != c with
    | false =>
      go_wp2
      go_ret
      exact ⟨⟨_, rfl⟩, hB1⟩
    | true =>
      go_wp2
      go_ret
      exact ⟨⟨_, rfl⟩, hB1⟩

set_option maxHeartbeats 1000000 in
/-- slices.IndexFunc over the links, with a function value that only looks: some index below the length, or -1. -/
theorem index_below (nb lb len cap : Nat) (N : Nod) (L : Nat → Lnk) (lk : Value) (w : World) (hlen : len ≤ 1024) (hN : HasNode w nb N lk) (hL : ∀ k, k < len → HasLink w lb (k * 13) (L k)) :
    Calls Yba.prog 27 #[.slice (some ⟨lb, 0, none⟩) len cap, .func (.func 28) #[.pointer (some ⟨nb, 0, none⟩)] #[]] w
      fun e w' => (∃ j : Int, e = .returned (.int .i64 j) ∧ -1 ≤ j ∧ j < len) ∧ Below w.heap.size w w' := by
  have hr := rule (w := w)
  go_enter Yba.func27, Yba.ntmps27
  go_wp2_with fail
  go_loopw [8] (fun i wr => ∃ k : Nat, k ≤ len ∧ i = .int .i64 k ∧ Below w.heap.size w wr) (fun i _ => len - (intOf i).toNat)
  case atStart => exact ⟨0, Nat.zero_le _, rfl, Below.refl _ _⟩
  case round =>
    obtain ⟨k, hk, rfl, hbr⟩ := hrel
    by_cases hlt : k < len
    · have hlb := (hL k hlt).lt
      obtain ⟨k0, k1, k2, k3, k4, k5, k6, k7, k8, k9, k10, k11, k12⟩ := hL k hlt
      go_wp2_with fail
      refine (below_any nb N (L k) lk wr (hN.later hbr)).mono ?_
      rintro e w1 ⟨⟨b, rfl⟩, hb⟩
      have hb1 := bCall hbr hb
      clear k0 k1 k2 k3 k4 k5 k6 k7 k8 k9 k10 k11 k12 hb
      cases b with
      | true =>
        go_wp2
        go_ret
        exact ⟨⟨_, rfl, by omega, by omega⟩, hb1⟩
      | false =>
        go_wp2
        exact ⟨⟨k + 1, by omega, by go_num, hb1⟩, by simp [intOf]; omega⟩
    · obtain rfl : k = len := by omega
      go_wp2_with fail
      go_ret
      exact ⟨⟨_, rfl, by omega, by omega⟩, hbr⟩

set_option maxHeartbeats 1000000 in
/-- slices.IndexFunc over the links, with a function value that only looks: some index below the length, or -1. -/
theorem index_via (nb lb len cap : Nat) (N : Nod) (L : Nat → Lnk) (lk : Value) (b1 b2 : Nat) (c : Int) (w : World) (hlen : len ≤ 1024) (hN : HasNode w nb N lk) (hL : ∀ k, k < len → HasLink w lb (k * 13) (L k))
    (g1 : w.cell? ⟨b1, 0, none⟩ = some (.pointer (some ⟨nb, 0, none⟩))) (g2 : w.cell? ⟨b2, 0, none⟩ = some (.int .u64 c)) :
    Calls Yba.prog 27 #[.slice (some ⟨lb, 0, none⟩) len cap, .func (.func 37) #[] #[.pointer (some ⟨b1, 0, none⟩), .pointer (some ⟨b2, 0, none⟩)]] w
      fun e w' => (∃ j : Int, e = .returned (.int .i64 j) ∧ -1 ≤ j ∧ j < len) ∧ Below w.heap.size w w' := by
  have hr := rule (w := w)
  go_enter Yba.func27, Yba.ntmps27
  go_wp2_with fail
  go_loopw [8] (fun i wr => ∃ k : Nat, k ≤ len ∧ i = .int .i64 k ∧ Below w.heap.size w wr) (fun i _ => len - (intOf i).toNat)
  case atStart => exact ⟨0, Nat.zero_le _, rfl, Below.refl _ _⟩
  case round =>
    obtain ⟨k, hk, rfl, hbr⟩ := hrel
    by_cases hlt : k < len
    · have hlb := (hL k hlt).lt
      obtain ⟨k0, k1, k2, k3, k4, k5, k6, k7, k8, k9, k10, k11, k12⟩ := hL k hlt
      go_wp2_with fail
      refine (isVia1_any nb b1 b2 N (L k) lk c wr (hN.later hbr) ((hbr.cell (p := ⟨b1, 0, none⟩) (cell_lt g1)).trans g1) ((hbr.cell (p := ⟨b2, 0, none⟩) (cell_lt g2)).trans g2)).mono ?_
      rintro e w1 ⟨⟨b, rfl⟩, hb⟩
      have hb1 := bCall hbr hb
      clear k0 k1 k2 k3 k4 k5 k6 k7 k8 k9 k10 k11 k12 hb
      cases b with
      | true =>
        go_wp2
        go_ret
        exact ⟨⟨_, rfl, by omega, by omega⟩, hb1⟩
      | false =>
        go_wp2
        exact ⟨⟨k + 1, by omega, by go_num, hb1⟩, by simp [intOf]; omega⟩
    · obtain rfl : k = len := by omega
      go_wp2_with fail
      go_ret
      exact ⟨⟨_, rfl, by omega, by omega⟩, hbr⟩

set_option maxHeartbeats 1000000 in
theorem contains_via (nb lb len cap : Nat) (N : Nod) (L : Nat → Lnk) (lk : Value) (b1 b2 : Nat) (c : Int) (w : World) (hlen : len ≤ 1024) (hN : HasNode w nb N lk) (hL : ∀ k, k < len → HasLink w lb (k * 13) (L k))
    (g1 : w.cell? ⟨b1, 0, none⟩ = some (.pointer (some ⟨nb, 0, none⟩))) (g2 : w.cell? ⟨b2, 0, none⟩ = some (.int .u64 c)) :
    Calls Yba.prog 36 #[.slice (some ⟨lb, 0, none⟩) len cap, .func (.func 37) #[] #[.pointer (some ⟨b1, 0, none⟩), .pointer (some ⟨b2, 0, none⟩)]] w
      fun e w' => (∃ b, e = .returned (.bool b)) ∧ Below w.heap.size w w' := by
  go_enter Yba.func36, Yba.ntmps36
  go_wp2_with fail
  refine (index_via nb lb len cap N L lk b1 b2 c w hlen hN hL g1 g2).mono ?_
  rintro e w1 ⟨⟨j, rfl, hj⟩, hb⟩
  go_wp2
  go_ret
  exact ⟨⟨_, rfl⟩, hb⟩

end Go.Proofs.Ybulknri
