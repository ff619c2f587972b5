import Derived.Test.YbulknriVia
namespace Go.Proofs.Ybulknri
open Go.RowKit
attribute [local go_sem ↓] Go.wp_at_zero Go.wp_at_succ

set_option maxHeartbeats 1000000 in
theorem isVia_any (nb lb len cap : Nat) (N : Nod) (L : Nat → Lnk) (c : Int) (w : World) (hlen : len ≤ 1024) (hN : HasNode w nb N (.slice (some ⟨lb, 0, none⟩) len cap)) (hL : ∀ k, k < len → HasLink w lb (k * 13) (L k)) :
    Calls Yba.prog 19 #[.pointer (some ⟨nb, 0, none⟩), .int .u64 c] w
      fun e w' => (∃ b, e = .returned (.bool b)) ∧ Below w.heap.size w w' := by
  have hB1 := bAlloc (Below.refl w.heap.size w) (.cells #[.pointer (some ⟨nb, 0, none⟩)] 28)
  have hB := bAlloc hB1 (.cells #[.int .u64 c] 22)
  have g1 : ((w.alloc (.cells #[.pointer (some ⟨nb, 0, none⟩)] 28)).alloc (.cells #[.int .u64 c] 22)).cell? ⟨w.heap.size, 0, none⟩ = some (.pointer (some ⟨nb, 0, none⟩)) := by simp [go_sem]
  have g2 : ((w.alloc (.cells #[.pointer (some ⟨nb, 0, none⟩)] 28)).alloc (.cells #[.int .u64 c] 22)).cell? ⟨w.heap.size + 1, 0, none⟩ = some (.int .u64 c) := by simp [go_sem]
  have hN' := hN.later hB
  have hL' := fun k hk => (hL k hk).later hB
  clear hN hL hB1
  cases h0 : N.oth == 0 with
  | false =>
    have c11 := hN'.c11
    go_enter Yba.func19, Yba.ntmps19
    go_wp2_with fail
    go_ret
    exact ⟨⟨_, rfl⟩, hB⟩
  | true =>
    have c11 := hN'.c11
    have c14 := hN'.c14
    go_enter Yba.func19, Yba.ntmps19
    go_wp2_with fail
    refine (contains_via nb lb len cap N L _ _ _ c _ hlen hN' hL' g1 g2).mono ?_
    rintro e w1 ⟨⟨b, rfl⟩, hb⟩
    go_wp2
    go_ret
    exact ⟨⟨_, rfl⟩, bCall hB hb⟩

set_option maxHeartbeats 1000000 in
theorem near_any (nb lb len cap : Nat) (N : Nod) (L : Nat → Lnk) (w : World) (hlen : len ≤ 1024) (hN : HasNode w nb N (.slice (some ⟨lb, 0, none⟩) len cap)) (hL : ∀ k, k < len → HasLink w lb (k * 13) (L k)) :
    Calls Yba.prog 12 #[.pointer (some ⟨nb, 0, none⟩)] w
      fun e w' => (∃ v : Int, e = .returned (.int .u64 v)) ∧ Below w.heap.size w w' := by
  have hr := rule (w := w)
  have hnb := hN.lt
  have hN' := hN
  obtain ⟨h0, h1, h2, h3, h4, h5, h6, _, _, _, _, _, _, _, h14⟩ := hN'
  go_enter Yba.func12, Yba.ntmps12
  go_wp2_with fail
  refine (levels_any _ _ _ _ _ _ _ _ _ _ _ _ _ _ _).mono ?_
  rintro e w1 ⟨rfl, hb⟩
  cases hz : lev N.t N.o N.r 0 0 false != 0 with
  | true =>
    go_wp2_with fail
    go_ret
    exact ⟨⟨_, rfl⟩, hb⟩
  | false =>
    go_wp2_with fail
    refine (index_below nb lb len cap N L _ _ hlen (hN.later hb) (fun k hk => (hL k hk).later hb)).mono ?_
    rintro e w2 ⟨⟨j, rfl, hj1, hj2⟩, hb2⟩
    by_cases hj : j < 0
    · go_wp2_with fail
      go_ret
      exact ⟨⟨_, rfl⟩, bCall hb hb2⟩
    · obtain ⟨k, rfl⟩ := Int.eq_ofNat_of_zero_le (show 0 ≤ j by omega)
      have hk : k < len := by omega
      have hb3 := bCall hb hb2
      have hk0 : (0 : Int) ≤ (k : Int) := by omega
      have hk1 : (k : Int) < (len : Int) := by omega
      have hlb := (hL k hk).lt
      have hL' := hL k hk
      obtain ⟨k0, _, _, _, _, _, _, _, _, _, _, k11, _⟩ := hL'
      clear hb hb2
      go_wp2_with fail
      go_region_held3 (fun w' => Below w.heap.size w w')
        (((try dsimp only); repeat (first | assumption | refine Below.drew ?_ | refine bAlloc ?_ _)))
        (fail)
      have e0 : ((w2.alloc (.cells #[.int .u64 (L k).id, .int .u64 (L k).via] 22)).drew).cell? ⟨w2.heap.size, 0, none⟩ = some (.int .u64 (L k).id) := by simp [go_sem]
      have e1 : ((w2.alloc (.cells #[.int .u64 (L k).id, .int .u64 (L k).via] 22)).drew).cell? ⟨w2.heap.size, 1, none⟩ = some (.int .u64 (L k).via) := by simp [go_sem]
      have hB3 := (bAlloc hb3 (.cells #[.int .u64 (L k).id, .int .u64 (L k).via] 22)).drew
      go_wp2_with fail
      generalize (w2.alloc (.cells #[.int .u64 (L k).id, .int .u64 (L k).via] 22)).drew = W3 at *
      generalize w2.heap.size = H at *
      have hN3 := hN.later hB3
      have hL3 := fun k hk => (hL k hk).later hB3
      have hr3 := rule (w := W3)
      have q5 := hN3.c5
      have hH := cell_lt e0
      have hnb3 := hN3.lt
      clear hL hN h0 h1 h2 h3 h4 h5 h6 h14 hr hb3 k0 k11
      go_loopw [40] (fun i wr => ∃ m : Nat, m ≤ 2 ∧ i = .int .i64 m ∧ Below W3.heap.size W3 wr) (fun i _ => 2 - (intOf i).toNat)
      case atStart => exact ⟨0, Nat.zero_le _, rfl, Below.refl _ _⟩
      case round =>
        obtain ⟨m, hm, rfl, hbr⟩ := hrel
        by_cases hlt : m < 2
        · obtain ⟨c, hc⟩ : ∃ c : Int, W3.cell? ⟨H, m, none⟩ = some (.int .u64 c) := by
            obtain rfl | rfl : m = 0 ∨ m = 1 := by omega
            · exact ⟨_, e0⟩
            · exact ⟨_, e1⟩
          clear e0 e1
          cases hc0 : c != 0 with
          | false =>
            go_wp2_with fail
            exact ⟨⟨m + 1, by omega, by go_num, hbr⟩, by simp [intOf]; omega⟩
          | true =>
            cases hc1 : c != N.l with
            | false =>
              go_wp2_with fail
              exact ⟨⟨m + 1, by omega, by go_num, hbr⟩, by simp [intOf]; omega⟩
            | true =>
              go_wp2_with fail
              refine (isVia_any nb lb len cap N L c _ hlen (hN3.later hbr) (fun k hk => (hL3 k hk).later hbr)).mono ?_
              rintro e w4 ⟨⟨b, rfl⟩, hb4⟩
              have hb5 := bCall hbr hb4
              cases b with
              | true =>
                go_wp2_with fail
                go_ret
                exact ⟨⟨_, rfl⟩, bCall hB3 hb5⟩
              | false =>
                go_wp2_with fail
                exact ⟨⟨m + 1, by omega, by go_num, hb5⟩, by simp [intOf]; omega⟩
        · go_wp2_with fail
          go_ret
          exact ⟨⟨_, rfl⟩, bCall hB3 hbr⟩
end Go.Proofs.Ybulknri
