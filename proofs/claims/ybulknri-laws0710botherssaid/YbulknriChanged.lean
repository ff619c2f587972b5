import Derived.Test.YbulknriChg
namespace Go.Proofs.Ybulknri
open Go.RowKit
attribute [local go_sem ↓] Go.wp_at_zero Go.wp_at_succ neq24 neq26

/-- It returns a bool. -/
def RetB (e : Ending) : Prop := ∃ b, e = .returned (.bool b)
/-- What 'others' is behind the call. -/
def newOth (N : Nod) (L : Nat → Lnk) (len : Nat) (n' l' : Int) : Int := if pairB n' l' N.n N.l then N.oth else cnt (fun k => blk N (L k)) len

set_option maxRecDepth 100000 in
set_option maxHeartbeats 2000000 in
theorem chg_any (nb lb len cap : Nat) (N : Nod) (L : Nat → Lnk) (t' o' : Int) (r' : Bool) (d' n' l' i' : Int) (anew : Bool) (w : World) (hlen : len ≤ 1024)
    (hN : HasNode w nb N (.slice (some ⟨lb, 0, none⟩) len cap)) (hL : ∀ k, k < len → HasLink w lb (k * 13) (L k)) (hlb : lb ≠ nb) (hfz : ∀ j, w.frozen? ⟨nb, j, none⟩ = false) :
    Calls Yba.prog 9 #[.pointer (some ⟨nb, 0, none⟩), .agg #[.int .i64 t', .int .u64 o', .bool r', .int .i64 d', .int .i64 n', .int .u64 l', .int .u64 i'], .bool anew] w
      fun e w' => RetB e ∧ w'.cell? ⟨nb, 11, none⟩ = some (.int .i64 (newOth N L len n' l')) ∧ Below nb w w' := by
  have hB0 := bAlloc (Below.refl w.heap.size w) (boxH t' o' r' d' n' l' i')
  have hH0 := boxedH t' o' r' d' n' l' i' w
  have hN0 := hN.later hB0
  have hL0 := fun k hk => (hL k hk).later hB0
  have hz0 : w.heap.size < (w.alloc (boxH t' o' r' d' n' l' i')).heap.size := by simp
  have hf0 : ∀ j, (w.alloc (boxH t' o' r' d' n' l' i')).frozen? ⟨nb, j, none⟩ = false := fun j => (hB0.frozen (p := ⟨nb, j, none⟩) hN.lt).trans (hfz j)
  have hnb := hN.lt
  have hBn : Below nb w (w.alloc (boxH t' o' r' d' n' l' i')) := hB0.mono (Nat.le_of_lt hnb)
  clear hN hL hfz hB0
  go_enter Yba.func9, Yba.ntmps9
  go_wp2_with fail
  generalize w.alloc (boxH t' o' r' d' n' l' i') = W0 at *
  have hnb0 := hN0.lt
  cases hP : pairB n' l' N.n N.l
  -- the pair has turned: others is counted anew
  have HP : Hid (pairB n' l' N.n N.l = false) := hP
  clear hP
  obtain ⟨h0, h1, h2, h3, h4, h5, h6, _, _, _, _, _, _, _, h14⟩ := id hN0
  obtain ⟨k0, k1, k2, k3, k4, k5, k6⟩ := id hH0
  have hq := BW.cell (W := W0)
  have hne : Nonempty (BW W0) := ⟨⟨W0, Below.refl _ _⟩⟩
  refine wp_region_quiet_bw (W := W0) (by kernel_rfl) (by kernel_rfl) (Below.refl _ _) ?_
  repeat (go_big_quiet_step ((first
      | (go_at_call 17; exact quiet_bw (pair_eq false _ _ _ _ _ _ _ _ _ _ _ _ _ _ _ HP.out)))))
  refine wpQuiet_nil ?_
  rintro w1 ⟨⟨_, hb1⟩, rfl⟩
  clear hq hne h0 h1 h2 h3 h4 h5 h6 h14 k0 k1 k2 k3 k4 k5 k6
  go_wp2_with fail
  refine (count_any nb lb len cap N L _ hlen (hN0.later hb1) (fun k hk => (hL0 k hk).later hb1)).mono ?_
  rintro e w2 ⟨rfl, hb2⟩
  have hb3 := bCall hb1 hb2
  have hN2 := hN0.later hb3
  have hnb2 := hN2.lt
  have hf2 : ∀ j, w2.frozen? ⟨nb, j, none⟩ = false := fun j => (hb3.frozen (p := ⟨nb, j, none⟩) hnb0).trans (hf0 j)
  have h11 := hN2.c11
  obtain ⟨x, hx⟩ : ∃ x, Hid (x = cnt (fun k => blk N (L k)) len) := ⟨_, rfl⟩
  go_wp2_with fail
  rw [← hx.out]
  have hN4' := hN2.set11 x
  have hL4 := fun k hk => ((hL0 k hk).later hb3).set (Ne.symm hlb) 11 (.int .i64 x)
  have hH4 := (hH0.later hb3 hz0).set (Nat.ne_of_lt hnb) 11 (.int .i64 x)
  have hf4 : ∀ j, (w2.setCell ⟨nb, 11, none⟩ (.int .i64 x)).frozen? ⟨nb, j, none⟩ = false := fun j => (World.frozen?_setCell w2 _ _ _).trans (hf2 j)
  have hB4 : Below nb w (w2.setCell ⟨nb, 11, none⟩ (.int .i64 x)) := (hBn.trans (hb3.mono (Nat.le_of_lt hnb0))).setCell (Nat.le_refl nb) _
  obtain ⟨N4, hN4, hx4⟩ : ∃ N4 : Nod, HasNode (w2.setCell ⟨nb, 11, none⟩ (.int .i64 x)) nb N4 (.slice (some ⟨lb, 0, none⟩) len cap) ∧ Hid (N4.oth = newOth N L len n' l') :=
    ⟨_, hN4', by show x = _; rw [newOth, HP.out, hx.out]; rfl⟩
  generalize w2.setCell ⟨nb, 11, none⟩ (.int .i64 x) = W4 at *
  clear h11 hf2 hnb2 hN2 hb3 hb2 hb1 hN4' hN0 hL0 hH0 hf0 hBn hz0 hnb0 hx HP
  rotate_left
  -- the pair stands
  have HP : Hid (pairB n' l' N.n N.l = true) := hP
  clear hP
  obtain ⟨h0, h1, h2, h3, h4, h5, h6, _, _, _, _, _, _, _, h14⟩ := id hN0
  obtain ⟨k0, k1, k2, k3, k4, k5, k6⟩ := id hH0
  have hq := BW.cell (W := W0)
  have hne : Nonempty (BW W0) := ⟨⟨W0, Below.refl _ _⟩⟩
  refine wp_region_quiet_bw (W := W0) (by kernel_rfl) (by kernel_rfl) (Below.refl _ _) ?_
  repeat (go_big_quiet_step ((first
      | (go_at_call 17; exact quiet_bw (pair_eq true _ _ _ _ _ _ _ _ _ _ _ _ _ _ _ HP.out)))))
  refine wpQuiet_nil ?_
  rintro W4 ⟨⟨_, hb1⟩, rfl⟩
  clear hq hne h0 h1 h2 h3 h4 h5 h6 h14 k0 k1 k2 k3 k4 k5 k6
  go_wp2_with fail
  have hN4' := hN0.later hb1
  have hL4 := fun k hk => (hL0 k hk).later hb1
  have hH4 := hH0.later hb1 hz0
  have hf4 : ∀ j, W4.frozen? ⟨nb, j, none⟩ = false := fun j => (hb1.frozen (p := ⟨nb, j, none⟩) hnb0).trans (hf0 j)
  have hB4 : Below nb w W4 := hBn.trans (hb1.mono (Nat.le_of_lt hnb0))
  obtain ⟨N4, hN4, hx4⟩ : ∃ N4 : Nod, HasNode W4 nb N4 (.slice (some ⟨lb, 0, none⟩) len cap) ∧ Hid (N4.oth = newOth N L len n' l') :=
    ⟨_, hN4', by show N.oth = _; rw [newOth, HP.out]; rfl⟩
  clear hb1 hN4' hN0 hL0 hH0 hf0 hBn hz0 hnb0 HP
  all_goals
    refine (sub_any nb lb len cap N4 L _ hlen hN4 hL4).mono ?_
    rintro e w5 ⟨⟨a, b, c, rfl⟩, hb5⟩
    have hz5 := hb5.size
    have hN5 := hN4.later hb5
    have hL5 := fun k hk => (hL4 k hk).later hb5
    have hH5 := hH4.later hb5 hH4.lt
    have hf5 : ∀ j, w5.frozen? ⟨nb, j, none⟩ = false := fun j => (hb5.frozen (p := ⟨nb, j, none⟩) hN4.lt).trans (hf4 j)
    have hB5 := hB4.trans (hb5.mono (Nat.le_of_lt hN4.lt))
    clear hb5 hN4 hL4 hH4 hf4 hB4 hz5
    have hBs := bAlloc (Below.refl w5.heap.size w5) (.cells #[.int .u64 a, .int .u64 b, .int .i64 c] 26)
    have s0 : (w5.alloc (.cells #[.int .u64 a, .int .u64 b, .int .i64 c] 26)).cell? ⟨w5.heap.size, 0, none⟩ = some (.int .u64 a) := by simp [go_sem]
    have s1 : (w5.alloc (.cells #[.int .u64 a, .int .u64 b, .int .i64 c] 26)).cell? ⟨w5.heap.size, 1, none⟩ = some (.int .u64 b) := by simp [go_sem]
    have s2 : (w5.alloc (.cells #[.int .u64 a, .int .u64 b, .int .i64 c] 26)).cell? ⟨w5.heap.size, 2, none⟩ = some (.int .i64 c) := by simp [go_sem]
    have hN6 := hN5.later hBs
    have hL6 := fun k hk => (hL5 k hk).later hBs
    have hH6 := hH5.later hBs hH5.lt
    have hf6 : ∀ j, (w5.alloc (.cells #[.int .u64 a, .int .u64 b, .int .i64 c] 26)).frozen? ⟨nb, j, none⟩ = false := fun j => (hBs.frozen (p := ⟨nb, j, none⟩) hN5.lt).trans (hf5 j)
    have hB6 := hB5.trans (hBs.mono (Nat.le_of_lt hN5.lt))
    have hns : nb < w5.heap.size := hN5.lt
    clear hBs hN5 hL5 hH5 hf5 hB5
    go_wp2_with fail
    generalize w5.alloc (.cells #[.int .u64 a, .int .u64 b, .int .i64 c] 26) = W6 at *
    generalize w5.heap.size = SB at *
    have hnb6 := hN6.lt
    have hH0 := hH6.lt
    have hSB := cell_lt s0
    have hq := BW.cell (W := W6)
    have hne : Nonempty (BW W6) := ⟨⟨W6, Below.refl _ _⟩⟩
    obtain ⟨h0, h1, h2, h3, h4, h5, h6, h7, h8, h9, h10, h11, _, _, h14⟩ := id hN6
    obtain ⟨k0, k1, k2, k3, k4, k5, k6⟩ := id hH6
    cases hh : hneB N4.t N4.o N4.r N4.d N4.n N4.l N4.i t' o' r' d' n' l' i' with
    | true =>
      refine wp_region_quiet_bw (W := W6) (by kernel_rfl) (by kernel_rfl) (Below.refl _ _) ?_
      repeat (go_big_quiet_step (fail))
      refine wpQuiet_nil ?_
      rintro w7 ⟨⟨_, hb7⟩, rfl⟩
      clear hq hne h0 h1 h2 h3 h4 h5 h6 h7 h8 h9 h11 h14 k0 k1 k2 k3 k4 k5 k6
      replace h10 := (hb7.cell (p := ⟨nb, 10, none⟩) hnb6).trans h10
      clear h10
      go_wp2_with fail
      refine (near_any nb lb len cap N4 L _ hlen (hN6.later hb7) (fun k hk => (hL6 k hk).later hb7)).mono ?_
      rintro e w8 ⟨⟨v, rfl⟩, hb8⟩
      have hb9 := bCall hb7 hb8
      have g7 := (hN6.later hb9).c7
      have g8 := (hN6.later hb9).c8
      have g9 := (hN6.later hb9).c9
      have g10 := (hN6.later hb9).c10
      have g11 := (hN6.later hb9).c11
      have t0 := (hb9.cell (p := ⟨SB, 0, none⟩) hSB).trans s0
      have t1 := (hb9.cell (p := ⟨SB, 1, none⟩) hSB).trans s1
      have t2 := (hb9.cell (p := ⟨SB, 2, none⟩) hSB).trans s2
      have hfx : ∀ j, w8.frozen? ⟨nb, j, none⟩ = false := fun j => (hb9.frozen (p := ⟨nb, j, none⟩) hnb6).trans (hf6 j)
      have hBx := hB6.trans (hb9.mono (Nat.le_of_lt hnb6))
      have hnbx : nb ≠ SB := Nat.ne_of_lt hns
      go_wp2_with fail
      go_ret
      exact ⟨⟨_, rfl⟩, by rw [← hx4.out]; simp [go_sem, g11], by repeat (first | exact hBx | refine Below.setCell ?_ (Nat.le_refl nb) _)⟩
    | false =>
      cases hs : sneB a b c N4.sl N4.sp N4.sd with
      | true =>
        refine wp_region_quiet_bw (W := W6) (by kernel_rfl) (by kernel_rfl) (Below.refl _ _) ?_
        repeat (go_big_quiet_step (fail))
        refine wpQuiet_nil ?_
        rintro w7 ⟨⟨_, hb7⟩, rfl⟩
        clear hq hne h0 h1 h2 h3 h4 h5 h6 h7 h8 h9 h11 h14 k0 k1 k2 k3 k4 k5 k6
        replace h10 := (hb7.cell (p := ⟨nb, 10, none⟩) hnb6).trans h10
        clear h10
        go_wp2_with fail
        refine (near_any nb lb len cap N4 L _ hlen (hN6.later hb7) (fun k hk => (hL6 k hk).later hb7)).mono ?_
        rintro e w8 ⟨⟨v, rfl⟩, hb8⟩
        have hb9 := bCall hb7 hb8
        have g7 := (hN6.later hb9).c7
        have g8 := (hN6.later hb9).c8
        have g9 := (hN6.later hb9).c9
        have g10 := (hN6.later hb9).c10
        have g11 := (hN6.later hb9).c11
        have t0 := (hb9.cell (p := ⟨SB, 0, none⟩) hSB).trans s0
        have t1 := (hb9.cell (p := ⟨SB, 1, none⟩) hSB).trans s1
        have t2 := (hb9.cell (p := ⟨SB, 2, none⟩) hSB).trans s2
        have hfx : ∀ j, w8.frozen? ⟨nb, j, none⟩ = false := fun j => (hb9.frozen (p := ⟨nb, j, none⟩) hnb6).trans (hf6 j)
        have hBx := hB6.trans (hb9.mono (Nat.le_of_lt hnb6))
        have hnbx : nb ≠ SB := Nat.ne_of_lt hns
        go_wp2_with fail
        go_ret
        exact ⟨⟨_, rfl⟩, by rw [← hx4.out]; simp [go_sem, g11], by repeat (first | exact hBx | refine Below.setCell ?_ (Nat.le_refl nb) _)⟩
      | false =>
        cases anew with
        | true =>
          refine wp_region_quiet_bw (W := W6) (by kernel_rfl) (by kernel_rfl) (Below.refl _ _) ?_
          repeat (go_big_quiet_step (fail))
          refine wpQuiet_nil ?_
          rintro w7 ⟨⟨_, hb7⟩, rfl⟩
          clear hq hne h0 h1 h2 h3 h4 h5 h6 h7 h8 h9 h11 h14 k0 k1 k2 k3 k4 k5 k6
          replace h10 := (hb7.cell (p := ⟨nb, 10, none⟩) hnb6).trans h10
          clear h10
          go_wp2_with fail
          refine (near_any nb lb len cap N4 L _ hlen (hN6.later hb7) (fun k hk => (hL6 k hk).later hb7)).mono ?_
          rintro e w8 ⟨⟨v, rfl⟩, hb8⟩
          have hb9 := bCall hb7 hb8
          have g7 := (hN6.later hb9).c7
          have g8 := (hN6.later hb9).c8
          have g9 := (hN6.later hb9).c9
          have g10 := (hN6.later hb9).c10
          have g11 := (hN6.later hb9).c11
          have t0 := (hb9.cell (p := ⟨SB, 0, none⟩) hSB).trans s0
          have t1 := (hb9.cell (p := ⟨SB, 1, none⟩) hSB).trans s1
          have t2 := (hb9.cell (p := ⟨SB, 2, none⟩) hSB).trans s2
          have hfx : ∀ j, w8.frozen? ⟨nb, j, none⟩ = false := fun j => (hb9.frozen (p := ⟨nb, j, none⟩) hnb6).trans (hf6 j)
          have hBx := hB6.trans (hb9.mono (Nat.le_of_lt hnb6))
          have hnbx : nb ≠ SB := Nat.ne_of_lt hns
          go_wp2_with fail
          go_ret
          exact ⟨⟨_, rfl⟩, by rw [← hx4.out]; simp [go_sem, g11], by repeat (first | exact hBx | refine Below.setCell ?_ (Nat.le_refl nb) _)⟩
        | false =>
          cases hv : N4.via != 0 with
          | false =>
            refine wp_region_quiet_bw (W := W6) (by kernel_rfl) (by kernel_rfl) (Below.refl _ _) ?_
            repeat (go_big_quiet_step (fail))
            refine wpQuiet_nil ?_
            rintro w7 ⟨⟨_, hb7⟩, rfl⟩
            clear hq hne h0 h1 h2 h3 h4 h5 h6 h7 h8 h9 h11 h14 k0 k1 k2 k3 k4 k5 k6
            replace h10 := (hb7.cell (p := ⟨nb, 10, none⟩) hnb6).trans h10
            have g7 := (hN6.later hb7).c7
            have g8 := (hN6.later hb7).c8
            have g9 := (hN6.later hb7).c9
            have g10 := (hN6.later hb7).c10
            have g11 := (hN6.later hb7).c11
            have t0 := (hb7.cell (p := ⟨SB, 0, none⟩) hSB).trans s0
            have t1 := (hb7.cell (p := ⟨SB, 1, none⟩) hSB).trans s1
            have t2 := (hb7.cell (p := ⟨SB, 2, none⟩) hSB).trans s2
            have hfx : ∀ j, w7.frozen? ⟨nb, j, none⟩ = false := fun j => (hb7.frozen (p := ⟨nb, j, none⟩) hnb6).trans (hf6 j)
            have hBx := hB6.trans (hb7.mono (Nat.le_of_lt hnb6))
            have hnbx : nb ≠ SB := Nat.ne_of_lt hns
            go_wp2_with fail
            go_ret
            exact ⟨⟨_, rfl⟩, by rw [← hx4.out]; simp [go_sem, g11], by repeat (first | exact hBx | refine Below.setCell ?_ (Nat.le_refl nb) _)⟩
          | true =>
            refine wp_region_quiet_bw (W := W6) (by kernel_rfl) (by kernel_rfl) (Below.refl _ _) ?_
            repeat (go_big_quiet_step (fail))
            refine wpQuiet_nil ?_
            rintro w7 ⟨⟨_, hb7⟩, rfl⟩
            clear hq hne h0 h1 h2 h3 h4 h5 h6 h7 h8 h9 h11 h14 k0 k1 k2 k3 k4 k5 k6
            replace h10 := (hb7.cell (p := ⟨nb, 10, none⟩) hnb6).trans h10
            go_wp2_with fail
            refine (isVia_any nb lb len cap N4 L _ _ hlen (hN6.later hb7) (fun k hk => (hL6 k hk).later hb7)).mono ?_
            rintro e wv ⟨⟨bv, rfl⟩, hbv⟩
            have hbw := bCall hb7 hbv
            clear h10
            cases bv with
            | false =>
              go_wp2_with fail
              refine (near_any nb lb len cap N4 L _ hlen (hN6.later hbw) (fun k hk => (hL6 k hk).later hbw)).mono ?_
              rintro e w8 ⟨⟨v, rfl⟩, hb8⟩
              have hb9 := bCall hbw hb8
              have g7 := (hN6.later hb9).c7
              have g8 := (hN6.later hb9).c8
              have g9 := (hN6.later hb9).c9
              have g10 := (hN6.later hb9).c10
              have g11 := (hN6.later hb9).c11
              have t0 := (hb9.cell (p := ⟨SB, 0, none⟩) hSB).trans s0
              have t1 := (hb9.cell (p := ⟨SB, 1, none⟩) hSB).trans s1
              have t2 := (hb9.cell (p := ⟨SB, 2, none⟩) hSB).trans s2
              have hfx : ∀ j, w8.frozen? ⟨nb, j, none⟩ = false := fun j => (hb9.frozen (p := ⟨nb, j, none⟩) hnb6).trans (hf6 j)
              have hBx := hB6.trans (hb9.mono (Nat.le_of_lt hnb6))
              have hnbx : nb ≠ SB := Nat.ne_of_lt hns
              go_wp2_with fail
              go_ret
              exact ⟨⟨_, rfl⟩, by rw [← hx4.out]; simp [go_sem, g11], by repeat (first | exact hBx | refine Below.setCell ?_ (Nat.le_refl nb) _)⟩
            | true =>
              have g7 := (hN6.later hbw).c7
              have g8 := (hN6.later hbw).c8
              have g9 := (hN6.later hbw).c9
              have g10 := (hN6.later hbw).c10
              have g11 := (hN6.later hbw).c11
              have t0 := (hbw.cell (p := ⟨SB, 0, none⟩) hSB).trans s0
              have t1 := (hbw.cell (p := ⟨SB, 1, none⟩) hSB).trans s1
              have t2 := (hbw.cell (p := ⟨SB, 2, none⟩) hSB).trans s2
              have hfx : ∀ j, wv.frozen? ⟨nb, j, none⟩ = false := fun j => (hbw.frozen (p := ⟨nb, j, none⟩) hnb6).trans (hf6 j)
              have hBx := hB6.trans (hbw.mono (Nat.le_of_lt hnb6))
              have hnbx : nb ≠ SB := Nat.ne_of_lt hns
              go_wp2_with fail
              go_ret
              exact ⟨⟨_, rfl⟩, by rw [← hx4.out]; simp [go_sem, g11], by repeat (first | exact hBx | refine Below.setCell ?_ (Nat.le_refl nb) _)⟩
end Go.Proofs.Ybulknri
