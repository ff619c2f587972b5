import Derived.Test.YbulknriQuiet
namespace Go.Proofs.Ybulknri
open Go.RowKit
attribute [local go_sem ↓] Go.wp_at_zero Go.wp_at_succ

set_option maxRecDepth 100000 in
set_option maxHeartbeats 2000000 in
theorem sub_go (nb lb len cap : Nat) (N : Nod) (L : Nat → Lnk) (w : World) (hlen : len ≤ 1024) (hN : HasNode w nb N (.slice (some ⟨lb, 0, none⟩) len cap)) (hL : ∀ k, k < len → HasLink w lb (k * 13) (L k))
    (hz : (N.rem == 0) = false) (hl : (N.l == N.i) = false) :
    Calls Yba.prog 11 #[.pointer (some ⟨nb, 0, none⟩)] w
      fun e w' => (∃ a b c : Int, e = .returned (.agg #[.int .u64 a, .int .u64 b, .int .i64 c])) ∧ Below w.heap.size w w' := by
  have hnb := hN.lt
  have hN' := hN
  obtain ⟨h0, h1, h2, h3, h4, h5, h6, _, _, _, _, _, h12, _, h14⟩ := hN'
  go_enter Yba.func11, Yba.ntmps11
  go_wp2_with fail
  go_quiet (fail)
  go_wp2_with fail
  refine (levels_any _ _ _ _ _ _ _ _ _ _ _ _ _ _ _).mono ?_
  rintro e w1 ⟨rfl, hb⟩
  have hB1 : Below w.heap.size w w1 := bCall (bDrewN (bAlloc (bAlloc (Below.refl _ _) _) _) _) hb
  have hz1 : w.heap.size + 1 < w1.heap.size := by have := hb.size; simp at this; omega
  have r0 : w1.cell? ⟨w.heap.size, 0, none⟩ = some (.pointer (some ⟨nb, 0, none⟩)) := by rw [hb.cell (p := ⟨w.heap.size, 0, none⟩) (by simp; omega)]; simp [go_sem]
  have r1 : w1.cell? ⟨w.heap.size + 1, 0, none⟩ = some (.int .u64 0) := by rw [hb.cell (p := ⟨w.heap.size + 1, 0, none⟩) (by simp)]; simp [go_sem]
  have r2 : w1.cell? ⟨w.heap.size + 1, 1, none⟩ = some (.int .u64 0) := by rw [hb.cell (p := ⟨w.heap.size + 1, 1, none⟩) (by simp)]; simp [go_sem]
  have r3 : w1.cell? ⟨w.heap.size + 1, 2, none⟩ = some (.int .i64 0) := by rw [hb.cell (p := ⟨w.heap.size + 1, 2, none⟩) (by simp)]; simp [go_sem]
  have f1 : w1.frozen? ⟨w.heap.size + 1, 0, none⟩ = false := by rw [hb.frozen (p := ⟨w.heap.size + 1, 0, none⟩) (by simp)]; simp [go_sem]
  have f2 : w1.frozen? ⟨w.heap.size + 1, 1, none⟩ = false := by rw [hb.frozen (p := ⟨w.heap.size + 1, 1, none⟩) (by simp)]; simp [go_sem]
  have f3 : w1.frozen? ⟨w.heap.size + 1, 2, none⟩ = false := by rw [hb.frozen (p := ⟨w.heap.size + 1, 2, none⟩) (by simp)]; simp [go_sem]
  have hN1 := hN.later hB1
  have hL1 := fun k hk => (hL k hk).later hB1
  have hnb1 := hN1.lt
  clear hb hN hL h0 h1 h2 h3 h4 h5 h6 h12 h14 hnb
  have h14 := hN1.c14
  have hz0 : w.heap.size < w1.heap.size := by omega
  go_wp2_with fail
  generalize hs : (lev N.t N.o N.r 0 0 false == 0) = s
  clear hs
  have hBs := bAlloc (Below.refl w1.heap.size w1) (.cells #[.bool s] 4)
  have g1 : (w1.alloc (.cells #[.bool s] 4)).cell? ⟨w1.heap.size, 0, none⟩ = some (.bool s) := by simp [go_sem]
  have hl : ∀ o v, w1.cell? o = some v → o.spot = none → (w1.alloc (.cells #[.bool s] 4)).cell? o = some v := fun o v h hs => by
    obtain ⟨b, o, s⟩ := o
    subst hs
    exact (hBs.cell (p := ⟨b, o, none⟩) (cell_lt h)).trans h
  have hB3 := bCall hB1 hBs
  have hN3 := hN1.later hBs
  have hL3 := fun k hk => (hL1 k hk).later hBs
  replace r0 := hl _ _ r0 rfl
  replace r1 := hl _ _ r1 rfl
  replace r2 := hl _ _ r2 rfl
  replace r3 := hl _ _ r3 rfl
  replace f1 : (w1.alloc (.cells #[.bool s] 4)).frozen? _ = false := (hBs.frozen (p := ⟨w.heap.size + 1, 0, none⟩) hz1).trans f1
  replace f2 : (w1.alloc (.cells #[.bool s] 4)).frozen? _ = false := (hBs.frozen (p := ⟨w.heap.size + 1, 1, none⟩) hz1).trans f2
  replace f3 : (w1.alloc (.cells #[.bool s] 4)).frozen? _ = false := (hBs.frozen (p := ⟨w.heap.size + 1, 2, none⟩) hz1).trans f3
  clear hl hBs hN1 hL1 h14 hnb1
  have hsb : w1.heap.size < (w1.alloc (.cells #[.bool s] 4)).heap.size := by simp
  generalize w1.alloc (.cells #[.bool s] 4) = W3 at *
  generalize w1.heap.size = SB at *
  have hr3 := rule (w := W3)
  have hnb3 := hN3.lt
  go_loopw [5, 45] (fun p i wr => ∃ k : Nat, k ≤ len ∧ i = .int .i64 k ∧ (p = .pointer none ∨ ∃ m : Nat, m < len ∧ p = .pointer (some ⟨lb, m * 13, none⟩)) ∧ Below W3.heap.size W3 wr) (fun _ i _ => len - (intOf i).toNat)
  case atStart => exact ⟨0, Nat.zero_le _, rfl, Or.inl rfl, Below.refl _ _⟩
  case round =>
    obtain ⟨k, hk, rfl, hp0, hbr⟩ := hrel
    by_cases hlt : k < len
    · have hp : Hid (u5 = .pointer none ∨ ∃ m : Nat, m < len ∧ u5 = .pointer (some ⟨lb, m * 13, none⟩)) := hp0
      clear hp0
      have hlb3 := (hL3 k hlt).lt
      have hsz : w.heap.size < W3.heap.size := by omega
      have hN3' := hN3
      obtain ⟨h0, h1, h2, h3, h4, h5, h6, _, _, _, _, _, _, _, h14⟩ := hN3'
      obtain ⟨k0, k1, k2, k3, k4, k5, k6, k7, k8, k9, k10, k11, k12⟩ := hL3 k hlt
      cases hkn : (L k).known with
      | false =>
        rw [hkn] at k12
        go_wp2_with fail
        go_quiet (fail)
        go_wp2_with fail
        exact ⟨⟨k + 1, by omega, by go_num, hp.out, bDrewN hbr _⟩, by simp [intOf]; omega⟩
      | true =>
        rw [hkn] at k12
        clear hkn
        have hq := BW.cell (W := W3)
        have hne : Nonempty (BW W3) := ⟨⟨W3, Below.refl _ _⟩⟩
        cases hP : pairB (L k).n (L k).l N.n N.l with
        | false =>
          have HP : Hid (pairB (L k).n (L k).l N.n N.l = false) := hP
          clear hP
          go_wp2_with fail
          refine wp_region_quiet_bw (W := W3) (by kernel_rfl) (by kernel_rfl) hbr ?_
          repeat (go_big_quiet_step ((first
              | (go_at_call 17; exact quiet_bw (pair_eq false _ _ _ _ _ _ _ _ _ _ _ _ _ _ _ HP.out)))))
          refine wpQuiet_nil ?_
          rintro w4 ⟨⟨_, hb4⟩, rfl⟩
          go_wp2_with fail
          exact ⟨⟨k + 1, by omega, by go_num, hp.out, hb4⟩, by simp [intOf]; omega⟩
        | true =>
          have HP : Hid (pairB (L k).n (L k).l N.n N.l = true) := hP
          clear hP
          cases hQ : decide (less (L k).t (L k).o (L k).r (L k).d (L k).n (L k).l (L k).i N.t N.o N.r N.d N.n N.l N.i < 0) with
          | false =>
            have HQ : Hid (decide (less (L k).t (L k).o (L k).r (L k).d (L k).n (L k).l (L k).i N.t N.o N.r N.d N.n N.l N.i < 0) = false) := hQ
            clear hQ
            go_wp2_with fail
            refine wp_region_quiet_bw (W := W3) (by kernel_rfl) (by kernel_rfl) hbr ?_
            repeat (go_big_quiet_step ((first
                | (go_at_call 17; exact quiet_bw (pair_eq true _ _ _ _ _ _ _ _ _ _ _ _ _ _ _ HP.out))
                | (go_at_call 23; exact quiet_bw (less_eq false _ _ _ _ _ _ _ _ _ _ _ _ _ _ _ HQ.out)))))
            refine wpQuiet_nil ?_
            rintro w4 ⟨⟨_, hb4⟩, rfl⟩
            go_wp2_with fail
            exact ⟨⟨k + 1, by omega, by go_num, hp.out, hb4⟩, by simp [intOf]; omega⟩
          | true =>
            have HQ : Hid (decide (less (L k).t (L k).o (L k).r (L k).d (L k).n (L k).l (L k).i N.t N.o N.r N.d N.n N.l N.i < 0) = true) := hQ
            clear hQ
            cases hS : (L k).sp == 0 with
            | true =>
              cases hI : (L k).l != (L k).id with
              | true =>
                go_wp2_with fail
                refine wp_region_quiet_bw (W := W3) (by kernel_rfl) (by kernel_rfl) hbr ?_
                repeat (go_big_quiet_step ((first
                    | (go_at_call 17; exact quiet_bw (pair_eq true _ _ _ _ _ _ _ _ _ _ _ _ _ _ _ HP.out))
                    | (go_at_call 23; exact quiet_bw (less_eq true _ _ _ _ _ _ _ _ _ _ _ _ _ _ _ HQ.out)))))
                refine wpQuiet_nil ?_
                rintro w4 ⟨⟨_, hb4⟩, rfl⟩
                go_wp2_with fail
                exact ⟨⟨k + 1, by omega, by go_num, hp.out, hb4⟩, by simp [intOf]; omega⟩
              | false =>
                rcases hp.out with rfl | ⟨m, hm, rfl⟩
                · clear hp
                  go_wp2_with fail
                  refine wp_region_quiet_bw (W := W3) (by kernel_rfl) (by kernel_rfl) hbr ?_
                  repeat (go_big_quiet_step ((first
                      | (go_at_call 17; exact quiet_bw (pair_eq true _ _ _ _ _ _ _ _ _ _ _ _ _ _ _ HP.out))
                      | (go_at_call 23; exact quiet_bw (less_eq true _ _ _ _ _ _ _ _ _ _ _ _ _ _ _ HQ.out)))))
                  refine wpQuiet_nil ?_
                  rintro w4 ⟨⟨_, hb4⟩, rfl⟩
                  clear hq hne
                  go_wp2_with fail
                  go_quiet (fail)
                  go_wp2_with fail
                  exact ⟨⟨k + 1, by omega, by go_num, Or.inr ⟨k, hlt, rfl⟩, bDrewN hb4 _⟩, by simp [intOf]; omega⟩
                · clear hp
                  have hm10 := (hL3 m hm).c10
                  go_wp2_with fail
                  refine wp_region_quiet_bw (W := W3) (by kernel_rfl) (by kernel_rfl) hbr ?_
                  repeat (go_big_quiet_step ((first
                      | (go_at_call 17; exact quiet_bw (pair_eq true _ _ _ _ _ _ _ _ _ _ _ _ _ _ _ HP.out))
                      | (go_at_call 23; exact quiet_bw (less_eq true _ _ _ _ _ _ _ _ _ _ _ _ _ _ _ HQ.out)))))
                  refine wpQuiet_nil ?_
                  rintro w4 ⟨⟨_, hb4⟩, rfl⟩
                  clear hq hne
                  go_wp2_with fail
                  go_region_held3 (fun w' => Below W3.heap.size W3 w')
                    (((try dsimp only); repeat (first | assumption | refine Below.drew ?_ | refine bAlloc ?_ _ | refine bCall ?_ hb)))
                    (first
                      | (go_at_call 21; refine (rank_off nb lb _ SB _ N (.slice (some ⟨lb, 0, none⟩) len cap) s _ ?_ ?_ ?_ ?_).mono ?_; exact hN3.later (by assumption); (first | exact ⟨_, (hL3 k hlt).later (by assumption)⟩ | exact ⟨_, (hL3 m hm).later (by assumption)⟩); exact (rule _ _ _ (by assumption) hsb).trans g1; exact (rule _ _ _ (by assumption) hsz).trans r0; rintro e w5 ⟨⟨j, rfl⟩, hb⟩)
                      | (go_at_call 25; refine (cmp3 _ _ _).mono ?_; rintro e w' ⟨rfl, rfl⟩)
                      | (go_at_call 26; refine (cmp2 _ _ _).mono ?_; rintro e w' ⟨rfl, rfl⟩)
                      | (go_at_call 24; refine (or2_new _ _ _ _).mono ?_; rintro e w' ⟨rfl, rfl⟩))
                  go_wp2_with fail
                  · exact ⟨⟨k + 1, by omega, by go_num, Or.inr ⟨k, hlt, rfl⟩, by assumption⟩, by simp [intOf]; omega⟩
                  · exact ⟨⟨k + 1, by omega, by go_num, Or.inr ⟨m, hm, rfl⟩, by assumption⟩, by simp [intOf]; omega⟩
            | false =>
              rcases hp.out with rfl | ⟨m, hm, rfl⟩
              · clear hp
                go_wp2_with fail
                refine wp_region_quiet_bw (W := W3) (by kernel_rfl) (by kernel_rfl) hbr ?_
                repeat (go_big_quiet_step ((first
                    | (go_at_call 17; exact quiet_bw (pair_eq true _ _ _ _ _ _ _ _ _ _ _ _ _ _ _ HP.out))
                    | (go_at_call 23; exact quiet_bw (less_eq true _ _ _ _ _ _ _ _ _ _ _ _ _ _ _ HQ.out)))))
                refine wpQuiet_nil ?_
                rintro w4 ⟨⟨_, hb4⟩, rfl⟩
                clear hq hne
                go_wp2_with fail
                go_quiet (fail)
                go_wp2_with fail
                exact ⟨⟨k + 1, by omega, by go_num, Or.inr ⟨k, hlt, rfl⟩, bDrewN hb4 _⟩, by simp [intOf]; omega⟩
              · clear hp
                have hm10 := (hL3 m hm).c10
                go_wp2_with fail
                refine wp_region_quiet_bw (W := W3) (by kernel_rfl) (by kernel_rfl) hbr ?_
                repeat (go_big_quiet_step ((first
                    | (go_at_call 17; exact quiet_bw (pair_eq true _ _ _ _ _ _ _ _ _ _ _ _ _ _ _ HP.out))
                    | (go_at_call 23; exact quiet_bw (less_eq true _ _ _ _ _ _ _ _ _ _ _ _ _ _ _ HQ.out)))))
                refine wpQuiet_nil ?_
                rintro w4 ⟨⟨_, hb4⟩, rfl⟩
                clear hq hne
                go_wp2_with fail
                go_region_held3 (fun w' => Below W3.heap.size W3 w')
                  (((try dsimp only); repeat (first | assumption | refine Below.drew ?_ | refine bAlloc ?_ _ | refine bCall ?_ hb)))
                  (first
                    | (go_at_call 21; refine (rank_off nb lb _ SB _ N (.slice (some ⟨lb, 0, none⟩) len cap) s _ ?_ ?_ ?_ ?_).mono ?_; exact hN3.later (by assumption); (first | exact ⟨_, (hL3 k hlt).later (by assumption)⟩ | exact ⟨_, (hL3 m hm).later (by assumption)⟩); exact (rule _ _ _ (by assumption) hsb).trans g1; exact (rule _ _ _ (by assumption) hsz).trans r0; rintro e w5 ⟨⟨j, rfl⟩, hb⟩)
                    | (go_at_call 25; refine (cmp3 _ _ _).mono ?_; rintro e w' ⟨rfl, rfl⟩)
                    | (go_at_call 26; refine (cmp2 _ _ _).mono ?_; rintro e w' ⟨rfl, rfl⟩)
                    | (go_at_call 24; refine (or2_new _ _ _ _).mono ?_; rintro e w' ⟨rfl, rfl⟩))
                go_wp2_with fail
                · exact ⟨⟨k + 1, by omega, by go_num, Or.inr ⟨k, hlt, rfl⟩, by assumption⟩, by simp [intOf]; omega⟩
                · exact ⟨⟨k + 1, by omega, by go_num, Or.inr ⟨m, hm, rfl⟩, by assumption⟩, by simp [intOf]; omega⟩
    · have hsz : w.heap.size < W3.heap.size := by omega
      have hsz1 : w.heap.size + 1 < W3.heap.size := by omega
      have q1 := (hbr.cell (p := ⟨w.heap.size + 1, 0, none⟩) hsz1).trans r1
      have q2 := (hbr.cell (p := ⟨w.heap.size + 1, 1, none⟩) hsz1).trans r2
      have q3 := (hbr.cell (p := ⟨w.heap.size + 1, 2, none⟩) hsz1).trans r3
      have e1 := (hbr.frozen (p := ⟨w.heap.size + 1, 0, none⟩) hsz1).trans f1
      have e2 := (hbr.frozen (p := ⟨w.heap.size + 1, 1, none⟩) hsz1).trans f2
      have e3 := (hbr.frozen (p := ⟨w.heap.size + 1, 2, none⟩) hsz1).trans f3
      have hsr : w.heap.size + 1 < wr.heap.size := Nat.lt_of_lt_of_le hsz1 hbr.size
      have hBr := bCall hB3 hbr
      have h12 := (hN3.later hbr).c12
      rcases hp0 with rfl | ⟨m, hm, rfl⟩
      · clear r1 r2 r3 f1 f2 f3 hr3 hN3 hL3
        go_wp2_with fail
        refine bodyPost_ret (v := .agg #[.int .u64 0, .int .u64 0, .int .i64 0]) (by simp [results, Yba.results11, go_sem, q1, q2, q3]) rfl ⟨⟨_, _, _, rfl⟩, ?_⟩
        repeat (first | exact hBr | refine Below.setCell ?_ (Nat.le_add_right _ _) _)
      · obtain ⟨m0, _, _, _, _, _, _, _, m8, m9, m10, _, _⟩ := (hL3 m hm).later hbr
        have hr0 := (hbr.cell (p := ⟨w.heap.size, 0, none⟩) hsz).trans r0
        clear r0 r1 r2 r3 f1 f2 f3 hr3 hN3 hL3
        have hrr := rule (w := wr)
        have hlbr := cell_lt m0
        have hnbr := cell_lt h12
        go_wp2_with fail
        go_region_held3 (fun w' => Below wr.heap.size wr w')
          (((try dsimp only); repeat (first | exact Below.refl _ _ | assumption | refine Below.drew ?_ | refine bAlloc ?_ _ | refine Below.setCell ?_ (by simp) _)))
          (fail)
        clear hrr
        have hsr0 : w.heap.size < wr.heap.size := by omega
        have hz' : ¬ N.rem = 0 := by simpa using hz
        go_wp2_with fail
        go_quiet (fail)
        go_wp2_with fail
        · refine bodyPost_ret (v := .agg #[.int .u64 (L m).id, .int .u64 (L m).id, .int .i64 (wrap64 ((L m).sd + 1))]) (by simp [results, Yba.results11, go_sem, q1, q2, q3, hsr]) rfl ⟨⟨_, _, _, rfl⟩, ?_⟩
          repeat (first | exact hBr | refine bDrewN ?_ _ | refine bAlloc ?_ _ | refine Below.setCell ?_ (Nat.le_of_lt hsr0) _ | refine Below.setCell ?_ (Nat.le_add_right _ _) _)
        · refine bodyPost_ret (v := .agg #[.int .u64 (L m).sl, .int .u64 (L m).id, .int .i64 (wrap64 ((L m).sd + 1))]) (by simp [results, Yba.results11, go_sem, q1, q2, q3, hsr]) rfl ⟨⟨_, _, _, rfl⟩, ?_⟩
          repeat (first | exact hBr | refine bDrewN ?_ _ | refine bAlloc ?_ _ | refine Below.setCell ?_ (Nat.le_of_lt hsr0) _ | refine Below.setCell ?_ (Nat.le_add_right _ _) _)
end Go.Proofs.Ybulknri
