import Derived.Test.YbulknriBuild
namespace Go.Proofs.Ybulknri
open Go.RowKit

set_option maxRecDepth 100000 in
set_option maxHeartbeats 1000000 in
theorem oth_long (t o : Int) (r : Bool) (d n l i t' o' : Int) (r' : Bool) (d' n' l' i' sl sp sd via oth rem : Int) (anew : Bool) (a : Option Addr) (len cap : Nat) (w : World) (hlen : 1024 < len) (hm : len ≤ maxLen) :
    Calls Yba.prog 4 #[.agg #[.int .i64 t, .int .u64 o, .bool r, .int .i64 d, .int .i64 n, .int .u64 l, .int .u64 i], .agg #[.int .i64 t', .int .u64 o', .bool r', .int .i64 d', .int .i64 n', .int .u64 l', .int .u64 i'],
      .agg #[.int .u64 sl, .int .u64 sp, .int .i64 sd], .int .u64 via, .int .i64 oth, .int .i64 rem, .bool anew, .slice a len cap] w
      fun e w' => e = .returned (.bool true) ∧ Below w.heap.size w w' := by
  unfold maxLen at hm
  go_enter Yba.func4, Yba.ntmps4
  go_wp2_with fail
  go_ret
  exact ⟨rfl, bAlloc (bAlloc (bAlloc (Below.refl _ _) _) _) _⟩

set_option maxRecDepth 100000 in
set_option maxHeartbeats 2000000 in
theorem oth_some (t o : Int) (r : Bool) (d n l i t' o' : Int) (r' : Bool) (d' n' l' i' sl sp sd via oth rem : Int) (anew : Bool) (lsb o0 len cap : Nat) (L : Nat → Lnk) (w : World) (hlen : len ≤ 1024) (hL : ∀ k, k < len → HasLink w lsb (o0 + k * 13) (L k)) :
    Calls Yba.prog 4 #[.agg #[.int .i64 t, .int .u64 o, .bool r, .int .i64 d, .int .i64 n, .int .u64 l, .int .u64 i], .agg #[.int .i64 t', .int .u64 o', .bool r', .int .i64 d', .int .i64 n', .int .u64 l', .int .u64 i'],
      .agg #[.int .u64 sl, .int .u64 sp, .int .i64 sd], .int .u64 via, .int .i64 oth, .int .i64 rem, .bool anew, .slice (some ⟨lsb, o0, none⟩) len cap] w
      fun e w' => e = .returned (.bool true) ∧ Below w.heap.size w w' := by
  have hB0 : Below w.heap.size w (((w.alloc (boxH t o r d n l i)).alloc (boxH t' o' r' d' n' l' i')).alloc (.cells #[.int .u64 sl, .int .u64 sp, .int .i64 sd] 26)) := bAlloc (bAlloc (bAlloc (Below.refl _ _) _) _) _
  have hH0 : HasHgt (((w.alloc (boxH t o r d n l i)).alloc (boxH t' o' r' d' n' l' i')).alloc (.cells #[.int .u64 sl, .int .u64 sp, .int .i64 sd] 26)) w.heap.size t o r d n l i := by constructor <;> simp [boxH, go_sem]
  have hH1 : HasHgt (((w.alloc (boxH t o r d n l i)).alloc (boxH t' o' r' d' n' l' i')).alloc (.cells #[.int .u64 sl, .int .u64 sp, .int .i64 sd] 26)) (w.heap.size + 1) t' o' r' d' n' l' i' := by constructor <;> simp [boxH, go_sem]
  have hz3 : (((w.alloc (boxH t o r d n l i)).alloc (boxH t' o' r' d' n' l' i')).alloc (.cells #[.int .u64 sl, .int .u64 sp, .int .i64 sd] 26)).heap.size = w.heap.size + 1 + 1 + 1 := by simp
  go_enter Yba.func4, Yba.ntmps4
  go_wp2_with fail
  generalize ((w.alloc (boxH t o r d n l i)).alloc (boxH t' o' r' d' n' l' i')).alloc (.cells #[.int .u64 sl, .int .u64 sp, .int .i64 sd] 26) = W0 at *
  have HZ : Hid (W0.heap.size = w.heap.size + 1 + 1 + 1) := hz3
  clear hz3
  refine (build_some _ _ _ _ _ _ _ _ _ _ _ _ _ lsb o0 len cap L _ hlen (fun k hk => (hL k hk).later hB0)).mono ?_
  rintro e w1 ⟨nb, lb, rfl, hN1, hL1, hne, hfz, hnb, hb1⟩
  have hnb1 := hN1.lt
  have hnb0 : w.heap.size + 1 + 1 + 1 ≤ nb := by rw [HZ.out] at hnb; exact hnb
  obtain ⟨q0, q1, q2, q3, q4, q5, q6⟩ := hH1.later hb1 hH1.lt
  go_wp2_with fail
  refine (chg_any nb lb len len _ L _ _ _ _ _ _ _ anew _ hlen hN1 hL1 hne hfz).mono ?_
  rintro e w2 ⟨⟨b, rfl⟩, h11, hb2⟩
  have hb02 : Below W0.heap.size W0 w2 := hb1.trans (hb2.mono hnb)
  have hB2 : Below w.heap.size w w2 := bCall hB0 hb02
  have hL2 := fun k hk => (hL k hk).later hB2
  have g4 := (hH0.later hb02 hH0.lt).c4
  have g5 := (hH0.later hb02 hH0.lt).c5
  replace q4 := (hH1.later hb02 hH1.lt).c4
  replace q5 := (hH1.later hb02 hH1.lt).c5
  clear hL hL1 hN1 hfz hne q0 q1 q2 q3 q6 hH0 hH1 hb1 hb2 hb02 hB0
  obtain ⟨f, hf⟩ : ∃ f : Nat → Bool, ∀ k, f k = ((L k).known && !((L k).n == n && (L k).l == l)) := ⟨_, fun _ => rfl⟩
  have hfb : (fun k => blk ⟨t, o, r, d, n, l, i, sl, sp, sd, via, oth, rem, 0⟩ (L k)) = f := funext fun k => (hf k).symm
  rw [newOth, hfb] at h11
  clear hfb
  cases hn : n' == n with
  | true =>
    cases hl : l' == l with
    | true =>
      rw [if_pos (by simp [pairB, hn, hl])] at h11
      clear hf
      go_wp2_with fail
      go_ret
      exact ⟨by simp, hB2⟩
    | false =>
      rw [if_neg (by simp [pairB, hn, hl])] at h11
      go_wp2_with fail
      go_loopw [18, 19] (fun c i wr => ∃ k : Nat, k ≤ len ∧ i = .int .i64 k ∧ c = .int .i64 (cnt f k) ∧ ∃ q, wr = w2.drewN q) (fun _ i _ => len - (intOf i).toNat)
      case atStart => exact ⟨0, Nat.zero_le _, rfl, rfl, 0, rfl⟩
      case round =>
        obtain ⟨k, hk, rfl, rfl, q, rfl⟩ := hrel
        have hbd := cnt_bd f k
        by_cases hlt : k < len
        · obtain ⟨_, _, _, _, _, k5, k6, _, _, _, _, _, k12⟩ := hL2 k hlt
          have hlt' : (k : Int) < (len : Int) := by omega
          have hk0 : (0 : Int) ≤ (k : Int) := by omega
          have hfk := hf k
          cases hkn : (L k).known with
          | false =>
            rw [hkn] at k12 hfk
            have HF : Hid (f k = false) := hfk
            clear hfk hkn
            go_wp2_with fail
            go_quiet (fail)
            go_wp2_with fail
            exact ⟨⟨k + 1, by omega, by go_num, by rw [cnt, HF.out]; simp [bitI], _, rfl⟩, by simp [intOf]; omega⟩
          | true =>
            rw [hkn] at k12 hfk
            clear hkn
            cases hkn : (L k).n == n with
            | false =>
              rw [hkn] at hfk
              have HF : Hid (f k = true) := hfk
              clear hfk
              go_wp2_with fail
              go_quiet (fail)
              go_wp2_with fail
              exact ⟨⟨k + 1, by omega, by go_num, by rw [cnt, HF.out]; simp [bitI], _, rfl⟩, by simp [intOf]; omega⟩
            | true =>
              cases hkl : (L k).l == l with
              | false =>
                rw [hkn, hkl] at hfk
                have HF : Hid (f k = true) := hfk
                clear hfk
                go_wp2_with fail
                go_quiet (fail)
                go_wp2_with fail
                exact ⟨⟨k + 1, by omega, by go_num, by rw [cnt, HF.out]; simp [bitI], _, rfl⟩, by simp [intOf]; omega⟩
              | true =>
                rw [hkn, hkl] at hfk
                have HF : Hid (f k = false) := hfk
                clear hfk
                go_wp2_with fail
                go_quiet (fail)
                go_wp2_with fail
                exact ⟨⟨k + 1, by omega, by go_num, by rw [cnt, HF.out]; simp [bitI], _, rfl⟩, by simp [intOf]; omega⟩
        · obtain rfl : k = len := by omega
          go_wp2_with fail
          go_ret
          exact ⟨by simp, bDrewN hB2 _⟩
  | false =>
    rw [if_neg (by simp [pairB, hn])] at h11
    go_wp2_with fail
    go_loopw [18, 19] (fun c i wr => ∃ k : Nat, k ≤ len ∧ i = .int .i64 k ∧ c = .int .i64 (cnt f k) ∧ ∃ q, wr = w2.drewN q) (fun _ i _ => len - (intOf i).toNat)
    case atStart => exact ⟨0, Nat.zero_le _, rfl, rfl, 0, rfl⟩
    case round =>
      obtain ⟨k, hk, rfl, rfl, q, rfl⟩ := hrel
      have hbd := cnt_bd f k
      by_cases hlt : k < len
      · obtain ⟨_, _, _, _, _, k5, k6, _, _, _, _, _, k12⟩ := hL2 k hlt
        have hlt' : (k : Int) < (len : Int) := by omega
        have hk0 : (0 : Int) ≤ (k : Int) := by omega
        have hfk := hf k
        cases hkn : (L k).known with
        | false =>
          rw [hkn] at k12 hfk
          have HF : Hid (f k = false) := hfk
          clear hfk hkn
          go_wp2_with fail
          go_quiet (fail)
          go_wp2_with fail
          exact ⟨⟨k + 1, by omega, by go_num, by rw [cnt, HF.out]; simp [bitI], _, rfl⟩, by simp [intOf]; omega⟩
        | true =>
          rw [hkn] at k12 hfk
          clear hkn
          cases hkn : (L k).n == n with
          | false =>
            rw [hkn] at hfk
            have HF : Hid (f k = true) := hfk
            clear hfk
            go_wp2_with fail
            go_quiet (fail)
            go_wp2_with fail
            exact ⟨⟨k + 1, by omega, by go_num, by rw [cnt, HF.out]; simp [bitI], _, rfl⟩, by simp [intOf]; omega⟩
          | true =>
            cases hkl : (L k).l == l with
            | false =>
              rw [hkn, hkl] at hfk
              have HF : Hid (f k = true) := hfk
              clear hfk
              go_wp2_with fail
              go_quiet (fail)
              go_wp2_with fail
              exact ⟨⟨k + 1, by omega, by go_num, by rw [cnt, HF.out]; simp [bitI], _, rfl⟩, by simp [intOf]; omega⟩
            | true =>
              rw [hkn, hkl] at hfk
              have HF : Hid (f k = false) := hfk
              clear hfk
              go_wp2_with fail
              go_quiet (fail)
              go_wp2_with fail
              exact ⟨⟨k + 1, by omega, by go_num, by rw [cnt, HF.out]; simp [bitI], _, rfl⟩, by simp [intOf]; omega⟩
      · obtain rfl : k = len := by omega
        go_wp2_with fail
        go_ret
        exact ⟨by simp, bDrewN hB2 _⟩

set_option maxRecDepth 100000 in
set_option maxHeartbeats 2000000 in
theorem oth_nil (t o : Int) (r : Bool) (d n l i t' o' : Int) (r' : Bool) (d' n' l' i' sl sp sd via oth rem : Int) (anew : Bool) (a : Option Addr) (cap : Nat) (w : World) :
    Calls Yba.prog 4 #[.agg #[.int .i64 t, .int .u64 o, .bool r, .int .i64 d, .int .i64 n, .int .u64 l, .int .u64 i], .agg #[.int .i64 t', .int .u64 o', .bool r', .int .i64 d', .int .i64 n', .int .u64 l', .int .u64 i'],
      .agg #[.int .u64 sl, .int .u64 sp, .int .i64 sd], .int .u64 via, .int .i64 oth, .int .i64 rem, .bool anew, .slice a 0 cap] w
      fun e w' => e = .returned (.bool true) ∧ Below w.heap.size w w' := by
  obtain ⟨L, HL⟩ : ∃ L : Nat → Lnk, Hid (∀ k, L k = L k) := ⟨fun _ => ⟨0, 0, 0, false, 0, 0, 0, 0, 0, 0, 0, 0, false⟩, fun _ => rfl⟩
  clear HL
  have hB0 : Below w.heap.size w (((w.alloc (boxH t o r d n l i)).alloc (boxH t' o' r' d' n' l' i')).alloc (.cells #[.int .u64 sl, .int .u64 sp, .int .i64 sd] 26)) := bAlloc (bAlloc (bAlloc (Below.refl _ _) _) _) _
  have hH0 : HasHgt (((w.alloc (boxH t o r d n l i)).alloc (boxH t' o' r' d' n' l' i')).alloc (.cells #[.int .u64 sl, .int .u64 sp, .int .i64 sd] 26)) w.heap.size t o r d n l i := by constructor <;> simp [boxH, go_sem]
  have hH1 : HasHgt (((w.alloc (boxH t o r d n l i)).alloc (boxH t' o' r' d' n' l' i')).alloc (.cells #[.int .u64 sl, .int .u64 sp, .int .i64 sd] 26)) (w.heap.size + 1) t' o' r' d' n' l' i' := by constructor <;> simp [boxH, go_sem]
  have hz3 : (((w.alloc (boxH t o r d n l i)).alloc (boxH t' o' r' d' n' l' i')).alloc (.cells #[.int .u64 sl, .int .u64 sp, .int .i64 sd] 26)).heap.size = w.heap.size + 1 + 1 + 1 := by simp
  go_enter Yba.func4, Yba.ntmps4
  go_wp2_with fail
  generalize ((w.alloc (boxH t o r d n l i)).alloc (boxH t' o' r' d' n' l' i')).alloc (.cells #[.int .u64 sl, .int .u64 sp, .int .i64 sd] 26) = W0 at *
  have HZ : Hid (W0.heap.size = w.heap.size + 1 + 1 + 1) := hz3
  clear hz3
  refine (build_nil _ _ _ _ _ _ _ _ _ _ _ _ _ a cap L _).mono ?_
  rintro e w1 ⟨nb, lb, rfl, hN1, hL1, hne, hfz, hnb, hb1⟩
  have hnb1 := hN1.lt
  have hnb0 : w.heap.size + 1 + 1 + 1 ≤ nb := by rw [HZ.out] at hnb; exact hnb
  obtain ⟨q0, q1, q2, q3, q4, q5, q6⟩ := hH1.later hb1 hH1.lt
  go_wp2_with fail
  refine (chg_any nb lb 0 0 _ L _ _ _ _ _ _ _ anew _ (by omega) hN1 hL1 hne hfz).mono ?_
  rintro e w2 ⟨⟨b, rfl⟩, h11, hb2⟩
  have hb02 : Below W0.heap.size W0 w2 := hb1.trans (hb2.mono hnb)
  have hB2 : Below w.heap.size w w2 := bCall hB0 hb02
  have g4 := (hH0.later hb02 hH0.lt).c4
  have g5 := (hH0.later hb02 hH0.lt).c5
  replace q4 := (hH1.later hb02 hH1.lt).c4
  replace q5 := (hH1.later hb02 hH1.lt).c5
  clear hL1 hN1 hfz hne q0 q1 q2 q3 q6 hH0 hH1 hb1 hb2 hb02 hB0
  obtain ⟨f, hf⟩ : ∃ f : Nat → Bool, ∀ k, f k = ((L k).known && !((L k).n == n && (L k).l == l)) := ⟨_, fun _ => rfl⟩
  have hfb : (fun k => blk ⟨t, o, r, d, n, l, i, sl, sp, sd, via, oth, rem, 0⟩ (L k)) = f := funext fun k => (hf k).symm
  rw [newOth, hfb] at h11
  clear hfb
  cases hn : n' == n with
  | true =>
    cases hl : l' == l with
    | true =>
      rw [if_pos (by simp [pairB, hn, hl])] at h11
      clear hf
      go_wp2_with fail
      go_ret
      exact ⟨by simp, hB2⟩
    | false =>
      rw [if_neg (by simp [pairB, hn, hl])] at h11
      go_wp2_with fail
      go_loopw [18, 19] (fun c i wr => ∃ k : Nat, k ≤ 0 ∧ i = .int .i64 k ∧ c = .int .i64 (cnt f k) ∧ ∃ q, wr = w2.drewN q) (fun _ i _ => 0 - (intOf i).toNat)
      case atStart => exact ⟨0, Nat.zero_le _, rfl, rfl, 0, rfl⟩
      case round =>
        obtain ⟨k, hk, rfl, rfl, q, rfl⟩ := hrel
        obtain rfl : k = 0 := by omega
        go_wp2_with fail
        go_ret
        exact ⟨by simp, bDrewN hB2 _⟩
  | false =>
    rw [if_neg (by simp [pairB, hn])] at h11
    go_wp2_with fail
    go_loopw [18, 19] (fun c i wr => ∃ k : Nat, k ≤ 0 ∧ i = .int .i64 k ∧ c = .int .i64 (cnt f k) ∧ ∃ q, wr = w2.drewN q) (fun _ i _ => 0 - (intOf i).toNat)
    case atStart => exact ⟨0, Nat.zero_le _, rfl, rfl, 0, rfl⟩
    case round =>
      obtain ⟨k, hk, rfl, rfl, q, rfl⟩ := hrel
      obtain rfl : k = 0 := by omega
      go_wp2_with fail
      go_ret
      exact ⟨by simp, bDrewN hB2 _⟩
end Go.Proofs.Ybulknri
