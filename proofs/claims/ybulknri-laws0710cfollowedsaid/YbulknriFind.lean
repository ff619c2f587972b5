import Derived.Test.YbulknriReach
namespace Go.Proofs.Ybulknri
open Go.RowKit

set_option maxHeartbeats 400000 in
theorem leader_any (nb : Nat) (v : Int) (w : World) (h : w.cell? ⟨nb, 5, none⟩ = some (.int .u64 v)) :
    Calls Yba.prog 31 #[.pointer (some ⟨nb, 0, none⟩)] w fun e w' => e = .returned (.int .u64 v) ∧ w' = w := by
  go_enter Yba.func31, Yba.ntmps31
  go_wp2
  go_ret
  exact ⟨rfl, rfl⟩

/-- The nodes, to be read: block qb holds pointers to n nodes, each with its leader's id; all of it below block B. -/
structure NA (w : World) (B qb n : Nat) (lid : Nat → Nat) : Prop where
  low : qb < B
  at_ : ∀ x, x < n → ∃ b, w.cell? ⟨qb, x, none⟩ = some (.pointer (some ⟨b, 0, none⟩)) ∧ b < B ∧ w.cell? ⟨b, 5, none⟩ = some (.int .u64 (lid x : Nat))

theorem NA.later {w w' : World} {B qb n : Nat} {lid : Nat → Nat} (h : NA w B qb n lid) (hb : Below B w w') : NA w' B qb n lid :=
  ⟨h.low, fun x hx => by
    obtain ⟨b, hc, hbB, hl⟩ := h.at_ x hx
    exact ⟨b, (hb.cell (p := ⟨qb, x, none⟩) h.low).trans hc, hbB, (hb.cell (p := ⟨b, 5, none⟩) hbB).trans hl⟩⟩

set_option maxHeartbeats 400000 in
theorem other_any (n B qb rb b1 b2 x l : Nat) (lid : Nat → Nat) (w : World) (hn : n ≤ 256) (hx : x < n) (hA : NA w B qb n lid) (h1 : w.cell? ⟨b1, 0, none⟩ = some (.pointer (some ⟨rb, 0, none⟩)))
    (h2 : w.cell? ⟨rb, 43, none⟩ = some (.slice (some ⟨qb, 0, none⟩) n n)) (h3 : w.cell? ⟨b2, 0, none⟩ = some (.int .u64 (l : Nat))) :
    Calls Yba.prog 32 #[.int .u64 ((x : Int) + 1), .pointer (some ⟨b1, 0, none⟩), .pointer (some ⟨b2, 0, none⟩)] w
      fun e w' => e = .returned (.bool ((lid x : Int) != (l : Int))) ∧ ∃ q, w' = w.drewN q := by
  obtain ⟨b, hc, _, hl⟩ := hA.at_ x hx
  have hx0 : (0 : Int) ≤ (x : Int) := by omega
  have hx1 : (x : Int) < (n : Int) := by omega
  go_enter Yba.func32, Yba.ntmps32
  go_wp2_with fail
  go_quiet ((go_at_call 31; exact Calls.quiet_of_same (leader_any b _ _ (by simpa using hl))))
  go_wp2
  go_ret
  exact ⟨rfl, _, rfl⟩

set_option maxHeartbeats 400000 in
theorem index_id (g cap : Nat) (R : List Nat) (l : Nat) (w : World) (hn : R.length ≤ 256) (hc : ∀ (p x : Nat), R[p]? = some x → w.cell? ⟨g, p, none⟩ = some (.int .u64 ((x : Int) + 1))) :
    Calls Yba.prog 44 #[.slice (some ⟨g, 0, none⟩) R.length cap, .int .u64 (l : Nat)] w
      fun e w' => (∃ j : Int, e = .returned (.int .i64 j) ∧ (0 ≤ j ↔ ∃ x, x ∈ R ∧ x + 1 = l)) ∧ w' = w := by
  have HC : Hid (∀ (p x : Nat), R[p]? = some x → w.cell? ⟨g, p, none⟩ = some (.int .u64 ((x : Int) + 1))) := hc
  clear hc
  go_enter Yba.func44, Yba.ntmps44
  go_wp2_with fail
  go_loop [8] (fun i => ∃ k : Nat, k ≤ R.length ∧ i = .int .i64 k ∧ Hid (∀ (p x : Nat), p < k → R[p]? = some x → x + 1 ≠ l)) (fun i => R.length - (intOf i).toNat)
  case atStart => exact ⟨0, Nat.zero_le _, rfl, fun p x hp => absurd hp (Nat.not_lt_zero _)⟩
  case round =>
    obtain ⟨k, hk, rfl, hno⟩ := hrel
    by_cases hlt : k < R.length
    · obtain ⟨x, hx⟩ : ∃ x, R[k]? = some x := ⟨R[k], by simp [hlt]⟩
      have hcx := HC.out k x hx
      have HX : Hid (R[k]? = some x) := hx
      clear hx
      by_cases hxl : x + 1 = l
      · have hb : ((l : Int) == (x : Int) + 1) = true := by rw [beq_iff_eq]; omega
        go_wp2_with fail
        go_ret
        exact ⟨⟨_, rfl, fun _ => ⟨x, List.mem_of_getElem? HX.out, hxl⟩, fun _ => by omega⟩, rfl⟩
      · have hb : ((l : Int) == (x : Int) + 1) = false := by rw [beq_eq_false_iff_ne]; omega
        go_wp2_with fail
        go_round
        case rel =>
          refine ⟨k + 1, by omega, by go_num, fun p y hp hy => ?_⟩
          by_cases hpk : p = k
          · subst hpk; rw [HX.out] at hy; cases hy; exact hxl
          · exact hno.out p y (by omega) hy
        case measure => simp [intOf]; omega
    · go_wp2_with fail
      go_ret
      refine ⟨⟨_, rfl, fun h => absurd h (by omega), fun ⟨x, hx, hxl⟩ => ?_⟩, rfl⟩
      obtain ⟨p, hp⟩ := List.getElem?_of_mem hx
      exact absurd hxl (hno.out p x (Nat.lt_of_lt_of_le (List.getElem?_eq_some_iff.1 hp).1 (by omega)) hp)

def inB (R : List Nat) (l : Nat) : Bool := R.any fun x => x + 1 == l
theorem inB_iff (R : List Nat) (l : Nat) : inB R l = true ↔ ∃ x, x ∈ R ∧ x + 1 = l := by simp [inB]

set_option maxHeartbeats 400000 in
theorem contains_id (g cap : Nat) (R : List Nat) (l : Nat) (w : World) (hn : R.length ≤ 256) (hc : ∀ (p x : Nat), R[p]? = some x → w.cell? ⟨g, p, none⟩ = some (.int .u64 ((x : Int) + 1))) :
    Calls Yba.prog 33 #[.slice (some ⟨g, 0, none⟩) R.length cap, .int .u64 (l : Nat)] w
      fun e w' => e = .returned (.bool (inB R l)) ∧ w' = w := by
  go_enter Yba.func33, Yba.ntmps33
  go_wp2_with fail
  refine (index_id g cap R l w hn hc).mono ?_
  rintro e w1 ⟨⟨j, rfl, hj⟩, rfl⟩
  have HJ : Hid (decide (0 ≤ j) = inB R l) := by
    show decide (0 ≤ j) = inB R l
    rw [Bool.eq_iff_iff, inB_iff, decide_eq_true_eq]; exact hj
  clear hj
  go_wp2_with fail
  go_ret
  exact ⟨ret_bool HJ.out, rfl⟩

def othB (R : List Nat) (lid : Nat → Nat) (l : Nat) : Bool := R.any fun x => lid x != l
theorem othB_iff (R : List Nat) (lid : Nat → Nat) (l : Nat) : othB R lid l = true ↔ ∃ x, x ∈ R ∧ lid x ≠ l := by simp [othB]

set_option maxHeartbeats 400000 in
theorem indexf_id (n B qb rb b1 b2 g cap : Nat) (R : List Nat) (l : Nat) (lid : Nat → Nat) (w : World) (hn : n ≤ 256) (hRn : R.length ≤ 256) (hR : ∀ x, x ∈ R → x < n) (hc : ∀ (p x : Nat), R[p]? = some x → w.cell? ⟨g, p, none⟩ = some (.int .u64 ((x : Int) + 1)))
    (hA : NA w B qb n lid) (h1 : w.cell? ⟨b1, 0, none⟩ = some (.pointer (some ⟨rb, 0, none⟩))) (h2 : w.cell? ⟨rb, 43, none⟩ = some (.slice (some ⟨qb, 0, none⟩) n n)) (h3 : w.cell? ⟨b2, 0, none⟩ = some (.int .u64 (l : Nat))) :
    Calls Yba.prog 45 #[.slice (some ⟨g, 0, none⟩) R.length cap, .func (.func 32) #[] #[.pointer (some ⟨b1, 0, none⟩), .pointer (some ⟨b2, 0, none⟩)]] w
      fun e w' => (∃ j : Int, e = .returned (.int .i64 j) ∧ (0 ≤ j ↔ ∃ x, x ∈ R ∧ lid x ≠ l)) ∧ ∃ q, w' = w.drewN q := by
  have HC : Hid (∀ (p x : Nat), R[p]? = some x → w.cell? ⟨g, p, none⟩ = some (.int .u64 ((x : Int) + 1))) := hc
  clear hc
  go_enter Yba.func45, Yba.ntmps45
  go_wp2_with fail
  go_loopw [8] (fun i wr => ∃ k q : Nat, k ≤ R.length ∧ i = .int .i64 k ∧ Hid (∀ (p x : Nat), p < k → R[p]? = some x → lid x = l) ∧ wr = w.drewN q) (fun i _ => R.length - (intOf i).toNat)
  case atStart => exact ⟨0, 0, Nat.zero_le _, rfl, fun p x hp => absurd hp (Nat.not_lt_zero _), rfl⟩
  case round =>
    obtain ⟨k, q, hk, rfl, hno, rfl⟩ := hrel
    by_cases hlt : k < R.length
    · obtain ⟨x, hx⟩ : ∃ x, R[k]? = some x := ⟨R[k], by simp [hlt]⟩
      have hcx := HC.out k x hx
      have hxn := hR x (List.mem_of_getElem? hx)
      have HX : Hid (R[k]? = some x) := hx
      clear hx
      go_wp2_with fail
      refine (other_any n B qb rb b1 b2 x l lid _ hn hxn (hA.later (below_drewN (Below.refl _ _) _)) h1 h2 h3).mono ?_
      rintro e w1 ⟨rfl, q1, rfl⟩
      by_cases hxl : lid x = l
      · have hb : ((lid x : Int) != (l : Int)) = false := by rw [hxl]; simp
        go_wp2_with fail
        refine ⟨⟨k + 1, _, by omega, by go_num, fun p y hp hy => ?_, rfl⟩, by simp [intOf]; omega⟩
        by_cases hpk : p = k
        · subst hpk; rw [HX.out] at hy; cases hy; exact hxl
        · exact hno.out p y (by omega) hy
      · have hb : ((lid x : Int) != (l : Int)) = true := by rw [bne_iff_ne]; omega
        go_wp2_with fail
        go_ret
        exact ⟨⟨_, rfl, fun _ => ⟨x, List.mem_of_getElem? HX.out, hxl⟩, fun _ => by omega⟩, _, rfl⟩
    · go_wp2_with fail
      go_ret
      refine ⟨⟨_, rfl, fun h => absurd h (by omega), fun ⟨x, hx, hxl⟩ => ?_⟩, _, rfl⟩
      obtain ⟨p, hp⟩ := List.getElem?_of_mem hx
      exact absurd (hno.out p x (Nat.lt_of_lt_of_le (List.getElem?_eq_some_iff.1 hp).1 (by omega)) hp) hxl

set_option maxHeartbeats 400000 in
theorem containsf_id (n B qb rb b1 b2 g cap : Nat) (R : List Nat) (l : Nat) (lid : Nat → Nat) (w : World) (hn : n ≤ 256) (hRn : R.length ≤ 256) (hR : ∀ x, x ∈ R → x < n) (hc : ∀ (p x : Nat), R[p]? = some x → w.cell? ⟨g, p, none⟩ = some (.int .u64 ((x : Int) + 1)))
    (hA : NA w B qb n lid) (h1 : w.cell? ⟨b1, 0, none⟩ = some (.pointer (some ⟨rb, 0, none⟩))) (h2 : w.cell? ⟨rb, 43, none⟩ = some (.slice (some ⟨qb, 0, none⟩) n n)) (h3 : w.cell? ⟨b2, 0, none⟩ = some (.int .u64 (l : Nat))) :
    Calls Yba.prog 34 #[.slice (some ⟨g, 0, none⟩) R.length cap, .func (.func 32) #[] #[.pointer (some ⟨b1, 0, none⟩), .pointer (some ⟨b2, 0, none⟩)]] w
      fun e w' => e = .returned (.bool (othB R lid l)) ∧ ∃ q, w' = w.drewN q := by
  go_enter Yba.func34, Yba.ntmps34
  go_wp2_with fail
  refine (indexf_id n B qb rb b1 b2 g cap R l lid w hn hRn hR hc hA h1 h2 h3).mono ?_
  rintro e w1 ⟨⟨j, rfl, hj⟩, q, rfl⟩
  have HJ : Hid (decide (0 ≤ j) = othB R lid l) := by
    show decide (0 ≤ j) = othB R lid l
    rw [Bool.eq_iff_iff, othB_iff, decide_eq_true_eq]; exact hj
  clear hj
  go_wp2_with fail
  go_ret
  exact ⟨ret_bool HJ.out, _, rfl⟩

end Go.Proofs.Ybulknri
