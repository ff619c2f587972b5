import Derived.Test.YbulknriRows
import Derived.WalkKit
import Derived.WalkSpells
import Derived.WalkLawsBesides
import Derived.Deep.QuietTactic
import Derived.BigQuiet
import Derived.Deep.RegionHeld3
import Derived.Deep.DrawnRows
namespace Go.Proofs.Ybulknri
open Go.RowKit

def cmpI (a b : Int) : Int := if a < b then -1 else if b < a then 1 else 0
def bitI (b : Bool) : Int := if b then 1 else 0

set_option maxHeartbeats 400000 in
theorem bit_any (b : Bool) (w : World) :
    Calls Yba.prog 22 #[.bool b] w fun e w' => e = .returned (.int .i64 (bitI b)) ∧ w' = w := by
  cases b <;>
  · go_enter Yba.func22, Yba.ntmps22
    go_wp2
    go_ret
    exact ⟨rfl, rfl⟩

set_option maxHeartbeats 400000 in
theorem nan3 (a : Int) (w : World) :
    Calls Yba.prog 40 #[.int .i64 a] w fun e w' => e = .returned (.bool false) ∧ w' = w := by
  have h : (a != a) = false := by simp
  go_enter Yba.func40, Yba.ntmps40
  go_wp2
  go_ret
  exact ⟨rfl, rfl⟩

set_option maxHeartbeats 400000 in
theorem nan2 (a : Int) (w : World) :
    Calls Yba.prog 41 #[.int .i64 a] w fun e w' => e = .returned (.bool false) ∧ w' = w := by
  go_enter Yba.func41, Yba.ntmps41
  go_wp2
  go_ret
  exact ⟨rfl, rfl⟩

set_option maxHeartbeats 400000 in
theorem nan22 (a : Int) (w : World) :
    Calls Yba.prog 46 #[.int .u64 a] w fun e w' => e = .returned (.bool false) ∧ w' = w := by
  go_enter Yba.func46, Yba.ntmps46
  go_wp2
  go_ret
  exact ⟨rfl, rfl⟩

set_option maxHeartbeats 400000 in
theorem cmp3 (a b : Int) (w : World) :
    Calls Yba.prog 25 #[.int .i64 a, .int .i64 b] w fun e w' => e = .returned (.int .i64 (cmpI a b)) ∧ w' = w := by
  go_enter Yba.func25, Yba.ntmps25
  go_wp2
  all_goals
    go_ret
    refine ⟨?_, rfl⟩
    simp only [cmpI]
    first
      | (rw [if_pos (by omega)]; rfl)
      | (rw [if_neg (by omega), if_pos (by omega)]; rfl)
      | (rw [if_neg (by omega), if_neg (by omega)]; rfl)

set_option maxHeartbeats 400000 in
theorem cmp2 (a b : Int) (w : World) :
    Calls Yba.prog 26 #[.int .i64 a, .int .i64 b] w fun e w' => e = .returned (.int .i64 (cmpI a b)) ∧ w' = w := by
  go_enter Yba.func26, Yba.ntmps26
  go_wp2
  all_goals
    go_ret
    refine ⟨?_, rfl⟩
    simp only [cmpI]
    first
      | (rw [if_pos (by omega)]; rfl)
      | (rw [if_neg (by omega), if_pos (by omega)]; rfl)
      | (rw [if_neg (by omega), if_neg (by omega)]; rfl)

set_option maxHeartbeats 400000 in
theorem cmp22 (a b : Int) (w : World) :
    Calls Yba.prog 38 #[.int .u64 a, .int .u64 b] w fun e w' => e = .returned (.int .i64 (cmpI a b)) ∧ w' = w := by
  go_enter Yba.func38, Yba.ntmps38
  go_wp2
  all_goals
    go_ret
    refine ⟨?_, rfl⟩
    simp only [cmpI]
    first
      | (rw [if_pos (by omega)]; rfl)
      | (rw [if_neg (by omega), if_pos (by omega)]; rfl)
      | (rw [if_neg (by omega), if_neg (by omega)]; rfl)

theorem ret_int {k : IntKind} {a b : Int} (h : a = b) : Ending.returned (.int k a) = .returned (.int k b) := by rw [h]

def orI : List Int → Int
  | [] => 0
  | x :: xs => if x = 0 then orI xs else x

theorem orI_zeros (xs : List Int) (k : Nat) (h : ∀ i, i < k → xs.getD i 0 = 0) : orI xs = orI (xs.drop k) := by
  induction k generalizing xs with
  | zero => rfl
  | succ k ih =>
    cases xs with
    | nil => rfl
    | cons x xs =>
      have h0 : x = 0 := by simpa using h 0 (by omega)
      subst h0
      simp only [orI, if_true, List.drop_succ_cons]
      exact ih xs fun i hi => by simpa using h (i + 1) (by omega)

theorem orI_all (xs : List Int) (h : ∀ i, i < xs.length → xs.getD i 0 = 0) : orI xs = 0 := by
  rw [orI_zeros xs xs.length h, List.drop_length]; rfl

theorem orI_at (xs : List Int) (k : Nat) (h : ∀ i, i < k → xs.getD i 0 = 0) (hk : k < xs.length) (hn : xs.getD k 0 ≠ 0) : orI xs = xs.getD k 0 := by
  rw [orI_zeros xs k h]
  have : xs.drop k = xs.getD k 0 :: xs.drop (k + 1) := by
    rw [List.drop_eq_getElem_cons hk]; simp [List.getD_eq_getElem?_getD, hk]
  rw [this]; simp only [orI]; rw [if_neg hn]

set_option maxHeartbeats 400000 in
theorem or_any (b : Nat) (xs : List Int) (cap : Nat) (w : World) (hl : xs.length ≤ 8)
    (hc : ∀ i, i < xs.length → w.cell? ⟨b, i, none⟩ = some (.int .i64 (xs.getD i 0))) :
    Calls Yba.prog 24 #[.slice (some ⟨b, 0, none⟩) xs.length cap] w fun e w' => e = .returned (.int .i64 (orI xs)) ∧ w' = w := by
  go_enter Yba.func24, Yba.ntmps24
  go_wp2
  go_loop [8] (fun i => ∃ k : Nat, k ≤ xs.length ∧ i = .int .i64 k ∧ ∀ j, j < k → xs.getD j 0 = 0) (fun i => xs.length - (intOf i).toNat)
  case atStart => exact ⟨0, Nat.zero_le _, rfl, fun j hj => absurd hj (Nat.not_lt_zero _)⟩
  case round =>
    obtain ⟨k, hk, rfl, hz0⟩ := hrel
    have hz : Hid (∀ j, j < k → xs.getD j 0 = 0) := hz0
    clear hz0
    by_cases hlt : k < xs.length
    · have hck := hc k hlt
      have hgd : Hid (xs.getD k 0 = xs[k]) := by show xs.getD k 0 = xs[k]; simp [List.getD_eq_getElem?_getD, hlt]
      go_wp2
      · go_ret
        have hne : (xs[k] != 0) = true := by assumption
        exact ⟨ret_int (by rw [orI_at xs k hz.out hlt (by rw [hgd.out]; simpa using hne), hgd.out]), rfl⟩
      · have hne : (xs[k] != 0) = false := by assumption
        go_round
        case rel =>
          exact ⟨k + 1, by omega, by go_num, fun j hj => by
            by_cases h : j = k
            · subst h; rw [hgd.out]; simpa using hne
            · exact hz.out j (by omega)⟩
        case measure => simp [intOf]; omega
    · go_wp2
      go_ret
      exact ⟨ret_int (orI_all xs fun i hi => hz.out i (by omega)).symm, rfl⟩

theorem or2_any (b cap : Nat) (x y : Int) (w : World) (h0 : w.cell? ⟨b, 0, none⟩ = some (.int .i64 x)) (h1 : w.cell? ⟨b, 1, none⟩ = some (.int .i64 y)) :
    Calls Yba.prog 24 #[.slice (some ⟨b, 0, none⟩) 2 cap] w fun e w' => e = .returned (.int .i64 (orI [x, y])) ∧ w' = w :=
  or_any b [x, y] cap w (by simp) fun i hi => by
    match i, hi with
    | 0, _ => exact h0
    | 1, _ => exact h1

theorem or3_any (b cap : Nat) (x y z : Int) (w : World) (h0 : w.cell? ⟨b, 0, none⟩ = some (.int .i64 x)) (h1 : w.cell? ⟨b, 1, none⟩ = some (.int .i64 y)) (h2 : w.cell? ⟨b, 2, none⟩ = some (.int .i64 z)) :
    Calls Yba.prog 24 #[.slice (some ⟨b, 0, none⟩) 3 cap] w fun e w' => e = .returned (.int .i64 (orI [x, y, z])) ∧ w' = w :=
  or_any b [x, y, z] cap w (by simp) fun i hi => by
    match i, hi with
    | 0, _ => exact h0
    | 1, _ => exact h1
    | 2, _ => exact h2

theorem or4_any (b cap : Nat) (x y z u : Int) (w : World) (h0 : w.cell? ⟨b, 0, none⟩ = some (.int .i64 x)) (h1 : w.cell? ⟨b, 1, none⟩ = some (.int .i64 y)) (h2 : w.cell? ⟨b, 2, none⟩ = some (.int .i64 z)) (h3 : w.cell? ⟨b, 3, none⟩ = some (.int .i64 u)) :
    Calls Yba.prog 24 #[.slice (some ⟨b, 0, none⟩) 4 cap] w fun e w' => e = .returned (.int .i64 (orI [x, y, z, u])) ∧ w' = w :=
  or_any b [x, y, z, u] cap w (by simp) fun i hi => by
    match i, hi with
    | 0, _ => exact h0
    | 1, _ => exact h1
    | 2, _ => exact h2
    | 3, _ => exact h3

end Go.Proofs.Ybulknri
