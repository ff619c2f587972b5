import Derived.Test.YbulknriChanged
import Derived.Deep.DeepAppendRoom
import Derived.Maps.AppendAt
namespace Go.Proofs.Ybulknri
open Go.RowKit

theorem Yba.info103 : (Yba.prog.info? 103).map (fun i => (i.zero, i.size, i.bytes)) = some (some (.agg #[.int .u64 0, .int .i64 0, .int .u64 0, .bool false, .int .i64 0, .int .i64 0, .int .u64 0, .int .u64 0, .int .u64 0, .int .u64 0, .int .i64 0, .int .u64 0, .bool false]), 13, 104) := by kernel_rfl

def cellsL (L : Lnk) : List Value := [.int .u64 L.id, .int .i64 L.t, .int .u64 L.o, .bool L.r, .int .i64 L.d, .int .i64 L.n, .int .u64 L.l, .int .u64 L.i, .int .u64 L.sl, .int .u64 L.sp, .int .i64 L.sd, .int .u64 L.via, .bool L.known]

def rowL (L : Nat → Lnk) : Nat → List Value
  | 0 => []
  | k + 1 => rowL L k ++ cellsL (L k)

theorem length_rowL (L : Nat → Lnk) (n : Nat) : (rowL L n).length = n * 13 := by
  induction n with
  | zero => rfl
  | succ n ih => rw [rowL, List.length_append, ih, Nat.succ_mul]; rfl

theorem rowL_at (L : Nat → Lnk) (n k j : Nat) (hk : k < n) (hj : j < 13) : (rowL L n)[k * 13 + j]? = (cellsL (L k))[j]? := by
  induction n with
  | zero => omega
  | succ n ih =>
    rw [rowL]
    by_cases h : k < n
    · rw [List.getElem?_append_left (by rw [length_rowL]; omega)]; exact ih h
    · obtain rfl : k = n := by omega
      rw [List.getElem?_append_right (by rw [length_rowL]; omega), length_rowL, Nat.add_sub_cancel_left]

theorem linkOf {w : World} {base g n cap : Nat} {L : Nat → Lnk} (h : w.ownsRow base 103 13 (.slice (some ⟨g, 0, none⟩) n cap) n (rowL L n)) (k : Nat) (hk : k < n) : HasLink w g (k * 13) (L k) := by
  have hc := h.cells (g := g) rfl
  have hat : ∀ j u, j < 13 → (cellsL (L k))[j]? = some u → w.cell? ⟨g, k * 13 + j, none⟩ = some u := fun j u hj hu => by
    have := hc (k * 13 + j) u (by rw [rowL_at L n k j hk hj]; exact hu)
    rwa [Addr.add_lit, Nat.zero_add] at this
  exact ⟨hat 0 _ (by decide) rfl, hat 1 _ (by decide) rfl, hat 2 _ (by decide) rfl, hat 3 _ (by decide) rfl, hat 4 _ (by decide) rfl, hat 5 _ (by decide) rfl, hat 6 _ (by decide) rfl, hat 7 _ (by decide) rfl, hat 8 _ (by decide) rfl,
    hat 9 _ (by decide) rfl, hat 10 _ (by decide) rfl, hat 11 _ (by decide) rfl, hat 12 _ (by decide) rfl⟩


theorem newsOf (W : World) (E : TypeId) (xs : List Value) (n : Nat) (hn : n = W.heap.size) : ∀ j u, xs[j]? = some u → (W.alloc (.cells xs.toArray E)).cell? ((⟨n, 0, none⟩ : Addr).add j) = some u := fun j u h => by
  subst hn
  rw [Addr.add_lit, Nat.zero_add, World.cell?_alloc_new]
  simpa using h
theorem oneL (L : Lnk) : ∀ u ∈ cellsL L, u.oneCell' = true := by
  intro u hu
  simp [cellsL] at hu
  rcases hu with rfl | rfl | rfl | rfl | rfl | rfl | rfl | rfl | rfl | rfl | rfl | rfl | rfl <;> rfl

set_option maxRecDepth 100000 in
set_option maxHeartbeats 1000000 in
theorem build_some (t o : Int) (r : Bool) (d n l i sl sp sd via oth rem : Int) (lsb o0 len cap : Nat) (L : Nat → Lnk) (w : World) (hlen : len ≤ 1024) (hL : ∀ k, k < len → HasLink w lsb (o0 + k * 13) (L k)) :
    Calls Yba.prog 8 #[.agg #[.int .i64 t, .int .u64 o, .bool r, .int .i64 d, .int .i64 n, .int .u64 l, .int .u64 i], .agg #[.int .u64 sl, .int .u64 sp, .int .i64 sd], .int .u64 via, .int .i64 oth, .int .i64 rem, .slice (some ⟨lsb, o0, none⟩) len cap] w
      fun e w' => ∃ nb lb, e = .returned (.pointer (some ⟨nb, 0, none⟩)) ∧ HasNode w' nb ⟨t, o, r, d, n, l, i, sl, sp, sd, via, oth, rem, 0⟩ (.slice (some ⟨lb, 0, none⟩) len len) ∧ (∀ k, k < len → HasLink w' lb (k * 13) (L k)) ∧
        lb ≠ nb ∧ (∀ j, w'.frozen? ⟨nb, j, none⟩ = false) ∧ w.heap.size ≤ nb ∧ Below w.heap.size w w' := by
  obtain ⟨i0, hi, hz0, hz1, hz2⟩ := info_parts Yba.info103
  go_enter Yba.func8, Yba.ntmps8
  have hB0 : Below w.heap.size w ((w.alloc (boxH t o r d n l i)).alloc (.cells #[.int .u64 sl, .int .u64 sp, .int .i64 sd] 26)) := bAlloc (bAlloc (Below.refl _ _) _) _
  have hH0 : HasHgt ((w.alloc (boxH t o r d n l i)).alloc (.cells #[.int .u64 sl, .int .u64 sp, .int .i64 sd] 26)) w.heap.size t o r d n l i := by constructor <;> simp [boxH, go_sem]
  have s0 : ((w.alloc (boxH t o r d n l i)).alloc (.cells #[.int .u64 sl, .int .u64 sp, .int .i64 sd] 26)).cell? ⟨w.heap.size + 1, 0, none⟩ = some (.int .u64 sl) := by simp [go_sem]
  have s1 : ((w.alloc (boxH t o r d n l i)).alloc (.cells #[.int .u64 sl, .int .u64 sp, .int .i64 sd] 26)).cell? ⟨w.heap.size + 1, 1, none⟩ = some (.int .u64 sp) := by simp [go_sem]
  have s2 : ((w.alloc (boxH t o r d n l i)).alloc (.cells #[.int .u64 sl, .int .u64 sp, .int .i64 sd] 26)).cell? ⟨w.heap.size + 1, 2, none⟩ = some (.int .i64 sd) := by simp [go_sem]
  have hz3 : ((w.alloc (boxH t o r d n l i)).alloc (.cells #[.int .u64 sl, .int .u64 sp, .int .i64 sd] 26)).heap.size = w.heap.size + 1 + 1 := by simp
  go_wp2_with (first
    | (at_make; refine wpList_make_own _ rfl _ _ 31 rfl (w.heap.size + 1 + 1) 103 i0 _ 13 Yba.underlying31 hi hz0 hz1 .i64 .i64 _ len rfl rfl rfl (by rw [hz2]; omega) (by unfold maxLen; omega) (by simp) ?_; intro w0 hown0 hgrow0))
  generalize (w.alloc (boxH t o r d n l i)).alloc (.cells #[.int .u64 sl, .int .u64 sp, .int .i64 sd] 26) = W0 at *
  have hL0 := fun k hk => (hL k hk).later hB0
  have hbw : Below (w.heap.size + 1 + 1) W0 w0 := (Below.refl _ _).grown hgrow0 (by omega) (fun k h => by cases h)
  clear hL hgrow0
  rw [hz3] at hown0
  have HZ : Hid (W0.heap.size = w.heap.size + 1 + 1) := hz3
  clear hz3
  go_loopw [13, 14] (fun v i wr => ∃ k : Nat, k ≤ len ∧ i = .int .i64 k ∧ v = .slice (some ⟨w.heap.size + 1 + 1, 0, none⟩) k len ∧ wr.ownsRow (w.heap.size + 1 + 1) 103 13 v k (rowL L k) ∧ Below (w.heap.size + 1 + 1) W0 wr) (fun _ i _ => len - (intOf i).toNat)
  case atStart => exact ⟨0, Nat.zero_le _, rfl, rfl, hown0, hbw⟩
  case round =>
    obtain ⟨k, hk, rfl, rfl, hown, hbr⟩ := hrel
    clear hown0 hbw
    by_cases hlt : k < len
    · have hbr' : Below W0.heap.size W0 wr := by rw [HZ.out]; exact hbr
      have hsz : w.heap.size + 1 + 1 ≤ wr.heap.size := by have := hbr.size; rw [HZ.out] at this; exact this
      obtain ⟨k0, k1, k2, k3, k4, k5, k6, k7, k8, k9, k10, k11, k12⟩ := (hL0 k hlt).later hbr'
      go_wp2_with (first
        | (at_builtin; refine wpList_append_own_spare _ rfl (.tmp 29) (.tmp 41) 31 rfl (w.heap.size + 1 + 1) 103 i0 13 Yba.underlying31 hi hz1 (w.heap.size + 1 + 1) k len _ rfl ((hown.alloc _).alloc _) ⟨wr.heap.size + 1, 0, none⟩ 1 1 (cellsL (L k)) rfl rfl (newsOf _ _ _ _ (by simp)) (oneL _) (by omega) ?_; intro w1 hown1 hgrow1))
      exact ⟨⟨k + 1, by omega, by go_num, rfl, hown1, ((hbr.alloc hsz _).alloc (by simp; omega) _).grown hgrow1 (by simp; omega) (fun j hj => by cases hj; exact Nat.le_refl _)⟩, by simp [intOf]; omega⟩
    · obtain rfl : k = len := by omega
      have hsz : w.heap.size + 1 + 1 ≤ wr.heap.size := by have := hbr.size; rw [HZ.out] at this; exact this
      obtain ⟨h0, h1, h2, h3, h4, h5, h6⟩ := hH0.later hbr (by omega)
      replace s0 := (hbr.cell (p := ⟨w.heap.size + 1, 0, none⟩) (Nat.lt_succ_self _)).trans s0
      replace s1 := (hbr.cell (p := ⟨w.heap.size + 1, 1, none⟩) (Nat.lt_succ_self _)).trans s1
      replace s2 := (hbr.cell (p := ⟨w.heap.size + 1, 2, none⟩) (Nat.lt_succ_self _)).trans s2
      have hB2 : Below w.heap.size w wr := hB0.trans (hbr.mono (by omega))
      have hlk := fun k hk => linkOf hown k hk
      have hg : w.heap.size + 1 + 1 < wr.heap.size := (hown.lt _ rfl).2
      clear hL0 hH0 hB0
      go_wp2_with fail
      go_ret
      refine ⟨wr.heap.size, w.heap.size + 1 + 1, rfl, ?_, fun k hk => (hlk k hk).later (bAlloc (Below.refl _ _) _), by omega, fun j => by simp [go_sem], hB2.size, bAlloc hB2 _⟩
      constructor <;> simp [go_sem]

set_option maxRecDepth 100000 in
set_option maxHeartbeats 1000000 in
theorem build_nil (t o : Int) (r : Bool) (d n l i sl sp sd via oth rem : Int) (a : Option Addr) (cap : Nat) (L : Nat → Lnk) (w : World) :
    Calls Yba.prog 8 #[.agg #[.int .i64 t, .int .u64 o, .bool r, .int .i64 d, .int .i64 n, .int .u64 l, .int .u64 i], .agg #[.int .u64 sl, .int .u64 sp, .int .i64 sd], .int .u64 via, .int .i64 oth, .int .i64 rem, .slice a 0 cap] w
      fun e w' => ∃ nb lb, e = .returned (.pointer (some ⟨nb, 0, none⟩)) ∧ HasNode w' nb ⟨t, o, r, d, n, l, i, sl, sp, sd, via, oth, rem, 0⟩ (.slice (some ⟨lb, 0, none⟩) 0 0) ∧ (∀ k, k < 0 → HasLink w' lb (k * 13) (L k)) ∧
        lb ≠ nb ∧ (∀ j, w'.frozen? ⟨nb, j, none⟩ = false) ∧ w.heap.size ≤ nb ∧ Below w.heap.size w w' := by
  obtain ⟨i0, hi, hz0, hz1, hz2⟩ := info_parts Yba.info103
  go_enter Yba.func8, Yba.ntmps8
  have hB0 : Below w.heap.size w ((w.alloc (boxH t o r d n l i)).alloc (.cells #[.int .u64 sl, .int .u64 sp, .int .i64 sd] 26)) := bAlloc (bAlloc (Below.refl _ _) _) _
  have hH0 : HasHgt ((w.alloc (boxH t o r d n l i)).alloc (.cells #[.int .u64 sl, .int .u64 sp, .int .i64 sd] 26)) w.heap.size t o r d n l i := by constructor <;> simp [boxH, go_sem]
  have s0 : ((w.alloc (boxH t o r d n l i)).alloc (.cells #[.int .u64 sl, .int .u64 sp, .int .i64 sd] 26)).cell? ⟨w.heap.size + 1, 0, none⟩ = some (.int .u64 sl) := by simp [go_sem]
  have s1 : ((w.alloc (boxH t o r d n l i)).alloc (.cells #[.int .u64 sl, .int .u64 sp, .int .i64 sd] 26)).cell? ⟨w.heap.size + 1, 1, none⟩ = some (.int .u64 sp) := by simp [go_sem]
  have s2 : ((w.alloc (boxH t o r d n l i)).alloc (.cells #[.int .u64 sl, .int .u64 sp, .int .i64 sd] 26)).cell? ⟨w.heap.size + 1, 2, none⟩ = some (.int .i64 sd) := by simp [go_sem]
  have hz3 : ((w.alloc (boxH t o r d n l i)).alloc (.cells #[.int .u64 sl, .int .u64 sp, .int .i64 sd] 26)).heap.size = w.heap.size + 1 + 1 := by simp
  go_wp2_with (first
    | (at_make; refine wpList_make_own _ rfl _ _ 31 rfl (w.heap.size + 1 + 1) 103 i0 _ 13 Yba.underlying31 hi hz0 hz1 .i64 .i64 _ 0 rfl rfl rfl (by rw [hz2]; omega) (by unfold maxLen; omega) (by simp) ?_; intro w0 hown0 hgrow0))
  generalize (w.alloc (boxH t o r d n l i)).alloc (.cells #[.int .u64 sl, .int .u64 sp, .int .i64 sd] 26) = W0 at *
  have hbw : Below (w.heap.size + 1 + 1) W0 w0 := (Below.refl _ _).grown hgrow0 (by omega) (fun k h => by cases h)
  clear hgrow0
  rw [hz3] at hown0
  have HZ : Hid (W0.heap.size = w.heap.size + 1 + 1) := hz3
  clear hz3
  go_loopw [13, 14] (fun v i wr => ∃ k : Nat, k ≤ 0 ∧ i = .int .i64 k ∧ v = .slice (some ⟨w.heap.size + 1 + 1, 0, none⟩) k 0 ∧ wr.ownsRow (w.heap.size + 1 + 1) 103 13 v k (rowL L k) ∧ Below (w.heap.size + 1 + 1) W0 wr) (fun _ i _ => 0 - (intOf i).toNat)
  case atStart => exact ⟨0, Nat.zero_le _, rfl, rfl, hown0, hbw⟩
  case round =>
    obtain ⟨k, hk, rfl, rfl, hown, hbr⟩ := hrel
    clear hown0 hbw
    obtain rfl : k = 0 := by omega
    have hsz : w.heap.size + 1 + 1 ≤ wr.heap.size := by have := hbr.size; rw [HZ.out] at this; exact this
    obtain ⟨h0, h1, h2, h3, h4, h5, h6⟩ := hH0.later hbr (by omega)
    replace s0 := (hbr.cell (p := ⟨w.heap.size + 1, 0, none⟩) (Nat.lt_succ_self _)).trans s0
    replace s1 := (hbr.cell (p := ⟨w.heap.size + 1, 1, none⟩) (Nat.lt_succ_self _)).trans s1
    replace s2 := (hbr.cell (p := ⟨w.heap.size + 1, 2, none⟩) (Nat.lt_succ_self _)).trans s2
    have hB2 : Below w.heap.size w wr := hB0.trans (hbr.mono (by omega))
    have hlk := fun k hk => linkOf hown k hk
    have hg : w.heap.size + 1 + 1 < wr.heap.size := (hown.lt _ rfl).2
    clear hH0 hB0
    go_wp2_with fail
    go_ret
    refine ⟨wr.heap.size, w.heap.size + 1 + 1, rfl, ?_, fun k hk => (hlk k hk).later (bAlloc (Below.refl _ _) _), by omega, fun j => by simp [go_sem], hB2.size, bAlloc hB2 _⟩
    constructor <;> simp [go_sem]

end Go.Proofs.Ybulknri
