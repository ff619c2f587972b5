import Derived.Test.YbulknriCmp
namespace Go.Proofs.Ybulknri
open Go.RowKit
attribute [local go_sem ↓] Go.wp_at_zero Go.wp_at_succ

/-- What a HeightNode holds, but for its links. -/
structure Nod where
  t : Int
  o : Int
  r : Bool
  d : Int
  n : Int
  l : Int
  i : Int
  sl : Int
  sp : Int
  sd : Int
  via : Int
  oth : Int
  rem : Int
  lc : Int

/-- What a heightLink holds. -/
structure Lnk where
  id : Int
  t : Int
  o : Int
  r : Bool
  d : Int
  n : Int
  l : Int
  i : Int
  sl : Int
  sp : Int
  sd : Int
  via : Int
  known : Bool

structure HasNode (w : World) (nb : Nat) (N : Nod) (lk : Value) : Prop where
  c0 : w.cell? ⟨nb, 0, none⟩ = some (.int .i64 N.t)
  c1 : w.cell? ⟨nb, 1, none⟩ = some (.int .u64 N.o)
  c2 : w.cell? ⟨nb, 2, none⟩ = some (.bool N.r)
  c3 : w.cell? ⟨nb, 3, none⟩ = some (.int .i64 N.d)
  c4 : w.cell? ⟨nb, 4, none⟩ = some (.int .i64 N.n)
  c5 : w.cell? ⟨nb, 5, none⟩ = some (.int .u64 N.l)
  c6 : w.cell? ⟨nb, 6, none⟩ = some (.int .u64 N.i)
  c7 : w.cell? ⟨nb, 7, none⟩ = some (.int .u64 N.sl)
  c8 : w.cell? ⟨nb, 8, none⟩ = some (.int .u64 N.sp)
  c9 : w.cell? ⟨nb, 9, none⟩ = some (.int .i64 N.sd)
  c10 : w.cell? ⟨nb, 10, none⟩ = some (.int .u64 N.via)
  c11 : w.cell? ⟨nb, 11, none⟩ = some (.int .i64 N.oth)
  c12 : w.cell? ⟨nb, 12, none⟩ = some (.int .i64 N.rem)
  c13 : w.cell? ⟨nb, 13, none⟩ = some (.int .i64 N.lc)
  c14 : w.cell? ⟨nb, 14, none⟩ = some lk

structure HasLink (w : World) (lb off : Nat) (L : Lnk) : Prop where
  c0 : w.cell? ⟨lb, off, none⟩ = some (.int .u64 L.id)
  c1 : w.cell? ⟨lb, off + 1, none⟩ = some (.int .i64 L.t)
  c2 : w.cell? ⟨lb, off + 2, none⟩ = some (.int .u64 L.o)
  c3 : w.cell? ⟨lb, off + 3, none⟩ = some (.bool L.r)
  c4 : w.cell? ⟨lb, off + 4, none⟩ = some (.int .i64 L.d)
  c5 : w.cell? ⟨lb, off + 5, none⟩ = some (.int .i64 L.n)
  c6 : w.cell? ⟨lb, off + 6, none⟩ = some (.int .u64 L.l)
  c7 : w.cell? ⟨lb, off + 7, none⟩ = some (.int .u64 L.i)
  c8 : w.cell? ⟨lb, off + 8, none⟩ = some (.int .u64 L.sl)
  c9 : w.cell? ⟨lb, off + 9, none⟩ = some (.int .u64 L.sp)
  c10 : w.cell? ⟨lb, off + 10, none⟩ = some (.int .i64 L.sd)
  c11 : w.cell? ⟨lb, off + 11, none⟩ = some (.int .u64 L.via)
  c12 : w.cell? ⟨lb, off + 12, none⟩ = some (.bool L.known)

theorem cell_lt {w : World} {b o : Nat} {v : Value} (h : w.cell? ⟨b, o, none⟩ = some v) : b < w.heap.size := by
  refine Nat.lt_of_not_le fun hle => ?_
  have : w.heap[b]? = none := Array.getElem?_eq_none hle
  simp [World.cell?, this] at h

theorem HasNode.lt {w : World} {nb : Nat} {N : Nod} {lk : Value} (h : HasNode w nb N lk) : nb < w.heap.size := cell_lt h.c0
theorem HasLink.lt {w : World} {lb off : Nat} {L : Lnk} (h : HasLink w lb off L) : lb < w.heap.size := cell_lt h.c0
theorem HasNode.later {w w' : World} {nb : Nat} {N : Nod} {lk : Value} (h : HasNode w nb N lk) (hb : Below w.heap.size w w') : HasNode w' nb N lk := by
  have hr : ∀ o, w'.cell? ⟨nb, o, none⟩ = w.cell? ⟨nb, o, none⟩ := fun o => hb.cell (p := ⟨nb, o, none⟩) h.lt
  exact ⟨(hr 0).trans h.c0, (hr 1).trans h.c1, (hr 2).trans h.c2, (hr 3).trans h.c3, (hr 4).trans h.c4, (hr 5).trans h.c5, (hr 6).trans h.c6, (hr 7).trans h.c7, (hr 8).trans h.c8, (hr 9).trans h.c9,
    (hr 10).trans h.c10, (hr 11).trans h.c11, (hr 12).trans h.c12, (hr 13).trans h.c13, (hr 14).trans h.c14⟩
theorem HasLink.later {w w' : World} {lb off : Nat} {L : Lnk} (h : HasLink w lb off L) (hb : Below w.heap.size w w') : HasLink w' lb off L := by
  have hr : ∀ o, w'.cell? ⟨lb, o, none⟩ = w.cell? ⟨lb, o, none⟩ := fun o => hb.cell (p := ⟨lb, o, none⟩) h.lt
  exact ⟨(hr _).trans h.c0, (hr _).trans h.c1, (hr _).trans h.c2, (hr _).trans h.c3, (hr _).trans h.c4, (hr _).trans h.c5, (hr _).trans h.c6, (hr _).trans h.c7, (hr _).trans h.c8, (hr _).trans h.c9,
    (hr _).trans h.c10, (hr _).trans h.c11, (hr _).trans h.c12⟩

/-- The rule by which the walk reads old cells in a later world. -/
theorem rule {w : World} : ∀ w' b o, Below w.heap.size w w' → b < w.heap.size → w'.cell? ⟨b, o, none⟩ = w.cell? ⟨b, o, none⟩ := fun _ b o hb h => hb.cell (p := ⟨b, o, none⟩) h

theorem ret_bool {a b : Bool} (h : a = b) : Ending.returned (.bool a) = .returned (.bool b) := by rw [h]
theorem bDrewN {w W : World} (h : Below w.heap.size w W) (n : Nat) : Below w.heap.size w (W.drewN n) := ⟨h.os, h.tape, h.output, h.size, h.block⟩

def blk (N : Nod) (x : Lnk) : Bool := x.known && !pairB x.n x.l N.n N.l

set_option maxHeartbeats 1000000 in
theorem blocks_any (nb lb off : Nat) (N : Nod) (L : Lnk) (lk : Value) (w : World) (hN : HasNode w nb N lk) (hL : HasLink w lb off L) :
    Calls Yba.prog 35 #[.pointer (some ⟨nb, 0, none⟩), .pointer (some ⟨lb, off, none⟩)] w
      fun e w' => e = .returned (.bool (blk N L)) ∧ Below w.heap.size w w' := by
  have hr := rule (w := w)
  have hnb := hN.lt
  have hlb := hL.lt
  obtain ⟨h0, h1, h2, h3, h4, h5, h6, _, _, _, _, _, _, _, _⟩ := hN
  obtain ⟨_, k1, k2, k3, k4, k5, k6, k7, _, _, _, _, kk⟩ := hL
  cases hk : L.known with
  | true =>
    rw [hk] at kk
    have Hk : Hid (L.known = true) := hk
    clear hk
    go_enter Yba.func35, Yba.ntmps35
    go_wp2_with fail
    go_region_held3 (fun w' => Below w.heap.size w w')
      (((try dsimp only); repeat (first | exact Below.refl _ _ | assumption | refine Below.drew ?_ | refine bAlloc ?_ _ | refine bCall ?_ hb)))
      (first
        | (go_at_call 17; refine (pair_any _ _ _ _ _ _ _ _ _ _ _ _ _ _ _).mono ?_; rintro e w1 ⟨rfl, hb⟩))
    all_goals go_wp2
    all_goals go_ret
    exact ⟨ret_bool (by rw [blk, Hk.out]; rfl), by repeat (first | exact Below.refl _ _ | refine Below.drew ?_ | refine bAlloc ?_ _ | refine bCall ?_ hb)⟩
  | false =>
    rw [hk] at kk
    have Hk : Hid (L.known = false) := hk
    clear hk
    go_enter Yba.func35, Yba.ntmps35
    go_wp2_with fail
    go_quiet (fail)
    go_wp2
    go_ret
    exact ⟨ret_bool (by rw [blk, Hk.out]; rfl), bDrewN (Below.refl _ _) _⟩

def cnt (f : Nat → Bool) : Nat → Int
  | 0 => 0
  | k + 1 => cnt f k + bitI (f k)

theorem bitI_bd (b : Bool) : 0 ≤ bitI b ∧ bitI b ≤ 1 := by cases b <;> decide

theorem cnt_bd (f : Nat → Bool) (k : Nat) : 0 ≤ cnt f k ∧ cnt f k ≤ k := by
  induction k with
  | zero => simp [cnt]
  | succ k ih => simp only [cnt, bitI]; split <;> omega

set_option maxHeartbeats 1000000 in
theorem count_any (nb lb len cap : Nat) (N : Nod) (L : Nat → Lnk) (w : World) (hlen : len ≤ 1024) (hN : HasNode w nb N (.slice (some ⟨lb, 0, none⟩) len cap)) (hL : ∀ k, k < len → HasLink w lb (k * 13) (L k)) :
    Calls Yba.prog 18 #[.pointer (some ⟨nb, 0, none⟩)] w
      fun e w' => e = .returned (.int .i64 (cnt (fun k => blk N (L k)) len)) ∧ Below w.heap.size w w' := by
  have hr := rule (w := w)
  have hnb := hN.lt
  have c14 := hN.c14
  go_enter Yba.func18, Yba.ntmps18
  go_wp2_with fail
  go_loopw [2, 9] (fun c i wr => ∃ k : Nat, k ≤ len ∧ i = .int .i64 k ∧ c = .int .i64 (cnt (fun k => blk N (L k)) k) ∧ Below w.heap.size w wr) (fun _ i _ => len - (intOf i).toNat)
  case atStart => exact ⟨0, Nat.zero_le _, rfl, rfl, Below.refl _ _⟩
  case round =>
    obtain ⟨k, hk, rfl, rfl, hbr⟩ := hrel
    have hbd := cnt_bd (fun k => blk N (L k)) k
    have hbit := bitI_bd (blk N (L k))
    by_cases hlt : k < len
    · have hlb := (hL k hlt).lt
      go_wp2_with (first
        | (go_at_call 35; refine (blocks_any nb lb _ N (L k) _ _ (hN.later hbr) ((hL k hlt).later hbr)).mono ?_; rintro e w1 ⟨rfl, hb⟩)
        | (go_at_call 22; refine (bit_any _ _).mono ?_; rintro e w' ⟨rfl, rfl⟩))
      exact ⟨⟨k + 1, by omega, by go_num, rfl, bCall hbr hb⟩, by simp [intOf]; omega⟩
    · obtain rfl : k = len := by omega
      go_wp2_with fail
      go_ret
      exact ⟨rfl, hbr⟩
end Go.Proofs.Ybulknri
