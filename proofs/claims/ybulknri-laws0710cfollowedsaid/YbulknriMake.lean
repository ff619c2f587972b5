import Derived.Test.YbulknriNew
namespace Go.Proofs.Ybulknri
open Go.RowKit

abbrev boxT (t o : Int) (r : Bool) (d n l i : Int) : Obj := .cells #[.int .i64 t, .int .u64 o, .bool r, .int .i64 d, .int .i64 n, .int .u64 l, .int .u64 i] 24

theorem HasNode.setOth {w : World} {nb : Nat} {N : Nod} {lk : Value} (h : HasNode w nb N lk) (x : Int) : HasNode (w.setCell ⟨nb, 11, none⟩ (.int .i64 x)) nb { N with oth := x } lk := by
  have hr : ∀ o, o ≠ 11 → (w.setCell ⟨nb, 11, none⟩ (.int .i64 x)).cell? ⟨nb, o, none⟩ = w.cell? ⟨nb, o, none⟩ := fun o ho => World.cell?_setCell_other w _ _ _ (fun e => ho (congrArg Addr.off e).symm)
  exact ⟨(hr 0 (by decide)).trans h.c0, (hr 1 (by decide)).trans h.c1, (hr 2 (by decide)).trans h.c2, (hr 3 (by decide)).trans h.c3, (hr 4 (by decide)).trans h.c4, (hr 5 (by decide)).trans h.c5, (hr 6 (by decide)).trans h.c6,
    (hr 7 (by decide)).trans h.c7, (hr 8 (by decide)).trans h.c8, (hr 9 (by decide)).trans h.c9, (hr 10 (by decide)).trans h.c10, World.cell?_setCell_same w _ _ h.c11, (hr 12 (by decide)).trans h.c12, (hr 13 (by decide)).trans h.c13, (hr 14 (by decide)).trans h.c14⟩

abbrev boxN (t o : Int) (r : Bool) (d n l i : Int) : Obj := .cells #[.int .i64 t, .int .u64 o, .bool r, .int .i64 d, .int .i64 n, .int .u64 l, .int .u64 i, .int .u64 0, .int .u64 0, .int .i64 0, .int .u64 0, .int .i64 0, .int .i64 0, .int .i64 0, .slice none 0 0] 33

set_option maxRecDepth 100000 in
set_option maxHeartbeats 1000000 in
theorem newNode_any (t o : Int) (r : Bool) (d n l i : Int) (w : World) :
    Calls Yba.prog 29 #[.agg #[.int .i64 t, .int .u64 o, .bool r, .int .i64 d, .int .i64 n, .int .u64 l, .int .u64 i], .int .i64 0, .slice none 0 0] w
      fun e w' => ∃ nb, e = .returned (.pointer (some ⟨nb, 0, none⟩)) ∧ w.heap.size ≤ nb ∧ nb < w'.heap.size ∧ w'.cell? ⟨nb, 5, none⟩ = some (.int .u64 l) ∧ Below w.heap.size w w' := by
  have hB2 : Below w.heap.size w ((w.alloc (boxT t o r d n l i)).alloc (boxN t o r d n l i)) := bAlloc (bAlloc (Below.refl _ _) _) _
  have hN2 : HasNode ((w.alloc (boxT t o r d n l i)).alloc (boxN t o r d n l i)) (w.heap.size + 1) ⟨t, o, r, d, n, l, i, 0, 0, 0, 0, 0, 0, 0⟩ (.slice none 0 0) := by constructor <;> simp [boxN, go_sem]
  have hf2 : ∀ j, ((w.alloc (boxT t o r d n l i)).alloc (boxN t o r d n l i)).frozen? ⟨w.heap.size + 1, j, none⟩ = false := fun j => by simp [boxN, go_sem]
  go_enter Yba.func29, Yba.ntmps29
  go_wp2_with fail
  generalize (w.alloc (boxT t o r d n l i)).alloc (boxN t o r d n l i) = W2 at *
  go_loop [21] (fun b => b = .int .i64 0) (fun _ => 0)
  case atStart => rfl
  case round =>
    subst hrel
    have h14 := hN2.c14
    have hnb := hN2.lt
    go_wp2_with fail
    refine (sort_0 _).mono ?_
    rintro e w1 ⟨rfl, rfl⟩
    go_wp2_with fail
    go_loop [55] (fun b => b = .int .i64 0) (fun _ => 0)
    case atStart => rfl
    case round =>
      subst hrel
      have h11 := hN2.c11
      go_wp2_with fail
      refine (count_nil _ _ _ hN2).mono ?_
      rintro e w2 ⟨rfl, rfl⟩
      have hN3 := hN2.setOth 0
      go_wp2_with fail
      refine (sub_rem (w.heap.size + 1) _ _ _ hN3 rfl).mono ?_
      rintro e w3 ⟨⟨a, b, c, rfl⟩, hb3⟩
      have hN4 := hN3.later hb3
      go_wp2_with fail
      refine (near_nil (w.heap.size + 1) _ _ hN4).mono ?_
      rintro e w4 ⟨rfl, hb4⟩
      have hN5 := hN4.later hb4
      have g7 := hN5.c7
      have g8 := hN5.c8
      have g9 := hN5.c9
      have g10 := hN5.c10
      have g5 := hN5.c5
      have hnb5 := hN5.lt
      have hf5 : ∀ j, w4.frozen? ⟨w.heap.size + 1, j, none⟩ = false := fun j => (hb4.frozen (p := ⟨w.heap.size + 1, j, none⟩) hN4.lt).trans ((hb3.frozen (p := ⟨w.heap.size + 1, j, none⟩) hN3.lt).trans ((World.frozen?_setCell _ _ _ _).trans (hf2 j)))
      have hB5 : Below w.heap.size w w4 := bCall (bCall (hB2.setCell (Nat.le_succ _) _) hb3) hb4
      clear hb3 hb4 hN3 hN4 hN5 hN2 h14 h11 hf2
      go_wp2_with fail
      go_ret
      refine ⟨w.heap.size + 1, rfl, Nat.le_succ _, by simpa using hnb5, by simp [go_sem, g5], ?_⟩
      repeat (first | exact hB5 | refine Below.setCell ?_ (Nat.le_succ _) _)

set_option maxRecDepth 100000 in
set_option maxHeartbeats 1000000 in
theorem nodes_any (n lb : Nat) (lid : Nat → Nat) (w : World) (hn : n ≤ 256) (hR : Row w lb n (fun x => .int .u64 (lid x : Nat))) :
    Calls Yba.prog 13 #[.slice (some ⟨lb, 0, none⟩) n n] w
      fun e w' => e = .returned (.slice (some ⟨w.heap.size, 0, none⟩) n n) ∧ NA w' w'.heap.size w.heap.size n lid ∧ Below w.heap.size w w' := by
  have hmk := make_at (t := 44) (e := 28) 8 n Yba.underlying44 Yba.info28 rfl (by omega) (by omega)
  go_enter Yba.func13, Yba.ntmps13
  go_wp2_with fail
  have hR0 := made_row (.pointer none) n 28 w
  have hB0 := bAlloc (Below.refl w.heap.size w) (.cells (madeCells #[.pointer none] n) 28)
  generalize w.alloc (.cells (madeCells #[.pointer none] n) 28) = W0 at *
  clear hmk
  go_loopw [11] (fun i wr => ∃ (k : Nat) (V : Nat → Value), k ≤ n ∧ i = .int .i64 k ∧ Row wr w.heap.size n V ∧ (∀ x, x < k → ∃ b, V x = .pointer (some ⟨b, 0, none⟩) ∧ w.heap.size < b ∧ b < wr.heap.size ∧ wr.cell? ⟨b, 5, none⟩ = some (.int .u64 (lid x : Nat))) ∧ Below w.heap.size w wr) (fun i _ => n - (intOf i).toNat)
  case atStart => exact ⟨0, _, Nat.zero_le _, rfl, hR0, fun x hx => absurd hx (Nat.not_lt_zero _), hB0⟩
  case round =>
    obtain ⟨k, V, hk, rfl, hRr, hnd, hbr⟩ := hrel
    clear hR0 hB0
    have HN : Hid (∀ x, x < k → ∃ b, V x = .pointer (some ⟨b, 0, none⟩) ∧ w.heap.size < b ∧ b < wr.heap.size ∧ wr.cell? ⟨b, 5, none⟩ = some (.int .u64 (lid x : Nat))) := hnd
    clear hnd
    by_cases hlt : k < n
    · have hc := (hR.later hbr hR.lt).cell k hlt
      go_wp2_with fail
      refine (newNode_any _ _ _ _ _ _ _ _).mono ?_
      rintro e w1 ⟨nb, rfl, hnb, hnb1, hl, hb⟩
      have hR1 := hRr.later hb hRr.lt
      obtain ⟨v1, c1⟩ : ∃ v, w1.cell? ⟨w.heap.size, k, none⟩ = some v := ⟨_, hR1.cell k hlt⟩
      have f1 := hR1.free
      have hne : nb ≠ w.heap.size := by have := hRr.lt; omega
      go_wp2_with fail
      refine ⟨⟨k + 1, _, by omega, by go_num, hR1.set k hlt _, fun x hx => ?_, (bCall hbr hb).setCell (Nat.le_refl _) _⟩, by simp [intOf]; omega⟩
      by_cases hxk : x = k
      · subst hxk
        exact ⟨nb, by rw [if_pos rfl], by have := hRr.lt; omega, by simpa using hnb1, by rw [World.cell?_setCell_other _ _ _ _ (fun e => hne (congrArg Addr.block e).symm)]; exact hl⟩
      · obtain ⟨b, hv, hb1, hb2, hc2⟩ := HN.out x (by omega)
        refine ⟨b, by rw [if_neg hxk]; exact hv, hb1, by rw [World.size_setCell]; exact Nat.lt_of_lt_of_le hb2 hb.size, ?_⟩
        rw [World.cell?_setCell_other _ _ _ _ (fun e => by have := congrArg Addr.block e; simp at this; omega)]
        exact (hb.cell (p := ⟨b, 5, none⟩) hb2).trans hc2
    · obtain rfl : k = n := by omega
      go_wp2_with fail
      go_ret
      refine ⟨rfl, ⟨hRr.lt, fun x hx => ?_⟩, hbr⟩
      obtain ⟨b, hv, _, hb2, hc2⟩ := HN.out x hx
      exact ⟨b, (hRr.cell x hx).trans (by rw [hv]), hb2, hc2⟩
end Go.Proofs.Ybulknri
