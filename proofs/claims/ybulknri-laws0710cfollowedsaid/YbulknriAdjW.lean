import Derived.Test.YbulknriAdj
namespace Go.Proofs.Ybulknri
open Go.RowKit

theorem news_id (W : World) (u : Nat) (c : Int) (E : TypeId) (k : Nat) (hk : k = W.heap.size) (hc : c = ((u + 1 : Nat) : Int)) : ∀ j v, [idV u][j]? = some v → (W.alloc (.cells #[.int .u64 c] E)).cell? ((⟨k, 0, none⟩ : Addr).add j) = some v := fun j v h => by
  subst hk hc
  match j with
  | 0 =>
    simp at h
    subst h
    rw [Addr.add_lit, Nat.add_zero, World.cell?_alloc_new]
    rfl
  | j + 1 => simp at h
theorem one_id (u : Nat) : ∀ v ∈ [idV u], v.oneCell' = true := by
  intro v hv
  simp at hv
  subst hv
  rfl

set_option maxRecDepth 100000 in
set_option maxHeartbeats 1000000 in
theorem adj_any (n m cap eb eo : Nat) (ea : Option Addr) (x y : Nat → Nat) (w : World) (hn : n ≤ 256) (hm : m ≤ 1024) (hea : 0 < m → ea = some ⟨eb, eo, none⟩) (hE : HasEdges w eb eo m x y) :
    Calls Yba.prog 14 #[.int .i64 (n : Int), .slice ea m cap] w
      fun e w' => ∃ V, e = .returned (.slice (some ⟨w.heap.size, 0, none⟩) n n) ∧ AdjS w' (w.heap.size + 1) w.heap.size n V (nbs (edge x y n) m) ∧ Below w.heap.size w w' := by
  have hmk := make_at (t := 95) (e := 42) 24 n Yba.underlying95 Yba.info42 rfl (by omega) (by omega)
  obtain ⟨i0, hi, hz0, hz1, hz2⟩ := info_parts Yba.info22
  by_cases hn0 : n = 0
  · subst hn0
    have hR0 := made_row (.slice none 0 0) 0 42 w
    have hmk0 : ∀ w, (Instr.makeSlice 95 (.int .i64 0) (.int .i64 0)).run Yba.prog w = .ok (.slice (some ⟨w.heap.size, 0, none⟩) 0 0) (w.alloc (.cells (madeCells #[.slice none 0 0] 0) 42)) := hmk
    clear hmk
    go_enter Yba.func14, Yba.ntmps14
    go_wp2_with fail
    go_ret
    exact ⟨_, rfl, ⟨hR0, fun x hx => absurd hx (Nat.not_lt_zero _), fun x y g hx => absurd hx (Nat.not_lt_zero _), Nat.lt_succ_self _⟩, bAlloc (Below.refl _ _) _⟩
  · have hn1 : ((n : Int) == 0) = false := by simpa using hn0
    go_enter Yba.func14, Yba.ntmps14
    go_wp2_with fail
    have hR0 := made_row (.slice none 0 0) n 42 w
    have hB0 := bAlloc (Below.refl w.heap.size w) (.cells (madeCells #[.slice none 0 0] n) 42)
    generalize w.alloc (.cells (madeCells #[.slice none 0 0] n) 42) = W0 at *
    clear hmk
    go_loopw [17] (fun i wr => ∃ (j : Nat) (V : Nat → Value), j ≤ m ∧ i = .int .i64 j ∧ AdjS wr (w.heap.size + 1) w.heap.size n V (nbs (edge x y n) j) ∧ Below w.heap.size w wr) (fun i _ => m - (intOf i).toNat)
    case atStart => exact ⟨0, _, Nat.zero_le _, rfl, ⟨hR0, fun x hx => World.ownsRow_nil _ _ _ _, fun x y g _ _ _ h => (by simp [Value.ownBlock] at h), Nat.lt_succ_self _⟩, hB0⟩
    case round =>
      obtain ⟨j, V, hj, rfl, hS, hbr⟩ := hrel
      clear hR0 hB0
      by_cases hlj : j < m
      · obtain rfl := hea (by omega)
        clear hea
        have hEj := hE.later hbr
        have e0 := hEj.c0 j hlj
        have e1 := hEj.c1 j hlj
        have lx := hEj.lx j hlj
        have ly := hEj.ly j hlj
        clear hEj
        obtain ⟨a, ha, HA⟩ : ∃ a : Nat, (x j : Int) % (n : Int) = (a : Int) ∧ Hid (a = x j % n) := ⟨x j % n, by omega, rfl⟩
        obtain ⟨b, hb, HB⟩ : ∃ b : Nat, (y j : Int) % (n : Int) = (b : Int) ∧ Hid (b = y j % n) := ⟨y j % n, by omega, rfl⟩
        have han : a < n := by rw [HA.out]; exact Nat.mod_lt _ (by omega)
        have hbn : b < n := by rw [HB.out]; exact Nat.mod_lt _ (by omega)
        have hlt' := hS.row.lt
        have hfa := hS.row.free
        have hca := hS.row.cell a han
        have hla := nbs_len (edge x y n) j a
        have hlb := nbs_len (edge x y n) j b
        have hown := fun o1 o2 => ((hS.alloc o1).alloc o2).own a han
        have tok : True := trivial
        by_cases hab : b = a
        · subst hab
          go_wp2_with (first
            | (at_builtin; have _t := tok; refine wpList_append_lies _ rfl (.tmp 36) (.tmp 40) 42 rfl (w.heap.size + 1) 22 i0 (.int .u64 0) 1 8 Yba.underlying42 hi hz0 hz1 hz2 rfl (by omega) (V b) _ _ rfl (hown _ _) ⟨wr.heap.size + 1, 0, none⟩ 1 1 [idV b] rfl rfl (news_id _ b _ _ _ (by simp) (by simp)) (one_id b) (by omega) (by unfold maxLen; omega) (by omega) (by simp; omega) (wr.heap.size + 1 + 1) (by simp) ?_; intro g1 cap1 w1 hown1 hgrow1 hat1 hlt1; have hR1 := ((hS.alloc _).alloc _).kept han rfl hgrow1; have c1b := hR1.cell b hbn; obtain ⟨⟨v1, c1⟩, f1, l1, hS1⟩ := ((hS.alloc _).alloc _).after (u := b) han rfl rfl rfl rfl hown1 hgrow1 (by simp) hat1; clear tok)
            | (at_builtin; have _t := hS1; refine wpList_append_lies _ rfl (.tmp 48) (.tmp 52) 42 rfl (w.heap.size + 1) 22 i0 (.int .u64 0) 1 8 Yba.underlying42 hi hz0 hz1 hz2 rfl (by omega) (.slice (some ⟨g1, 0, none⟩) ((nbs (edge x y n) j b).length + 1) cap1) _ _ rfl ((ownsRow_setCell_below hown1 (Nat.lt_succ_self _) _).alloc _) ⟨w1.heap.size, 0, none⟩ 1 1 [idV b] rfl rfl (news_id _ b _ _ _ (by simp) (by simp)) (one_id b) (by omega) (by unfold maxLen; omega) (by omega) (by simp; omega) (w1.heap.size + 1) (by simp) ?_; intro g2 cap2 w2 hown2 hgrow2 hat2 hlt2; obtain ⟨⟨v2, c2⟩, f2, l2, hS2⟩ := (hS1.alloc _).after (u := b) hbn (if_pos rfl) (if_pos rfl) (by simp) (by simp) hown2 hgrow2 (by simp) hat2))
          refine ⟨⟨j + 1, _, by omega, by go_num, hS2.congr fun i hi => ?_, (((hbr.alloc hbr.size _).alloc (by simp; omega) _).grown hgrow1 (by simp; omega) (fun k hk => Nat.le_of_succ_le ((hS.own _ han).lt k hk).1) |>.setCell (Nat.le_refl _) _ |>.alloc (by simp; omega) _ |>.grown hgrow2 (by simp; omega) (fun k hk => Nat.le_of_succ_le (hown1.lt k hk).1)).setCell (Nat.le_refl _) _⟩, by simp [intOf]; omega⟩
          show _ = (nbs (edge x y n) j i ++ (if i = x j % n then [y j % n] else [])) ++ (if i = y j % n then [x j % n] else [])
          rw [← HA.out, ← HB.out]
          by_cases hib : i = b
          · subst hib; simp
          · simp [hib]
        · have hown' : ∀ w1 v o, (∀ (hS1 : AdjS w1 (w.heap.size + 1) w.heap.size n (fun x => if x = a then v else V x) (fun x_1 => if x_1 = a then nbs (edge x y n) j a ++ [b] else nbs (edge x y n) j x_1)), (w1.alloc o).ownsRow (w.heap.size + 1) 22 1 (V b) (nbs (edge x y n) j b).length ((nbs (edge x y n) j b).map idV)) := fun w1 v o hS1 => by
            have := (hS1.alloc o).own b hbn
            rwa [if_neg hab, if_neg hab] at this
          go_wp2_with (first
            | (at_builtin; have _t := tok; refine wpList_append_lies _ rfl (.tmp 36) (.tmp 40) 42 rfl (w.heap.size + 1) 22 i0 (.int .u64 0) 1 8 Yba.underlying42 hi hz0 hz1 hz2 rfl (by omega) (V a) _ _ rfl (hown _ _) ⟨wr.heap.size + 1, 0, none⟩ 1 1 [idV b] rfl rfl (news_id _ b _ _ _ (by simp) (by simp)) (one_id b) (by omega) (by unfold maxLen; omega) (by omega) (by simp; omega) (wr.heap.size + 1 + 1) (by simp) ?_; intro g1 cap1 w1 hown1 hgrow1 hat1 hlt1; have hR1 := ((hS.alloc _).alloc _).kept han rfl hgrow1; have c1b := hR1.cell b hbn; obtain ⟨⟨v1, c1⟩, f1, l1, hS1⟩ := ((hS.alloc _).alloc _).after (u := b) han rfl rfl rfl rfl hown1 hgrow1 (by simp) hat1; clear tok)
            | (at_builtin; have _t := hS1; refine wpList_append_lies _ rfl (.tmp 48) (.tmp 52) 42 rfl (w.heap.size + 1) 22 i0 (.int .u64 0) 1 8 Yba.underlying42 hi hz0 hz1 hz2 rfl (by omega) (V b) _ _ rfl (hown' _ _ _ hS1) ⟨w1.heap.size, 0, none⟩ 1 1 [idV a] rfl rfl (news_id _ a _ _ _ (by simp) (by simp)) (one_id a) (by omega) (by unfold maxLen; omega) (by omega) (by simp; omega) (w1.heap.size + 1) (by simp) ?_; intro g2 cap2 w2 hown2 hgrow2 hat2 hlt2; obtain ⟨⟨v2, c2⟩, f2, l2, hS2⟩ := (hS1.alloc _).after (u := a) hbn (if_neg hab) (if_neg hab) rfl rfl hown2 hgrow2 (by simp) hat2))
          refine ⟨⟨j + 1, _, by omega, by go_num, hS2.congr fun i hi => ?_, (((hbr.alloc hbr.size _).alloc (by simp; omega) _).grown hgrow1 (by simp; omega) (fun k hk => Nat.le_of_succ_le ((hS.own _ han).lt k hk).1) |>.setCell (Nat.le_refl _) _ |>.alloc (by simp; omega) _ |>.grown hgrow2 (by simp; omega) (fun k hk => Nat.le_of_succ_le (hown' _ _ (.map #[] 0) hS1 |>.lt k hk).1)).setCell (Nat.le_refl _) _⟩, by simp [intOf]; omega⟩
          show _ = (nbs (edge x y n) j i ++ (if i = x j % n then [y j % n] else [])) ++ (if i = y j % n then [x j % n] else [])
          rw [← HA.out, ← HB.out]
          by_cases hib : i = b
          · subst hib; simp [hab]
          · by_cases hia : i = a
            · subst hia; simp [hib]
            · simp [hib, hia]
      · obtain rfl : j = m := by omega
        go_wp2_with fail
        go_ret
        exact ⟨V, rfl, hS, hbr⟩
end Go.Proofs.Ybulknri
