import Derived.Test.YbulknriAdjW
import Derived.Test.YbulknriBfs
namespace Go.Proofs.Ybulknri
open Go.RowKit

/-- The table of rows, to be read: all of it below block B. -/
structure RA (w : World) (B ab n : Nat) (L : Nat → List Nat) : Prop where
  low : ab < B
  at_ : ∀ x, x < n → ∃ a cap, w.cell? ⟨ab, x, none⟩ = some (.slice a (L x).length cap) ∧ (0 < (L x).length → ∃ g, a = some ⟨g, 0, none⟩ ∧ g < B ∧ ∀ (i u : Nat), (L x)[i]? = some u → w.cell? ⟨g, i, none⟩ = some (.int .u64 ((u : Int) + 1)))

theorem RA.later {w w' : World} {B ab n : Nat} {L : Nat → List Nat} (h : RA w B ab n L) (hb : Below B w w') : RA w' B ab n L :=
  ⟨h.low, fun x hx => by
    obtain ⟨a, cap, hc, hg⟩ := h.at_ x hx
    refine ⟨a, cap, (hb.cell (p := ⟨ab, x, none⟩) h.low).trans hc, fun hp => ?_⟩
    obtain ⟨g, e, hgB, hu⟩ := hg hp
    exact ⟨g, e, hgB, fun i u hi => (hb.cell (p := ⟨g, i, none⟩) hgB).trans (hu i u hi)⟩⟩

theorem AdjS.ra {w : World} {B ab n : Nat} {V : Nat → Value} {L : Nat → List Nat} (h : AdjS w B ab n V L) : RA w w.heap.size ab n L :=
  ⟨h.row.lt, fun x hx => by
    have ho := h.own x hx
    have hc := h.row.cell x hx
    rcases ho.2 with ⟨hv, hl⟩ | ⟨g, cap, cur, hv, hg, hh, hr⟩
    · exact ⟨none, 0, by rw [hc, hv, hl], fun hp => by omega⟩
    · refine ⟨some ⟨g, 0, none⟩, cap, by rw [hc, hv], fun _ => ⟨g, rfl, ?_, fun i u hi => ?_⟩⟩
      · exact (ho.lt g (by rw [hv]; rfl)).2
      · have := ho.cells (g := g) (by rw [hv]; rfl) i (idV u) (by rw [List.getElem?_map, hi]; rfl)
        rwa [Addr.add_lit, Nat.zero_add] at this⟩

/-- Cells of an owned row of ids. -/
theorem own_id {w : World} {base g k cap : Nat} {R : List Nat} (h : w.ownsRow base 22 1 (.slice (some ⟨g, 0, none⟩) k cap) k (R.map idV)) (p x : Nat) (hp : R[p]? = some x) : w.cell? ⟨g, p, none⟩ = some (.int .u64 ((x : Int) + 1)) := by
  have := h.cells (g := g) rfl p (idV x) (by rw [List.getElem?_map, hp]; rfl)
  rwa [Addr.add_lit, Nat.zero_add] at this

/-- A store below the row's base, or an append to the row, keeps what lies below hb. -/
def HV (H : Nat → Int) : Nat → Value := fun x => .int .i64 (H x)

theorem Row.grown {w w1 : World} {b n : Nat} {f : Nat → Value} (h : Row w b n f) {row : Option Nat} (hg : w.grownBy w1 row) (hr : ∀ k, row = some k → b < k) : Row w1 b n f := by
  have hb : w1.heap[b]? = w.heap[b]? := hg.block b h.lt (fun e => by have := hr b e.symm; omega)
  exact ⟨fun i hi => (World.cell?_of_block (a := ⟨b, i, none⟩) hb).trans (h.cell i hi), fun i => (World.frozen?_of_block (a := ⟨b, i, none⟩) hb).trans (h.free i), Nat.lt_of_lt_of_le h.lt hg.size⟩

theorem HV_set (H : Nat → Int) (y : Nat) (v : Int) : (fun j => if j = y then Value.int .i64 v else HV H j) = HV (fun z => if z = y then v else H z) := by
  funext j
  simp only [HV]
  split <;> rfl

set_option maxRecDepth 100000 in
set_option maxHeartbeats 1000000 in
theorem reach_any (n ab hb i vcap : Nat) (va : Option Addr) (L : Nat → List Nat) (H0 : Nat → Int) (w : World) (hn : n ≤ 256) (hi : i < n) (hA : RA w hb ab n L) (hLn : ∀ x, x < n → ∀ y, y ∈ L x → y < n) (hLl : ∀ x, (L x).length ≤ 2048)
    (hR : Row w hb n (HV H0)) (h0 : ¬ 0 ≤ H0 i) (hown : w.ownsRow (hb + 1) 22 1 (.slice va 0 vcap) 0 []) :
    Calls Yba.prog 30 #[.slice (some ⟨ab, 0, none⟩) n n, .int .u64 ((i : Int) + 1), .slice (some ⟨hb, 0, none⟩) n n, .slice va 0 vcap] w
      fun e w' => ∃ H R g cap, e = .returned (.slice (some ⟨g, 0, none⟩) R.length cap) ∧ Graph.Inv n L H0 i H R R.length 0 ∧ Row w' hb n (HV H) ∧ w'.ownsRow (hb + 1) 22 1 (.slice (some ⟨g, 0, none⟩) R.length cap) R.length (R.map idV) ∧ Below hb w w' := by
  obtain ⟨i0, hi0, hz0, hz1, hz2⟩ := info_parts Yba.info22
  have hci := hR.cell i hi
  have hfr := hR.free
  have hlt := hR.lt
  have tok : True := trivial
  go_enter Yba.func30, Yba.ntmps30
  go_wp2_with (first
    | (at_builtin; have _t := tok; go_loud (refine wpList_append_lies _ rfl (.tmp 19) (.tmp 21) 42 rfl (hb + 1) 22 i0 (.int .u64 0) 1 8 Yba.underlying42 hi0 hz0 hz1 hz2 rfl (by omega) (.slice va 0 vcap) _ _ rfl ((ownsRow_setCell_below hown (Nat.lt_succ_self _) _).alloc _) ⟨w.heap.size, 0, none⟩ 1 1 [idV i] rfl rfl (news_id _ i _ _ _ (by simp) (by simp)) (one_id i) (by omega) (by unfold maxLen; omega) (by omega) (by simp; omega) (w.heap.size + 1) (by simp) ?_); intro g1 cap1 w1 hown1 hgrow1 hat1 hlt1; clear tok))
  have hrow1 : ∀ k, (Value.slice va 0 vcap).ownBlock = some k → hb < k := fun k hk => (hown.lt k hk).1
  have hR1 : Row w1 hb n (HV fun x => if x = i then 0 else H0 x) := by
    rw [← HV_set]
    exact ((hR.set i hi _).alloc _).grown hgrow1 hrow1
  have hB1 : Below hb w w1 := (((Below.refl hb w).setCell (Nat.le_refl _) _).alloc (by simp; omega) _).grown hgrow1 (by simp; omega) (fun k hk => Nat.le_of_lt (hrow1 k hk))
  have hI1 := Graph.Inv.start (L := L) hi (by omega : ¬ 0 ≤ H0 i)
  clear hrow1 hgrow1 hat1 hlt1 hci hfr hown hR
  go_loopw [3, 10] (fun v kk wr => ∃ (H : Nat → Int) (R : List Nat) (k g cap : Nat), k ≤ R.length ∧ kk = .int .i64 k ∧ v = .slice (some ⟨g, 0, none⟩) R.length cap ∧ Graph.Inv n L H0 i H R k 0 ∧ Row wr hb n (HV H) ∧
      wr.ownsRow (hb + 1) 22 1 (.slice (some ⟨g, 0, none⟩) R.length cap) R.length (R.map idV) ∧ Below hb w wr) (fun _ kk _ => n - (intOf kk).toNat)
  case atStart => exact ⟨_, [i], 0, g1, cap1, by simp, rfl, rfl, hI1, hR1, hown1, hB1⟩
  case round =>
    obtain ⟨H, R, k, g, cap, hk, rfl, rfl, hI, hRr, hor, hbr⟩ := hrel
    clear hI1 hR1 hown1 hB1
    have hRn := hI.le
    by_cases hlk : k < R.length
    · obtain ⟨x, hx⟩ : ∃ x, R[k]? = some x := ⟨R[k], by simp [hlk]⟩
      have hxn := (hI.new x (List.mem_of_getElem? hx)).1
      have hcx := own_id hor k x hx
      obtain ⟨a, acap, hca0, hg⟩ := hA.at_ x hxn
      have hca := (hbr.cell (p := ⟨ab, x, none⟩) hA.low).trans hca0
      clear hca0
      have hll := hLl x
      have HX : Hid (R[k]? = some x) := hx
      clear hx
      obtain ⟨wo, rfl⟩ : ∃ wo : World, wo = wr := ⟨_, rfl⟩
      go_wp2_with fail
      go_loopw [3, 39] (fun v jj wr => ∃ (H : Nat → Int) (R' : List Nat) (j g cap : Nat), j ≤ (L x).length ∧ jj = .int .i64 j ∧ v = .slice (some ⟨g, 0, none⟩) R'.length cap ∧ R'[k]? = some x ∧ Graph.Inv n L H0 i H R' k j ∧ Row wr hb n (HV H) ∧
          wr.ownsRow (hb + 1) 22 1 (.slice (some ⟨g, 0, none⟩) R'.length cap) R'.length (R'.map idV) ∧ Below hb w wr) (fun _ jj _ => (L x).length - (intOf jj).toNat)
      case atStart => exact ⟨H, R, 0, g, cap, Nat.zero_le _, rfl, rfl, HX.out, hI, hRr, hor, hbr⟩
      case round =>
        obtain ⟨H', R', j, g', cap', hj, rfl, rfl, hx', hI', hRr', hor', hbr'⟩ := hrel
        clear hcx hca hI hRr hor hbr
        have HX' : Hid (R'[k]? = some x) := hx'
        clear hx'
        by_cases hlj : j < (L x).length
        · obtain ⟨ga, rfl, hga, hgu⟩ := hg (by omega)
          obtain ⟨u, hu⟩ : ∃ u, (L x)[j]? = some u := ⟨(L x)[j], by simp [hlj]⟩
          have hun := hLn x hxn u (List.mem_of_getElem? hu)
          have hcu := (hbr'.cell (p := ⟨ga, j, none⟩) hga).trans (hgu j u hu)
          have HU : Hid ((L x)[j]? = some u) := hu
          clear hu hgu hg
          have hcx := own_id hor' k x HX'.out
          have hHu := hRr'.cell u hun
          have hHx := hRr'.cell x hxn
          simp only [HV] at hHu hHx
          have hfr := hRr'.free
          have hlt' := hRr'.lt
          have hkR : k < R'.length := (List.getElem?_eq_some_iff.1 HX'.out).1
          have hxh := hI'.hops k x HX'.out
          have hx0 : 0 ≤ H' x := (hI'.mark x hxn).2 (Or.inr (List.mem_of_getElem? HX'.out))
          have hRn' := hI'.le
          by_cases hu0 : H' u < 0
          · go_wp2_with (first
              | (at_builtin; refine wpList_append_lies _ rfl (.tmp 62) (.tmp 64) 42 rfl (hb + 1) 22 i0 (.int .u64 0) 1 8 Yba.underlying42 hi0 hz0 hz1 hz2 rfl (by omega) (.slice (some ⟨g', 0, none⟩) R'.length cap') _ _ rfl ((ownsRow_setCell_below hor' (Nat.lt_succ_self _) _).alloc _) ⟨wr.heap.size, 0, none⟩ 1 1 [idV u] rfl rfl (news_id _ u _ _ _ (by simp) (by simp)) (one_id u) (by omega) (by unfold maxLen; omega) (by omega) (by simp; omega) (wr.heap.size + 1) (by simp) ?_; intro g2 cap2 w2 hown2 hgrow2 hat2 hlt2))
            have hrow2 : ∀ k, (Value.slice (some ⟨g', 0, none⟩) R'.length cap').ownBlock = some k → hb < k := fun k hk => (hor'.lt k hk).1
            refine ⟨⟨_, R' ++ [u], j + 1, g2, cap2, by omega, by go_num, by simp, by rw [List.getElem?_append_left hkR]; exact HX'.out, hI'.push HX'.out HU.out hun (by omega), ?_, ?_, ?_⟩, by simp [intOf]; omega⟩
            · rw [← HV_set]
              exact ((hRr'.set u hun _).alloc _).grown hgrow2 hrow2
            · rw [List.length_append, List.map_append]; exact hown2
            · exact ((hbr'.setCell (Nat.le_refl _) _).alloc (by simp; omega) _).grown hgrow2 (by simp; omega) (fun k hk => Nat.le_of_lt (hrow2 k hk))
          · go_wp2_with fail
            exact ⟨⟨H', R', j + 1, g', cap', by omega, by go_num, rfl, HX'.out, hI'.skip HX'.out HU.out (by omega), hRr', hor', hbr'⟩, by simp [intOf]; omega⟩
        · have hkR : k < R'.length := (List.getElem?_eq_some_iff.1 HX'.out).1
          have hRn' := hI'.le
          go_wp2_with fail
          exact ⟨⟨H', R', k + 1, g', cap', by omega, by go_num, rfl, hI'.next HX'.out (by omega), hRr', hor', hbr'⟩, by simp [intOf]; omega⟩
    · obtain rfl : k = R.length := by omega
      go_wp2_with fail
      go_ret
      exact ⟨H, R, g, cap, rfl, hI, hRr, hor, hbr⟩
end Go.Proofs.Ybulknri
