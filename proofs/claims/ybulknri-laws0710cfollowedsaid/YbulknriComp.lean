import Derived.Test.YbulknriRow
namespace Go.Proofs.Ybulknri
open Go.RowKit

/-- The k-th edge's ends. -/
def edge (x y : Nat → Nat) (n k : Nat) : Nat × Nat := (x k % n, y k % n)

/-- The raw edges as they lie in memory. -/
structure HasEdges (w : World) (eb eo m : Nat) (x y : Nat → Nat) : Prop where
  c0 : ∀ k, k < m → w.cell? ⟨eb, eo + k * 2, none⟩ = some (.int .u8 (x k : Nat))
  c1 : ∀ k, k < m → w.cell? ⟨eb, eo + k * 2 + 1, none⟩ = some (.int .u8 (y k : Nat))
  lx : ∀ k, k < m → x k < 256
  ly : ∀ k, k < m → y k < 256

theorem HasEdges.later {w w' : World} {eb eo m : Nat} {x y : Nat → Nat} (h : HasEdges w eb eo m x y) (hb : Below w.heap.size w w') : HasEdges w' eb eo m x y :=
  ⟨fun k hk => (hb.cell (p := ⟨eb, eo + k * 2, none⟩) (cell_lt (h.c0 k hk))).trans (h.c0 k hk), fun k hk => (hb.cell (p := ⟨eb, eo + k * 2 + 1, none⟩) (cell_lt (h.c1 k hk))).trans (h.c1 k hk), h.lx, h.ly⟩

def VI (f : Nat → Nat) : Nat → Value := fun i => .int .i64 (f i : Nat)

set_option maxRecDepth 100000 in
set_option maxHeartbeats 1000000 in
theorem comp_any (n m cap eb eo : Nat) (ea : Option Addr) (x y : Nat → Nat) (w : World) (hn : n ≤ 256) (hm : m ≤ 1024) (hea : 0 < m → ea = some ⟨eb, eo, none⟩) (hE : HasEdges w eb eo m x y) :
    Calls Yba.prog 15 #[.int .i64 (n : Int), .slice ea m cap] w
      fun e w' => ∃ cb, e = .returned (.slice (some ⟨cb, 0, none⟩) n n) ∧ w.heap.size ≤ cb ∧ Row w' cb n (VI (Graph.comps (edge x y n) m n)) ∧ Below w.heap.size w w' := by
  have hmk := make_at (t := 97) (e := 3) 8 n Yba.underlying97 Yba.info3 rfl (by omega) (by omega)
  go_enter Yba.func15, Yba.ntmps15
  go_wp2_with fail
  have hR0 := made_row (.int .i64 0) n 3 w
  have hB0 := bAlloc (Below.refl w.heap.size w) (.cells (madeCells #[.int .i64 0] n) 3)
  generalize w.alloc (.cells (madeCells #[.int .i64 0] n) 3) = W0 at *
  clear hmk
  go_loopw [6] (fun i wr => ∃ k : Nat, k ≤ n ∧ i = .int .i64 k ∧ Row wr w.heap.size n (VI fun j => if j < k then j else 0) ∧ Below w.heap.size w wr) (fun i _ => n - (intOf i).toNat)
  case atStart => exact ⟨0, Nat.zero_le _, rfl, hR0.congr (fun i _ => by simp [VI]), hB0⟩
  case round =>
    obtain ⟨k, hk, rfl, hR, hbr⟩ := hrel
    clear hR0 hB0
    by_cases hlt : k < n
    · have hc := hR.cell k hlt
      have hf := hR.free k
      go_wp2_with fail
      exact ⟨⟨k + 1, by omega, by go_num, (hR.set k hlt _).congr (fun i _ => by simp only [VI]; by_cases hik : i = k; (· subst hik; simp); (· rw [if_neg hik]; by_cases h : i < k; (· rw [if_pos h, if_pos (by omega)]); (· rw [if_neg h, if_neg (by omega)]))), hbr.setCell (Nat.le_refl _) _⟩, by simp [intOf]; omega⟩
    · have hR1 : Row wr w.heap.size n (VI (Graph.comps (edge x y n) m 0)) := hR.congr (fun i hi => by simp only [VI]; rw [if_pos (by omega)]; rfl)
      clear hR
      by_cases hn0 : n = 0
      · subst hn0
        go_wp2_with fail
        go_ret
        exact ⟨_, rfl, Nat.le_refl _, ⟨fun i hi => absurd hi (Nat.not_lt_zero _), hR1.free, hR1.lt⟩, hbr⟩
      · have hn1 : ((n : Int) == 0) = false := by simpa using hn0
        obtain ⟨wo, rfl⟩ : ∃ wo : World, wo = wr := ⟨_, rfl⟩
        go_wp2_with fail
        go_loopw [7] (fun i wr => ∃ r : Nat, r ≤ n ∧ i = .int .i64 r ∧ Row wr w.heap.size n (VI (Graph.comps (edge x y n) m r)) ∧ Below w.heap.size w wr) (fun i _ => n - (intOf i).toNat)
        case atStart => exact ⟨0, Nat.zero_le _, rfl, hR1, hbr⟩
        case round =>
          obtain ⟨r, hr, rfl, hR, hbo⟩ := hrel
          clear hR1 hbr
          by_cases hlr : r < n
          · obtain ⟨wo, rfl⟩ : ∃ wo : World, wo = wr := ⟨_, rfl⟩
            go_wp2_with fail
            go_loopw [34] (fun i wr => ∃ j : Nat, j ≤ m ∧ i = .int .i64 j ∧ Row wr w.heap.size n (VI (Graph.roundE (edge x y n) (Graph.comps (edge x y n) m r) j)) ∧ Below w.heap.size w wr) (fun i _ => m - (intOf i).toNat)
            case atStart => exact ⟨0, Nat.zero_le _, rfl, hR, hbo⟩
            case round =>
              obtain ⟨j, hj, rfl, hRj, hbj⟩ := hrel
              clear hR hbo
              by_cases hlj : j < m
              · obtain rfl := hea (by omega)
                clear hea
                have hEj := hE.later hbj
                have e0 := hEj.c0 j hlj
                have e1 := hEj.c1 j hlj
                have lx := hEj.lx j hlj
                have ly := hEj.ly j hlj
                clear hEj
                obtain ⟨a, ha, HA⟩ : ∃ a : Nat, (x j : Int) % (n : Int) = (a : Int) ∧ Hid (a = x j % n) := ⟨x j % n, by omega, rfl⟩
                obtain ⟨b, hb, HB⟩ : ∃ b : Nat, (y j : Int) % (n : Int) = (b : Int) ∧ Hid (b = y j % n) := ⟨y j % n, by omega, rfl⟩
                have han : a < n := by rw [HA.out]; exact Nat.mod_lt _ (by omega)
                have hbn : b < n := by rw [HB.out]; exact Nat.mod_lt _ (by omega)
                have hlt' := hRj.lt
                have hfa := hRj.free
                obtain ⟨c, HC⟩ : ∃ c, Hid (c = Graph.roundE (edge x y n) (Graph.comps (edge x y n) m r) j) := ⟨_, rfl⟩
                rw [← HC.out] at hRj
                have hca := hRj.cell a han
                have hcb := hRj.cell b hbn
                simp only [VI] at hca hcb
                have hbd : c a ≤ 256 ∧ c b ≤ 256 := by
                  have h1 := Graph.roundE_le (edge x y n) (Graph.comps (edge x y n) m r) j a
                  have h2 := Graph.roundE_le (edge x y n) (Graph.comps (edge x y n) m r) j b
                  have h3 := Graph.comps_le (edge x y n) m r a
                  have h4 := Graph.comps_le (edge x y n) m r b
                  rw [← HC.out] at h1 h2
                  omega
                have fin : ∀ v : Nat, v = min (c a) (c b) → Row (((wr.setCell ⟨w.heap.size, a, none⟩ (.int .i64 (v : Nat))).setCell ⟨w.heap.size, b, none⟩ (.int .i64 (v : Nat))).alloc (.cells #[.int .u8 (x j : Nat), .int .u8 (y j : Nat)] 118)) w.heap.size n (VI (Graph.roundE (edge x y n) (Graph.comps (edge x y n) m r) (j + 1))) := by
                  intro v hv
                  refine (((hRj.set a han _).set b hbn _).alloc _).congr fun i hi => ?_
                  show _ = VI (Graph.stepE (Graph.roundE (edge x y n) (Graph.comps (edge x y n) m r) j) (x j % n) (y j % n)) i
                  rw [← HC.out, ← HA.out, ← HB.out]
                  simp only [VI, Graph.stepE]
                  by_cases hib : i = b
                  · rw [if_pos hib, if_pos (Or.inr hib), hv]
                  · by_cases hia : i = a
                    · rw [if_neg hib, if_pos hia, if_pos (Or.inl hia), hv]
                    · rw [if_neg hib, if_neg hia, if_neg (by omega)]
                have HF : Hid _ := fin
                clear fin
                by_cases hab : b = a
                · subst hab
                  go_wp2_with fail
                  exact ⟨⟨j + 1, by omega, by go_num, HF.out _ (by omega), bAlloc ((hbj.setCell (Nat.le_refl _) _).setCell (Nat.le_refl _) _) _⟩, by simp [intOf]; omega⟩
                · by_cases hcab : (c b : Int) < (c a : Int)
                  · go_wp2_with fail
                    exact ⟨⟨j + 1, by omega, by go_num, HF.out _ (by omega), bAlloc ((hbj.setCell (Nat.le_refl _) _).setCell (Nat.le_refl _) _) _⟩, by simp [intOf]; omega⟩
                  · go_wp2_with fail
                    exact ⟨⟨j + 1, by omega, by go_num, HF.out _ (by omega), bAlloc ((hbj.setCell (Nat.le_refl _) _).setCell (Nat.le_refl _) _) _⟩, by simp [intOf]; omega⟩
              · obtain rfl : j = m := by omega
                go_wp2_with fail
                exact ⟨⟨r + 1, by omega, by go_num, hRj, hbj⟩, by simp [intOf]; omega⟩
          · obtain rfl : r = n := by omega
            go_wp2_with fail
            go_ret
            exact ⟨_, rfl, Nat.le_refl _, hR, hbo⟩
end Go.Proofs.Ybulknri
