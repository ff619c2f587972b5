import Derived.Test.YbulknrwLog
namespace Go.Proofs.Ybulknrw
open Go.RowKit

/-- A slice's cells, as numbers (a nil slice has none). -/
def Has (w : World) (v : Value) (xs : List Int) : Prop := ∃ a cap, v = .slice a xs.length cap ∧ (0 < xs.length → ∃ g, a = some ⟨g, 0, none⟩ ∧ ∀ (i : Nat) (z : Int), xs[i]? = some z → w.cell? ⟨g, i, none⟩ = some (.int .i64 z))

theorem has_own {w : World} {B : Nat} {v : Value} {xs : List Int} (h : w.ownsRow B 3 1 v xs.length (xs.map I)) : Has w v xs := by
  rcases h.2 with ⟨hv, hl⟩ | ⟨g, cap, cur, hv, hg, hh, hr⟩
  · exact ⟨none, 0, by rw [hv, hl], fun hp => by omega⟩
  · refine ⟨some ⟨g, 0, none⟩, cap, hv, fun _ => ⟨g, rfl, fun i z hi => ?_⟩⟩
    have := h.cells (g := g) (by rw [hv]; rfl) i (I z) (by rw [List.getElem?_map, hi]; rfl)
    rwa [Addr.add_lit, Nat.zero_add] at this

set_option maxHeartbeats 400000 in
theorem eq_any (v1 v2 : Value) (xs : List Int) (w : World) (h1 : Has w v1 xs) (h2 : Has w v2 xs) (hlen : xs.length ≤ 1000) :
    Calls Yba.prog 8 #[v1, v2] w fun e w' => e = .returned (.bool true) ∧ ∃ q, w' = w.drewN q := by
  obtain ⟨a1, c1, rfl, k1⟩ := h1
  obtain ⟨a2, c2, rfl, k2⟩ := h2
  go_enter Yba.func8, Yba.ntmps8
  have K1 : Hid _ := k1
  have K2 : Hid _ := k2
  clear k1 k2
  go_wp2_with fail
  go_loopw [5] (fun i wr => ∃ k q : Nat, k ≤ xs.length ∧ i = .int .i64 k ∧ wr = w.drewN q) (fun i _ => xs.length - (intOf i).toNat)
  case atStart => exact ⟨0, 0, Nat.zero_le _, rfl, rfl⟩
  case round =>
    obtain ⟨k, q, hk, rfl, rfl⟩ := hrel
    by_cases hlt : k < xs.length
    · obtain ⟨g1, rfl, m1⟩ := K1.out (by omega)
      obtain ⟨g2, rfl, m2⟩ := K2.out (by omega)
      have d1 := m1 k xs[k] (by simp [hlt])
      have d2 := m2 k xs[k] (by simp [hlt])
      clear K1 K2 m1 m2
      generalize xs[k] = z at *
      have hb : (z != z) = false := by simp
      have hk0 : (0 : Int) ≤ (k : Int) := by omega
      have hk1 : (k : Int) < (xs.length : Int) := by omega
      go_wp2_with fail
      go_quiet (fail)
      go_wp2_with fail
      exact ⟨⟨k + 1, _, by omega, by go_num, rfl⟩, by simp [intOf]; omega⟩
    · go_wp2_with fail
      go_ret
      exact ⟨rfl, _, rfl⟩
end Go.Proofs.Ybulknrw
