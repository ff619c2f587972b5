import Derived.Test.YbulknriBfs
import Derived.Test.YbulknriAdj
namespace Go.Proofs.Ybulknri
open Graph

section
variable (E : Nat → Nat × Nat) (m n : Nat) (lid : Nat → Nat)

/-- The node's label at the end. -/
def root (x : Nat) : Nat := comps E m n x

def okB (c : Nat) : Bool := decide (1 ≤ lid c ∧ lid c ≤ n ∧ root E m n (lid c - 1) = c) && (List.range n).all fun j => !(root E m n j == c) || lid j == lid c

/-- A component, told by its smallest node, that does not follow one leader of its own. -/
def badB (c : Nat) : Bool := (root E m n c == c) && !okB E m n lid c

variable {E m n lid}

theorem okB_iff (c : Nat) : okB E m n lid c = true ↔ (1 ≤ lid c ∧ lid c ≤ n ∧ root E m n (lid c - 1) = c) ∧ ∀ j, j < n → root E m n j = c → lid j = lid c := by
  unfold okB
  rw [Bool.and_eq_true, decide_eq_true_eq, List.all_eq_true]
  refine and_congr Iff.rfl ⟨fun h j hj hr => ?_, fun h j hj => ?_⟩
  · have := h j (List.mem_range.2 hj)
    simp only [Bool.or_eq_true, Bool.not_eq_true', beq_eq_false_iff_ne, beq_iff_eq] at this
    rcases this with h1 | h1
    · exact absurd hr h1
    · exact h1
  · have := h j (List.mem_range.1 hj)
    simp only [Bool.or_eq_true, Bool.not_eq_true', beq_eq_false_iff_ne, beq_iff_eq]
    by_cases hr : root E m n j = c
    · exact Or.inr (this hr)
    · exact Or.inl hr

/-- Two neighbours bear one label. -/
theorem root_nbs (hE : ∀ k, k < m → (E k).1 < n ∧ (E k).2 < n) {x y : Nat} (h : y ∈ nbs E m x) : root E m n y = root E m n x := by
  obtain ⟨k, hk, h | h⟩ := (mem_nbs E m x y).1 h
  · rw [← h.1, ← h.2]; exact (comps_edge E m n hE k hk).symm
  · rw [← h.1, ← h.2]; exact comps_edge E m n hE k hk

theorem nbs_lt (hE : ∀ k, k < m → (E k).1 < n ∧ (E k).2 < n) {x y : Nat} (h : y ∈ nbs E m x) : y < n := by
  obtain ⟨k, hk, h | h⟩ := (mem_nbs E m x y).1 h
  · rw [← h.2]; exact (hE k hk).2
  · rw [← h.2]; exact (hE k hk).1

variable {H0 H : Nat → Int} {i : Nat} {R : List Nat} {k j : Nat}

theorem root_new (hH : ∀ x, x < n → (0 ≤ H0 x ↔ root E m n x < i)) (hi : i < n) (h0 : ¬ 0 ≤ H0 i) : root E m n i = i := by
  have h1 := comps_le E m n i
  have h2 : ¬ root E m n i < i := fun h => h0 ((hH i hi).2 h)
  unfold root at h2 ⊢
  omega

/-- What 'reach' has reached from a new node is its whole component. -/
theorem class_of (hE : ∀ k, k < m → (E k).1 < n ∧ (E k).2 < n) (hH : ∀ x, x < n → (0 ≤ H0 x ↔ root E m n x < i)) (hi : i < n) (h0 : ¬ 0 ≤ H0 i) (h : Inv n (nbs E m) H0 i H R k j) (hk : R.length ≤ k) (x : Nat) :
    x ∈ R ↔ x < n ∧ root E m n x = i := by
  have hri := root_new hH hi h0
  have fwd : ∀ x, x ∈ R → x < n ∧ root E m n x = i := fun x hx =>
    h.conn (fun y => y < n ∧ root E m n y = i) ⟨hi, hri⟩ (fun x y _ hx hy => ⟨nbs_lt hE hy, (root_nbs hE hy).trans hx.2⟩) x hx
  have step : ∀ a b, a ∈ R → b ∈ nbs E m a → b ∈ R := fun a b ha hb => by
    have hbn := nbs_lt hE hb
    have hv := h.closed hk a ha b hb
    rcases (h.mark b hbn).1 hv with h1 | h1
    · exfalso
      have h2 := (hH b hbn).1 h1
      rw [root_nbs hE hb, (fwd a ha).2] at h2
      omega
    · exact h1
  refine ⟨fwd x, fun ⟨_, hr⟩ => ?_⟩
  have := comps_conn E m (fun y => y ∈ R) (fun e he => ⟨fun ha => step _ _ ha ((mem_nbs E m _ _).2 ⟨e, he, Or.inl ⟨rfl, rfl⟩⟩), fun hb => step _ _ hb ((mem_nbs E m _ _).2 ⟨e, he, Or.inr ⟨rfl, rfl⟩⟩)⟩) n x
  refine this.2 ?_
  show comps E m n x ∈ R
  rw [show comps E m n x = i from hr]
  exact h.first

theorem marks_next (hE : ∀ k, k < m → (E k).1 < n ∧ (E k).2 < n) (hH : ∀ x, x < n → (0 ≤ H0 x ↔ root E m n x < i)) (hi : i < n) (h0 : ¬ 0 ≤ H0 i) (h : Inv n (nbs E m) H0 i H R k j) (hk : R.length ≤ k) :
    ∀ x, x < n → (0 ≤ H x ↔ root E m n x < i + 1) := fun x hx => by
  rw [h.mark x hx, hH x hx, class_of hE hH hi h0 h hk x]
  omega

theorem marks_skip (hE : ∀ k, k < m → (E k).1 < n ∧ (E k).2 < n) (hH : ∀ x, x < n → (0 ≤ H0 x ↔ root E m n x < i)) (hi : i < n) (h0 : 0 ≤ H0 i) :
    (∀ x, x < n → (0 ≤ H0 x ↔ root E m n x < i + 1)) ∧ badB E m n lid i = false := by
  have hlt := (hH i hi).1 h0
  refine ⟨fun x hx => ?_, ?_⟩
  · rw [hH x hx]
    have : root E m n x ≠ i := fun e => by
      have h1 : root E m n (root E m n x) = root E m n x := comps_idem E m n hE x
      rw [e] at h1
      omega
    omega
  · unfold badB
    rw [show (root E m n i == i) = false from by rw [beq_eq_false_iff_ne]; omega]
    rfl

/-- The test of 'splitComponents' at a new node is the law's own. -/
theorem bad_of (hE : ∀ k, k < m → (E k).1 < n ∧ (E k).2 < n) (hH : ∀ x, x < n → (0 ≤ H0 x ↔ root E m n x < i)) (hi : i < n) (h0 : ¬ 0 ≤ H0 i) (h : Inv n (nbs E m) H0 i H R k j) (hk : R.length ≤ k)
    {bi bo : Bool} (hbi : bi = true ↔ ∃ x, x ∈ R ∧ x + 1 = lid i) (hbo : bo = true ↔ ∃ x, x ∈ R ∧ lid x ≠ lid i) : badB E m n lid i = (!bi || bo) := by
  have hri := root_new hH hi h0
  have hc := class_of hE hH hi h0 h hk
  have hok : okB E m n lid i = true ↔ bi = true ∧ bo = false := by
    rw [okB_iff, hbi, ← Bool.not_eq_true, hbo]
    refine and_congr ⟨fun ⟨h1, h2, h3⟩ => ⟨lid i - 1, (hc _).2 ⟨by omega, h3⟩, by omega⟩, fun ⟨x, hx, hx1⟩ => ?_⟩ ⟨fun h1 ⟨x, hx, hne⟩ => ?_, fun h1 j hj hr => ?_⟩
    · obtain ⟨h1, h2⟩ := (hc x).1 hx
      refine ⟨by omega, by omega, ?_⟩
      rw [← hx1]
      exact h2
    · obtain ⟨h2, h3⟩ := (hc x).1 hx
      exact hne (h1 x h2 h3)
    · exact Classical.byContradiction fun hne => h1 ⟨j, (hc j).2 ⟨hj, hr⟩, hne⟩
  unfold badB
  rw [show (root E m n i == i) = true from by rw [beq_iff_eq]; exact hri, Bool.true_and]
  cases ho : okB E m n lid i with
  | true =>
    obtain ⟨h1, h2⟩ := hok.1 ho
    rw [h1, h2]; rfl
  | false =>
    cases bi with
    | false => rfl
    | true =>
      cases bo with
      | true => rfl
      | false => rw [hok.2 ⟨rfl, rfl⟩] at ho; cases ho

end
end Go.Proofs.Ybulknri
