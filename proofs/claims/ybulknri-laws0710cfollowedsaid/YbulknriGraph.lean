namespace Go.Proofs.Ybulknri.Graph

/-- One edge: both ends take the smaller label. -/
def stepE (c : Nat → Nat) (a b : Nat) : Nat → Nat := fun v => if v = a ∨ v = b then min (c a) (c b) else c v

/-- The first k edges of a round. -/
def roundE (E : Nat → Nat × Nat) (c : Nat → Nat) : Nat → Nat → Nat
  | 0 => c
  | k + 1 => stepE (roundE E c k) (E k).1 (E k).2

/-- The labels after r rounds. -/
def comps (E : Nat → Nat × Nat) (m : Nat) : Nat → Nat → Nat
  | 0 => fun v => v
  | r + 1 => roundE E (comps E m r) m

theorem stepE_le (c : Nat → Nat) (a b v : Nat) : stepE c a b v ≤ c v := by
  unfold stepE
  split
  · rename_i h
    rcases h with rfl | rfl
    · exact Nat.min_le_left _ _
    · exact Nat.min_le_right _ _
  · exact Nat.le_refl _

theorem roundE_le (E : Nat → Nat × Nat) (c : Nat → Nat) (k v : Nat) : roundE E c k v ≤ c v := by
  induction k with
  | zero => exact Nat.le_refl _
  | succ k ih => exact Nat.le_trans (stepE_le _ _ _ _) ih

theorem roundE_mono (E : Nat → Nat × Nat) (c : Nat → Nat) (k j v : Nat) (h : k ≤ j) : roundE E c j v ≤ roundE E c k v := by
  induction j with
  | zero => obtain rfl : k = 0 := by omega
            exact Nat.le_refl _
  | succ j ih =>
    by_cases hk : k = j + 1
    · subst hk; exact Nat.le_refl _
    · exact Nat.le_trans (stepE_le _ _ _ _) (ih (by omega))

theorem comps_le (E : Nat → Nat × Nat) (m r v : Nat) : comps E m r v ≤ v := by
  induction r with
  | zero => exact Nat.le_refl _
  | succ r ih => exact Nat.le_trans (roundE_le _ _ _ _) ih

/-- An edge of the round carries a small label over. -/
theorem round_edge (E : Nat → Nat × Nat) (c : Nat → Nat) (m k u : Nat) (hk : k < m) :
    (c (E k).1 ≤ u → roundE E c m (E k).2 ≤ u) ∧ (c (E k).2 ≤ u → roundE E c m (E k).1 ≤ u) := by
  have hs : ∀ v, v = (E k).1 ∨ v = (E k).2 → roundE E c (k + 1) v = min (roundE E c k (E k).1) (roundE E c k (E k).2) := fun v hv => by
    show stepE _ _ _ v = _
    unfold stepE
    rw [if_pos hv]
  refine ⟨fun h => ?_, fun h => ?_⟩
  · refine Nat.le_trans (roundE_mono E c (k + 1) m _ hk) ?_
    rw [hs _ (Or.inr rfl)]
    exact Nat.le_trans (Nat.min_le_left _ _) (Nat.le_trans (roundE_le _ _ _ _) h)
  · refine Nat.le_trans (roundE_mono E c (k + 1) m _ hk) ?_
    rw [hs _ (Or.inl rfl)]
    exact Nat.le_trans (Nat.min_le_right _ _) (Nat.le_trans (roundE_le _ _ _ _) h)

/-- Where the set of small labels is closed under the edges a round leaves it as it is. -/
theorem round_closed (E : Nat → Nat × Nat) (c : Nat → Nat) (m u : Nat) (hc : ∀ k, k < m → (c (E k).1 ≤ u ↔ c (E k).2 ≤ u)) : ∀ j, j ≤ m → ∀ v, roundE E c j v ≤ u ↔ c v ≤ u := by
  intro j
  induction j with
  | zero => exact fun _ _ => Iff.rfl
  | succ j ih =>
    intro hj v
    show stepE _ _ _ v ≤ u ↔ _
    unfold stepE
    have h1 := ih (by omega) (E j).1
    have h2 := ih (by omega) (E j).2
    have h12 := hc j (by omega)
    split
    · rename_i h
      have : min (roundE E c j (E j).1) (roundE E c j (E j).2) ≤ u ↔ (c (E j).1 ≤ u) := by
        constructor
        · intro hm
          have hor : roundE E c j (E j).1 ≤ u ∨ roundE E c j (E j).2 ≤ u := by omega
          rcases hor with h | h
          · exact h1.1 h
          · exact h12.2 (h2.1 h)
        · intro h
          exact Nat.le_trans (Nat.min_le_left _ _) (h1.2 h)
      rw [this]
      rcases h with rfl | rfl
      · exact Iff.rfl
      · exact h12
    · exact ih (by omega) v

/-- How many of the first n are marked. -/
def num (f : Nat → Bool) : Nat → Nat
  | 0 => 0
  | n + 1 => num f n + (if f n then 1 else 0)

theorem num_le (f : Nat → Bool) (n : Nat) : num f n ≤ n := by
  induction n with
  | zero => exact Nat.le_refl _
  | succ n ih => simp only [num]; split <;> omega

theorem num_mono (f g : Nat → Bool) (n : Nat) (h : ∀ v, v < n → f v = true → g v = true) : num f n ≤ num g n := by
  induction n with
  | zero => exact Nat.le_refl _
  | succ n ih =>
    have h1 := ih fun v hv => h v (by omega)
    have h2 := h n (by omega)
    simp only [num]
    cases hf : f n with
    | false => simp; omega
    | true => rw [h2 hf]; simp; exact h1

theorem num_lt (f g : Nat → Bool) (n x : Nat) (h : ∀ v, v < n → f v = true → g v = true) (hx : x < n) (hf : f x = false) (hg : g x = true) : num f n < num g n := by
  induction n with
  | zero => omega
  | succ n ih =>
    have hm := num_mono f g n fun v hv => h v (by omega)
    simp only [num]
    by_cases hxn : x = n
    · subst hxn
      rw [hf, hg]; simp; omega
    · have h1 := ih (fun v hv => h v (by omega)) (by omega)
      have h2 := h n (by omega)
      cases hfn : f n with
      | false => simp; omega
      | true => rw [h2 hfn]; simp; omega

theorem num_pos (f : Nat → Bool) (n x : Nat) (hx : x < n) (hf : f x = true) : 1 ≤ num f n := by
  induction n with
  | zero => omega
  | succ n ih =>
    simp only [num]
    by_cases hxn : x = n
    · subst hxn; rw [hf]; simp
    · have := ih (by omega); omega

theorem num_set (f g : Nat → Bool) (n x : Nat) (hx : x < n) (hf : f x = false) (hg : g x = true) (ho : ∀ v, v < n → v ≠ x → g v = f v) : num g n = num f n + 1 := by
  induction n with
  | zero => omega
  | succ n ih =>
    simp only [num]
    by_cases hxn : x = n
    · subst hxn
      rw [hf, hg]
      have : num g x = num f x := by
        clear ih hx
        have key : ∀ k, k ≤ x → num g k = num f k := by
          intro k
          induction k with
          | zero => intro; rfl
          | succ k ihk => intro hk; simp only [num]; rw [ihk (by omega), ho k (by omega) (by omega)]
        exact key x (Nat.le_refl _)
      simp [this]
    · rw [ih (by omega) (fun v hv hne => ho v (by omega) hne), ho n (by omega) (by omega)]
      omega

section
variable (E : Nat → Nat × Nat) (m n : Nat)

/-- The set of labels up to u: closed from some round on, before the n-th. -/
theorem closes (hE : ∀ k, k < m → (E k).1 < n ∧ (E k).2 < n) (u : Nat) (hu : u < n) : ∀ k, k < m → (comps E m n (E k).1 ≤ u ↔ comps E m n (E k).2 ≤ u) := by
  -- from a closed round on all is closed
  have stays : ∀ r, (∀ k, k < m → (comps E m r (E k).1 ≤ u ↔ comps E m r (E k).2 ≤ u)) → ∀ d, ∀ k, k < m → (comps E m (r + d) (E k).1 ≤ u ↔ comps E m (r + d) (E k).2 ≤ u) := by
    intro r hr d
    induction d with
    | zero => exact hr
    | succ d ih =>
      intro k hk
      show roundE E (comps E m (r + d)) m (E k).1 ≤ u ↔ roundE E (comps E m (r + d)) m (E k).2 ≤ u
      rw [round_closed E _ m u ih m (Nat.le_refl _), round_closed E _ m u ih m (Nat.le_refl _)]
      exact ih k hk
  by_cases hex : ∃ r, r ≤ n ∧ ∀ k, k < m → (comps E m r (E k).1 ≤ u ↔ comps E m r (E k).2 ≤ u)
  · obtain ⟨r, hr, h⟩ := hex
    have := stays r h (n - r)
    rwa [show r + (n - r) = n by omega] at this
  · exfalso
    -- every round adds one
    have grow : ∀ r, r ≤ n → r + 1 ≤ num (fun v => decide (comps E m r v ≤ u)) n := by
      intro r
      induction r with
      | zero => exact fun _ => num_pos _ n u hu (by simp [comps])
      | succ r ih =>
        intro hr
        have h1 := ih (by omega)
        have hno : ¬ ∀ k, k < m → (comps E m r (E k).1 ≤ u ↔ comps E m r (E k).2 ≤ u) := fun h => hex ⟨r, by omega, h⟩
        have hk : ∃ k, k < m ∧ ¬ (comps E m r (E k).1 ≤ u ↔ comps E m r (E k).2 ≤ u) := by
          refine Classical.byContradiction fun hc => hno fun k hk => Classical.byContradiction fun h => hc ⟨k, hk, h⟩
        obtain ⟨k, hk, hne⟩ := hk
        have hmono : ∀ v, v < n → (fun v => decide (comps E m r v ≤ u)) v = true → (fun v => decide (comps E m (r + 1) v ≤ u)) v = true := by
          intro v _ hv
          simp only [decide_eq_true_eq] at hv ⊢
          exact Nat.le_trans (roundE_le _ _ _ _) hv
        have hr1 := round_edge E (comps E m r) m k u hk
        have hex2 : ∃ x, x < n ∧ ¬ comps E m r x ≤ u ∧ comps E m (r + 1) x ≤ u := by
          by_cases ha : comps E m r (E k).1 ≤ u
          · exact ⟨(E k).2, (hE k hk).2, fun hb => hne ⟨fun _ => hb, fun _ => ha⟩, hr1.1 ha⟩
          · by_cases hb : comps E m r (E k).2 ≤ u
            · exact ⟨(E k).1, (hE k hk).1, ha, hr1.2 hb⟩
            · exact absurd ⟨fun h => absurd h ha, fun h => absurd h hb⟩ hne
        obtain ⟨x, hx, hxf, hxg⟩ := hex2
        have := num_lt _ _ n x hmono hx (by simpa using hxf) (by simpa using hxg)
        omega
    have h1 := grow n (Nat.le_refl _)
    have h2 := num_le (fun v => decide (comps E m n v ≤ u)) n
    omega

/-- After n rounds the two ends of an edge bear one label. -/
theorem comps_edge (hE : ∀ k, k < m → (E k).1 < n ∧ (E k).2 < n) (k : Nat) (hk : k < m) : comps E m n (E k).1 = comps E m n (E k).2 := by
  have ha := comps_le E m n (E k).1
  have hb := comps_le E m n (E k).2
  have he := hE k hk
  have h1 := (closes E m n hE (comps E m n (E k).1) (by omega) k hk).1 (Nat.le_refl _)
  have h2 := (closes E m n hE (comps E m n (E k).2) (by omega) k hk).2 (Nat.le_refl _)
  omega

/-- A set that is closed under the edges holds a node if it holds its label. -/
theorem comps_conn (P : Nat → Prop) (hP : ∀ k, k < m → (P (E k).1 ↔ P (E k).2)) (r v : Nat) : P v ↔ P (comps E m r v) := by
  have step : ∀ c : Nat → Nat, (∀ v, P v ↔ P (c v)) → ∀ j, j ≤ m → ∀ v, P v ↔ P (roundE E c j v) := by
    intro c hc j
    induction j with
    | zero => exact fun _ => hc
    | succ j ih =>
      intro hj v
      have h1 := ih (by omega) (E j).1
      have h2 := ih (by omega) (E j).2
      have h12 := hP j (by omega)
      show P v ↔ P (stepE _ _ _ v)
      unfold stepE
      split
      · rename_i h
        have hm : P (E j).1 ↔ P (min (roundE E c j (E j).1) (roundE E c j (E j).2)) := by
          rcases Nat.le_total (roundE E c j (E j).1) (roundE E c j (E j).2) with hle | hle
          · rw [Nat.min_eq_left hle]; exact h1
          · rw [Nat.min_eq_right hle]; exact h12.trans h2
        rcases h with rfl | rfl
        · exact hm
        · exact h12.symm.trans hm
      · exact ih (by omega) v
  induction r generalizing v with
  | zero => exact Iff.rfl
  | succ r ih => exact step _ ih m (Nat.le_refl _) v

theorem comps_idem (hE : ∀ k, k < m → (E k).1 < n ∧ (E k).2 < n) (v : Nat) : comps E m n (comps E m n v) = comps E m n v :=
  ((comps_conn E m (fun y => comps E m n y = comps E m n v) (fun k hk => by rw [comps_edge E m n hE k hk]) n v).1 rfl)

end
end Go.Proofs.Ybulknri.Graph
