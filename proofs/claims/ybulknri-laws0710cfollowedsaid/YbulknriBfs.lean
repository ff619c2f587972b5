import Derived.Test.YbulknriGraph
namespace Go.Proofs.Ybulknri.Graph

/-- Marked: its number of hops is known. -/
def vis (H : Nat → Int) (x : Nat) : Bool := decide (0 ≤ H x)

/-- What holds while 'reach' goes: H0 the hops at its start, i the first node, R the nodes reached so far (all of them new), the first k of them done; of the k-th node's list the first j. -/
structure Inv (n : Nat) (L : Nat → List Nat) (H0 : Nat → Int) (i : Nat) (H : Nat → Int) (R : List Nat) (k j : Nat) : Prop where
  mark : ∀ x, x < n → (0 ≤ H x ↔ (0 ≤ H0 x ∨ x ∈ R))
  new : ∀ x, x ∈ R → x < n ∧ ¬ 0 ≤ H0 x
  first : i ∈ R
  conn : ∀ P : Nat → Prop, P i → (∀ x y, x < n → P x → y ∈ L x → P y) → ∀ x, x ∈ R → P x
  count : R.length + num (vis H0) n = num (vis H) n
  hops : ∀ (p x : Nat), R[p]? = some x → H x ≤ (p : Int)
  done : ∀ (p x : Nat), p < k → R[p]? = some x → ∀ y, y ∈ L x → 0 ≤ H y
  part : ∀ (x : Nat), R[k]? = some x → ∀ y, y ∈ (L x).take j → 0 ≤ H y

variable {n : Nat} {L : Nat → List Nat} {H0 : Nat → Int} {i : Nat} {H : Nat → Int} {R : List Nat} {k j : Nat}

theorem Inv.le (h : Inv n L H0 i H R k j) : R.length ≤ n := by
  have := h.count
  have := num_le (vis H) n
  omega

/-- The start: one node, its hops 0. -/
theorem Inv.start (hi : i < n) (h0 : ¬ 0 ≤ H0 i) : Inv n L H0 i (fun x => if x = i then 0 else H0 x) [i] 0 0 := by
  refine ⟨fun x hx => ?_, fun x hx => ?_, by simp, fun P hP _ x hx => ?_, ?_, fun p x hp => ?_, fun p x hp => absurd hp (Nat.not_lt_zero _), fun x _ y hy => by simp at hy⟩
  · by_cases hxi : x = i
    · subst hxi; simp
    · simp [hxi]
  · simp at hx; subst hx; exact ⟨hi, h0⟩
  · simp at hx; subst hx; exact hP
  · rw [num_set (vis H0) (vis fun x => if x = i then 0 else H0 x) n i hi (by simp [vis]; omega) (by simp [vis]) (fun v _ hv => by simp [vis, hv])]
    simp; omega
  · match p with
    | 0 => simp at hp; subst hp; simp
    | p + 1 => simp at hp

/-- The next node of the list is known already. -/
theorem Inv.skip (h : Inv n L H0 i H R k j) {x y : Nat} (hx : R[k]? = some x) (hy : (L x)[j]? = some y) (hk : 0 ≤ H y) : Inv n L H0 i H R k (j + 1) :=
  ⟨h.mark, h.new, h.first, h.conn, h.count, h.hops, h.done, fun x' hx' z hz => by
    rw [hx] at hx'
    cases hx'
    rw [List.take_add_one, hy] at hz
    simp at hz
    rcases hz with hz | hz
    · exact h.part x hx z hz
    · subst hz; exact hk⟩

/-- The next node of the list is new. -/
theorem Inv.push (h : Inv n L H0 i H R k j) {x y : Nat} (hx : R[k]? = some x) (hy : (L x)[j]? = some y) (hn : y < n) (hk : ¬ 0 ≤ H y) : Inv n L H0 i (fun z => if z = y then H x + 1 else H z) (R ++ [y]) k (j + 1) := by
  have hkl : k < R.length := by
    have := (List.getElem?_eq_some_iff.1 hx).1
    exact this
  have hxR : x ∈ R := List.mem_of_getElem? hx
  have hxn := (h.new x hxR).1
  have hH0 : ¬ 0 ≤ H0 y := fun e => hk ((h.mark y hn).2 (Or.inl e))
  have hyR : y ∉ R := fun e => hk ((h.mark y hn).2 (Or.inr e))
  have hxv : 0 ≤ H x := (h.mark x hxn).2 (Or.inr hxR)
  have hxy : x ≠ y := fun e => hk (e ▸ hxv)
  have mono : ∀ z, 0 ≤ H z → 0 ≤ (if z = y then H x + 1 else H z) := fun z hz => by
    by_cases hzy : z = y
    · rw [if_pos hzy]; omega
    · rw [if_neg hzy]; exact hz
  have old : ∀ p z, R[p]? = some z → (R ++ [y])[p]? = some z := fun p z hp => by
    rw [List.getElem?_append_left (List.getElem?_eq_some_iff.1 hp).1]; exact hp
  refine ⟨fun z hz => ?_, fun z hz => ?_, by simp [h.first], fun P hP hc z hz => ?_, ?_, fun p z hp => ?_, fun p z hp hz u hu => ?_, fun z hz u hu => ?_⟩
  · by_cases hzy : z = y
    · subst hzy; simp; omega
    · have := h.mark z hz
      show 0 ≤ (if z = y then H x + 1 else H z) ↔ _
      rw [if_neg hzy, this]
      simp [hzy]
  · simp only [List.mem_append, List.mem_singleton] at hz
    rcases hz with hz | hz
    · exact h.new z hz
    · subst hz; exact ⟨hn, hH0⟩
  · simp only [List.mem_append, List.mem_singleton] at hz
    rcases hz with hz | hz
    · exact h.conn P hP hc z hz
    · subst hz
      exact hc x z hxn (h.conn P hP hc x hxR) (List.mem_of_getElem? hy)
  · rw [num_set (vis H) (vis fun z => if z = y then H x + 1 else H z) n y hn (by simp [vis]; omega) (by simp [vis]; omega) (fun v _ hv => by simp [vis, hv])]
    have := h.count
    simp; omega
  · by_cases hpl : p < R.length
    · rw [List.getElem?_append_left hpl] at hp
      have hzR : z ∈ R := List.mem_of_getElem? hp
      have hzy : z ≠ y := fun e => hyR (e ▸ hzR)
      simp only [if_neg hzy]
      exact h.hops p z hp
    · rw [List.getElem?_append_right (by omega)] at hp
      have hp0 : p = R.length := by
        by_cases hp1 : p - R.length = 0
        · omega
        · rw [List.getElem?_eq_none (by simp; omega)] at hp; cases hp
      subst hp0
      simp at hp
      subst hp
      simp only [if_true]
      have := h.hops k x hx
      omega
  · have hpR : p < R.length := by omega
    rw [List.getElem?_append_left hpR] at hz
    exact mono u (h.done p z hp hz u hu)
  · rw [List.getElem?_append_left hkl] at hz
    have hzx : z = x := by rw [hx] at hz; cases hz; rfl
    subst hzx
    rw [List.take_add_one, hy] at hu
    simp at hu
    rcases hu with hu | hu
    · exact mono u (h.part z hx u hu)
    · subst hu; simp; omega

/-- The k-th node's list is done. -/
theorem Inv.next (h : Inv n L H0 i H R k j) {x : Nat} (hx : R[k]? = some x) (hj : (L x).length ≤ j) : Inv n L H0 i H R (k + 1) 0 :=
  ⟨h.mark, h.new, h.first, h.conn, h.count, h.hops, fun p z hp hz u hu => by
    by_cases hpk : p < k
    · exact h.done p z hpk hz u hu
    · obtain rfl : p = k := by omega
      rw [hx] at hz
      cases hz
      exact h.part x hx u (by rw [List.take_of_length_le hj]; exact hu), fun z _ u hu => by simp at hu⟩

/-- All done: the list is closed. -/
theorem Inv.closed (h : Inv n L H0 i H R k j) (hk : R.length ≤ k) : ∀ x, x ∈ R → ∀ y, y ∈ L x → 0 ≤ H y := by
  intro x hx y hy
  obtain ⟨p, hp⟩ := List.getElem?_of_mem hx
  exact h.done p x (Nat.lt_of_lt_of_le (List.getElem?_eq_some_iff.1 hp).1 hk) hp y hy

end Go.Proofs.Ybulknri.Graph
