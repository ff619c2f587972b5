import Derived.WalkKit
namespace Go.Proofs.Ybulknxg

/-- The value in slot p. -/
def at' (T : List Nat) (p : Nat) : Nat := T.getD p 0

/-- How many of the first m slots hold an entry. -/
def nz (T : List Nat) : Nat → Nat
  | 0 => 0
  | m + 1 => nz T m + (if at' T m = 0 then 0 else 1)

theorem at'_set (T : List Nat) (i v p : Nat) (hi : i < T.length) : at' (T.set i v) p = if p = i then v else at' T p := by
  unfold at'
  rw [List.getD_eq_getElem?_getD, List.getD_eq_getElem?_getD, List.getElem?_set]
  by_cases h : i = p
  · subst h
    simp [hi]
  · rw [if_neg h, if_neg (fun e => h e.symm)]

theorem nz_le (T : List Nat) (m : Nat) : nz T m ≤ m := by
  induction m with
  | zero => exact Nat.le_refl _
  | succ m ih => unfold nz; split <;> omega

theorem nz_full (T : List Nat) (m : Nat) (h : ∀ p, p < m → at' T p ≠ 0) : nz T m = m := by
  induction m with
  | zero => rfl
  | succ m ih =>
    unfold nz
    rw [ih (fun p hp => h p (by omega)), if_neg (h m (by omega))]

theorem nz_set (T : List Nat) (i v : Nat) (hi : i < T.length) (h0 : at' T i = 0) (hv : v ≠ 0) (m : Nat) : nz (T.set i v) m = nz T m + (if i < m then 1 else 0) := by
  induction m with
  | zero => simp [nz]
  | succ m ih =>
    unfold nz
    rw [ih, at'_set T i v m hi]
    by_cases h : m = i
    · subst h
      simp [h0, hv]
    · rw [if_neg h]
      by_cases h2 : i < m
      · rw [if_pos h2, if_pos (show i < m + 1 by omega)]; omega
      · rw [if_neg h2, if_neg (show ¬ i < m + 1 by omega)]; omega

theorem nz_zero (s m : Nat) : nz (List.replicate s 0) m = 0 := by
  induction m with
  | zero => rfl
  | succ m ih =>
    unfold nz
    rw [ih]
    simp [at', List.getD_eq_getElem?_getD, List.getElem?_replicate]
    split <;> rfl

/-- k entries are placed, each on its path. -/
structure Inv (s : Nat) (home : Nat → Nat) (k : Nat) (T : List Nat) : Prop where
  len : T.length = s
  path : ∀ p, p < s → at' T p ≠ 0 → at' T p ≤ k ∧ ∃ d, d < s ∧ p = (home (at' T p - 1) + d) % s ∧ ∀ d', d' < d → 0 < at' T ((home (at' T p - 1) + d') % s) ∧ at' T ((home (at' T p - 1) + d') % s) < at' T p
  inj : ∀ p q, p < s → q < s → at' T p = at' T q → at' T p ≠ 0 → p = q
  num : nz T s = k

theorem Inv.zero (s : Nat) (home : Nat → Nat) : Inv s home 0 (List.replicate s 0) := by
  have h0 : ∀ p, at' (List.replicate s 0) p = 0 := fun p => by
    simp [at', List.getD_eq_getElem?_getD, List.getElem?_replicate]
    split <;> rfl
  exact ⟨by simp, fun p _ h => absurd (h0 p) h, fun p q _ _ _ h => absurd (h0 p) h, nz_zero s s⟩

/-- A probe that met no free slot has gone less than s steps. -/
theorem Inv.free {s : Nat} {home : Nat → Nat} {k : Nat} {T : List Nat} (h : Inv s home k T) (hk : k < s) (b d : Nat) (hd : ∀ d', d' < d → at' T ((b + d') % s) ≠ 0) : d < s := by
  refine Nat.lt_of_not_le fun hle => ?_
  have hs : 0 < s := by omega
  have := nz_full T s (fun p hp => by
    have := hd ((p + (s - b % s)) % s) (Nat.lt_of_lt_of_le (Nat.mod_lt _ hs) hle)
    have e : (b + (p + (s - b % s)) % s) % s = p := by
      rw [Nat.add_mod, Nat.mod_mod, ← Nat.add_mod]
      have hb := Nat.mod_lt b hs
      have hdiv := Nat.div_add_mod b s
      have : b + (p + (s - b % s)) = p + s * (b / s + 1) := by rw [Nat.mul_add]; omega
      rw [this, Nat.add_mul_mod_self_left, Nat.mod_eq_of_lt hp]
    rwa [e] at this)
  rw [h.num] at this
  omega

theorem Inv.place {s : Nat} {home : Nat → Nat} {k : Nat} {T : List Nat} (h : Inv s home k T) (hk : k < s) (d : Nat) (hd : ∀ d', d' < d → at' T ((home k + d') % s) ≠ 0) (h0 : at' T ((home k + d) % s) = 0) :
    Inv s home (k + 1) (T.set ((home k + d) % s) (k + 1)) := by
  have hs : 0 < s := by omega
  have hi : (home k + d) % s < T.length := by rw [h.len]; exact Nat.mod_lt _ hs
  have hds := h.free hk (home k) d hd
  have hat := fun p => at'_set T ((home k + d) % s) (k + 1) p hi
  generalize hie : (home k + d) % s = i at *
  refine ⟨by simp [h.len], fun p hp hne => ?_, fun p q hp hq he hne => ?_, ?_⟩
  · rw [hat p] at hne ⊢
    by_cases hpi : p = i
    · subst hpi
      simp only [if_true, Nat.add_sub_cancel]
      refine ⟨Nat.le_refl _, d, hds, hie.symm, fun d' hd' => ?_⟩
      have hn := hd d' hd'
      have hlt := Nat.mod_lt (home k + d') hs
      rw [hat, if_neg (fun e => by rw [e] at hn; exact hn h0)]
      have := (h.path _ hlt hn).1
      omega
    · rw [if_neg hpi] at hne ⊢
      obtain ⟨hle, d1, hd1, hp1, hall⟩ := h.path p hp hne
      refine ⟨by omega, d1, hd1, hp1, fun d' hd' => ?_⟩
      obtain ⟨x1, x2⟩ := hall d' hd'
      rw [hat, if_neg (fun e => by rw [e, h0] at x1; omega)]
      exact ⟨x1, x2⟩
  · rw [hat p] at he hne
    rw [hat q] at he
    by_cases hpi : p = i
    · by_cases hqi : q = i
      · rw [hpi, hqi]
      · rw [if_pos hpi, if_neg hqi] at he
        have := (h.path q hq (by omega)).1
        omega
    · by_cases hqi : q = i
      · rw [if_neg hpi, if_pos hqi] at he
        have := (h.path p hp (by omega)).1
        omega
      · rw [if_neg hpi] at he hne
        rw [if_neg hqi] at he
        exact h.inj p q hp hq he hne
  · rw [nz_set T i (k + 1) hi h0 (by omega), h.num, if_pos (by rw [← h.len]; exact hi)]
end Go.Proofs.Ybulknxg
