import Derived.Test.YbulknriComp
import Derived.Deep.AppendLies
namespace Go.Proofs.Ybulknri
open Go.RowKit

/-- The neighbours of v that the first j edges list, in their order. -/
def nbs (E : Nat → Nat × Nat) : Nat → Nat → List Nat
  | 0, _ => []
  | j + 1, v => (nbs E j v ++ (if v = (E j).1 then [(E j).2] else [])) ++ (if v = (E j).2 then [(E j).1] else [])

theorem nbs_len (E : Nat → Nat × Nat) (j v : Nat) : (nbs E j v).length ≤ 2 * j := by
  induction j with
  | zero => simp [nbs]
  | succ j ih =>
    simp only [nbs, List.length_append]
    have h1 : (if v = (E j).1 then [(E j).2] else []).length ≤ 1 := by split <;> simp
    have h2 : (if v = (E j).2 then [(E j).1] else []).length ≤ 1 := by split <;> simp
    omega

theorem mem_nbs (E : Nat → Nat × Nat) (j v u : Nat) : u ∈ nbs E j v ↔ ∃ k, k < j ∧ ((E k).1 = v ∧ (E k).2 = u ∨ (E k).2 = v ∧ (E k).1 = u) := by
  induction j with
  | zero => simp [nbs]
  | succ j ih =>
    simp only [nbs, List.mem_append, ih]
    constructor
    · rintro ((⟨k, hk, h⟩ | h) | h)
      · exact ⟨k, by omega, h⟩
      · split at h
        · rename_i hv; simp at h; exact ⟨j, by omega, Or.inl ⟨hv.symm, h.symm⟩⟩
        · simp at h
      · split at h
        · rename_i hv; simp at h; exact ⟨j, by omega, Or.inr ⟨hv.symm, h.symm⟩⟩
        · simp at h
    · rintro ⟨k, hk, h⟩
      by_cases hkj : k = j
      · subst hkj
        rcases h with ⟨h1, h2⟩ | ⟨h1, h2⟩
        · left; right; rw [if_pos h1.symm]; simp [h2]
        · right; rw [if_pos h1.symm]; simp [h2]
      · exact Or.inl (Or.inl ⟨k, by omega, h⟩)

/-- A node's id as a cell. -/
def idV (u : Nat) : Value := .int .u64 ((u + 1 : Nat) : Int)

/-- The table of rows: block ab holds n slices; each owns a row of its own from B on; no two rows share a block. -/
structure AdjS (w : World) (B ab n : Nat) (V : Nat → Value) (L : Nat → List Nat) : Prop where
  row : Row w ab n V
  own : ∀ x, x < n → w.ownsRow B 22 1 (V x) (L x).length ((L x).map idV)
  apart : ∀ x y g, x < n → y < n → x ≠ y → (V x).ownBlock = some g → (V y).ownBlock ≠ some g
  low : ab < B

theorem AdjS.alloc {w : World} {B ab n : Nat} {V : Nat → Value} {L : Nat → List Nat} (h : AdjS w B ab n V L) (o : Obj) : AdjS (w.alloc o) B ab n V L :=
  ⟨h.row.alloc o, fun x hx => (h.own x hx).alloc o, h.apart, h.low⟩

/-- One append and its store. -/
theorem AdjS.push {w w1 : World} {B ab n : Nat} {V : Nat → Value} {L : Nat → List Nat} (h : AdjS w B ab n V L) {a u g cap : Nat} (ha : a < n)
    (hown : w1.ownsRow B 22 1 (.slice (some ⟨g, 0, none⟩) ((L a).length + 1) cap) ((L a).length + 1) ((L a).map idV ++ [idV u])) (hg : w.grownBy w1 (V a).ownBlock) (hat : (V a).ownBlock = some g ∨ g = w.heap.size) :
    AdjS (w1.setCell ⟨ab, a, none⟩ (.slice (some ⟨g, 0, none⟩) ((L a).length + 1) cap)) B ab n (fun x => if x = a then .slice (some ⟨g, 0, none⟩) ((L a).length + 1) cap else V x) (fun x => if x = a then L a ++ [u] else L x) := by
  have hne : some ab ≠ (V a).ownBlock := fun e => by
    have := ((h.own a ha).lt ab e.symm).1
    have := h.low
    omega
  have hR1 : Row w1 ab n V := by
    have hb : w1.heap[ab]? = w.heap[ab]? := hg.block ab h.row.lt hne
    exact ⟨fun i hi => (World.cell?_of_block (a := ⟨ab, i, none⟩) hb).trans (h.row.cell i hi), fun i => (World.frozen?_of_block (a := ⟨ab, i, none⟩) hb).trans (h.row.free i), Nat.lt_of_lt_of_le h.row.lt hg.size⟩
  refine ⟨hR1.set a ha _, fun x hx => ?_, fun x y k hx hy hxy hk => ?_, h.low⟩
  · refine ownsRow_setCell_below ?_ h.low _
    by_cases hxa : x = a
    · subst hxa
      simp only [if_true, List.length_append, List.map_append, List.length_cons, List.length_nil, List.map_cons, List.map_nil]
      exact hown
    · simp only [if_neg hxa]
      refine (h.own x hx).kept hg ?_
      cases hv : (V x).ownBlock with
      | none => exact Or.inl rfl
      | some k => exact Or.inr (fun e => h.apart x a k hx ha hxa hv e.symm)
  · by_cases hxa : x = a
    · have hya : y ≠ a := fun e => hxy (hxa.trans e.symm)
      rw [if_pos hxa] at hk
      rw [if_neg hya]
      simp only [Value.ownBlock, Option.some.injEq] at hk
      subst hk
      intro e
      rcases hat with hat | hat
      · exact h.apart a y g ha hy (fun e => hya e.symm) hat e
      · have := ((h.own y hy).lt g e).2
        omega
    · rw [if_neg hxa] at hk
      by_cases hya : y = a
      · rw [if_pos hya]
        simp only [Value.ownBlock]
        intro e
        simp only [Option.some.injEq] at e
        subst e
        rcases hat with hat | hat
        · exact h.apart x a g hx ha hxa hk hat
        · have := ((h.own x hx).lt g hk).2
          omega
      · rw [if_neg hya]
        exact h.apart x y k hx hy hxy hk

theorem AdjS.kept {w w1 : World} {B ab n : Nat} {V : Nat → Value} {L : Nat → List Nat} (h : AdjS w B ab n V L) {a : Nat} (ha : a < n) {row : Option Nat} (hv : (V a).ownBlock = row) (hg : w.grownBy w1 row) : Row w1 ab n V := by
  subst hv
  have hne : some ab ≠ (V a).ownBlock := fun e => by
    have := ((h.own a ha).lt ab e.symm).1
    have := h.low
    omega
  have hb : w1.heap[ab]? = w.heap[ab]? := hg.block ab h.row.lt hne
  exact ⟨fun i hi => (World.cell?_of_block (a := ⟨ab, i, none⟩) hb).trans (h.row.cell i hi), fun i => (World.frozen?_of_block (a := ⟨ab, i, none⟩) hb).trans (h.row.free i), Nat.lt_of_lt_of_le h.row.lt hg.size⟩

/-- The same, with the row's value and list named. -/
theorem AdjS.push' {w w1 : World} {B ab n : Nat} {V : Nat → Value} {L : Nat → List Nat} (h : AdjS w B ab n V L) {a u g cap : Nat} (ha : a < n) {v : Value} {l : List Nat} (hv : V a = v) (hl : L a = l)
    (hown : w1.ownsRow B 22 1 (.slice (some ⟨g, 0, none⟩) (l.length + 1) cap) (l.length + 1) (l.map idV ++ [idV u])) (hg : w.grownBy w1 v.ownBlock) (hat : v.ownBlock = some g ∨ g = w.heap.size) :
    AdjS (w1.setCell ⟨ab, a, none⟩ (.slice (some ⟨g, 0, none⟩) (l.length + 1) cap)) B ab n (fun x => if x = a then .slice (some ⟨g, 0, none⟩) (l.length + 1) cap else V x) (fun x => if x = a then l ++ [u] else L x) := by
  subst hv hl
  exact h.push ha hown hg hat

/-- All that the walk wants behind an append to row a. -/
theorem AdjS.after {w w1 : World} {B ab n : Nat} {V : Nat → Value} {L : Nat → List Nat} (h : AdjS w B ab n V L) {a u g cap k : Nat} {xs : List Value} (ha : a < n) {v : Value} {l : List Nat} (hv : V a = v) (hl : L a = l) (hk : k = l.length + 1) (hxs : xs = l.map idV ++ [idV u])
    (hown : w1.ownsRow B 22 1 (.slice (some ⟨g, 0, none⟩) k cap) k xs) (hg : w.grownBy w1 v.ownBlock) {H : Nat} (hH : H = w.heap.size) (hat : v.ownBlock = some g ∨ g = H) :
    (∃ v, w1.cell? ⟨ab, a, none⟩ = some v) ∧ (∀ i, w1.frozen? ⟨ab, i, none⟩ = false) ∧ ab < w1.heap.size ∧
    AdjS (w1.setCell ⟨ab, a, none⟩ (.slice (some ⟨g, 0, none⟩) k cap)) B ab n (fun x => if x = a then .slice (some ⟨g, 0, none⟩) k cap else V x) (fun x => if x = a then l ++ [u] else L x) := by
  subst hv hl hk hxs hH
  have hR := h.kept ha rfl hg
  exact ⟨⟨_, hR.cell a ha⟩, hR.free, hR.lt, h.push ha hown hg hat⟩

theorem AdjS.congr {w : World} {B ab n : Nat} {V : Nat → Value} {L L' : Nat → List Nat} (h : AdjS w B ab n V L) (he : ∀ x, x < n → L x = L' x) : AdjS w B ab n V L' :=
  ⟨h.row, fun x hx => by rw [← he x hx]; exact h.own x hx, h.apart, h.low⟩

end Go.Proofs.Ybulknri
