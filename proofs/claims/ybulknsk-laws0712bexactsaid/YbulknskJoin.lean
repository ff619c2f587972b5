import Derived.WalkKit
namespace Go.Proofs.Ybulknsk

/-- What the joined string is, byte by byte. -/
theorem joined (a b : ByteArray) : ∃ g : ByteArray, (a ++ ⟨#[47]⟩) ++ b = g ∧ g.size = a.size + 1 + b.size ∧ (∀ k (h1 : k < g.size) (h2 : k < a.size), g[k] = a[k]) ∧ (∀ (h : a.size < g.size), g[a.size] = 47) ∧ (∀ k (h1 : a.size + 1 + k < g.size) (h2 : k < b.size), g[a.size + 1 + k] = b[k]) := by
  have hs : (a ++ ⟨#[47]⟩ : ByteArray).size = a.size + 1 := by rw [ByteArray.size_append]; rfl
  refine ⟨_, rfl, ?_, ?_, ?_, ?_⟩
  · rw [ByteArray.size_append, hs]
  · intro k h1 h2
    rw [ByteArray.getElem_append_left (by omega), ByteArray.getElem_append_left h2]
  · intro h
    rw [ByteArray.getElem_append_left (by omega), ByteArray.getElem_append_right (by omega)]
    simp
    rfl
  · intro k h1 h2
    rw [ByteArray.getElem_append_right (by omega)]
    congr 1
    omega
end Go.Proofs.Ybulknsk
