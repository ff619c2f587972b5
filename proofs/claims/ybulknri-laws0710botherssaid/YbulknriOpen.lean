import Derived.Test.YbulknriOthWalk
import Derived.ProofKit
import Derived.OpenShut
import Derived.ShutString
import Derived.ChangeOld
import Derived.Below
import Derived.Deep.Slices
namespace Go.Proofs.Ybulknri
open Go.ChangeShapes Go.WideShapes Go.ChangeAt Go.RowKit

theorem list3 {α : Type} {l : List α} (h : l.length = 3) : ∃ a b c, l = [a, b, c] := by
  match l, h with
  | [a, b, c], _ => exact ⟨a, b, c, rfl⟩
theorem list7 {α : Type} {l : List α} (h : l.length = 7) : ∃ a b c d e f g, l = [a, b, c, d, e, f, g] := by
  match l, h with
  | [a, b, c, d, e, f, g], _ => exact ⟨a, b, c, d, e, f, g, rfl⟩
theorem list13 {α : Type} {l : List α} (h : l.length = 13) : ∃ a b c d e f g a' b' c' d' e' f', l = [a, b, c, d, e, f, g, a', b', c', d', e', f'] := by
  match l, h with
  | [a, b, c, d, e, f, g, a', b', c', d', e', f'], _ => exact ⟨a, b, c, d, e, f, g, a', b', c', d', e', f', rfl⟩

theorem Yba.cells24 : Yba.prog.cellsOf 24 = 7 := by kernel_rfl
theorem Yba.cells26 : Yba.prog.cellsOf 26 = 3 := by kernel_rfl
theorem Yba.cells37 : Yba.prog.cellsOf 37 = 13 := by kernel_rfl
theorem Yba.cells2 : Yba.prog.cellsOf 2 = 1 := by kernel_rfl
theorem Yba.cells4 : Yba.prog.cellsOf 4 = 1 := by kernel_rfl
theorem Yba.cells22 : Yba.prog.cellsOf 22 = 1 := by kernel_rfl

section
variable {H : Type} {enc : TypeId × Value → H} {w : World} {base : Nat} {spare : Nat → Bool} {held : Bool}

/-- What is read at a type of integers is one integer cell. -/
theorem fint {t : TypeId} {k : IntKind} {m : Nat} {c : Value} {y : Option (DataW H × List MemPlace)} (hu : Yba.prog.underlying t = some (.int k)) (h : DataW.trod enc Yba.prog w base spare held m t [c] = y) (hy : y.isSome = true) : ∃ a, c = .int k a := by
  obtain ⟨y', rfl⟩ := Option.isSome_iff_exists.1 hy
  obtain ⟨a, e, _⟩ := DataW.trod_int hu h
  exact ⟨a, by simpa using e⟩
theorem fbool {t : TypeId} {m : Nat} {c : Value} {y : Option (DataW H × List MemPlace)} (hu : Yba.prog.underlying t = some .bool) (h : DataW.trod enc Yba.prog w base spare held m t [c] = y) (hy : y.isSome = true) : ∃ a, c = .bool a := by
  obtain ⟨y', rfl⟩ := Option.isSome_iff_exists.1 hy
  obtain ⟨a, e, _⟩ := DataW.trod_bool hu h
  exact ⟨a, by simpa using e⟩

theorem hgt_of {m : Nat} {cs : List Value} {x : DataW H × List MemPlace} (h : DataW.trod enc Yba.prog w base spare held m 24 cs = some x) :
    ∃ (t o : Int) (r : Bool) (d n l i : Int), cs = [.int .i64 t, .int .u64 o, .bool r, .int .i64 d, .int .i64 n, .int .u64 l, .int .u64 i] := by
  obtain ⟨xs, m', _, _, hl, hxl, hf⟩ := DataW.trod_struct Yba.underlying24 h
  rw [Yba.cells24] at hl
  obtain ⟨c0, c1, c2, c3, c4, c5, c6, rfl⟩ := list7 hl
  have hs : ∀ j, j < 7 → (xs[j]?).isSome = true := fun j hj => by
    have : j < xs.length := by rw [hxl]; exact hj
    simp [this]
  obtain ⟨t, rfl⟩ := fint Yba.underlying2 (by simpa [Yba.cells2] using hf 0 _ rfl) (hs 0 (by decide))
  obtain ⟨o, rfl⟩ := fint Yba.underlying22 (by simpa [Yba.cells22] using hf 1 _ rfl) (hs 1 (by decide))
  obtain ⟨r, rfl⟩ := fbool Yba.underlying4 (by simpa [Yba.cells4] using hf 2 _ rfl) (hs 2 (by decide))
  obtain ⟨d, rfl⟩ := fint Yba.underlying2 (by simpa [Yba.cells2] using hf 3 _ rfl) (hs 3 (by decide))
  obtain ⟨n, rfl⟩ := fint Yba.underlying2 (by simpa [Yba.cells2] using hf 4 _ rfl) (hs 4 (by decide))
  obtain ⟨l, rfl⟩ := fint Yba.underlying22 (by simpa [Yba.cells22] using hf 5 _ rfl) (hs 5 (by decide))
  obtain ⟨i, rfl⟩ := fint Yba.underlying22 (by simpa [Yba.cells22] using hf 6 _ rfl) (hs 6 (by decide))
  exact ⟨t, o, r, d, n, l, i, rfl⟩

theorem sub_of {m : Nat} {cs : List Value} {x : DataW H × List MemPlace} (h : DataW.trod enc Yba.prog w base spare held m 26 cs = some x) :
    ∃ (a b c : Int), cs = [.int .u64 a, .int .u64 b, .int .i64 c] := by
  obtain ⟨xs, m', _, _, hl, hxl, hf⟩ := DataW.trod_struct Yba.underlying26 h
  rw [Yba.cells26] at hl
  obtain ⟨c0, c1, c2, rfl⟩ := list3 hl
  have hs : ∀ j, j < 3 → (xs[j]?).isSome = true := fun j hj => by
    have : j < xs.length := by rw [hxl]; exact hj
    simp [this]
  obtain ⟨a, rfl⟩ := fint Yba.underlying22 (by simpa [Yba.cells22] using hf 0 _ rfl) (hs 0 (by decide))
  obtain ⟨b, rfl⟩ := fint Yba.underlying22 (by simpa [Yba.cells22] using hf 1 _ rfl) (hs 1 (by decide))
  obtain ⟨c, rfl⟩ := fint Yba.underlying2 (by simpa [Yba.cells2] using hf 2 _ rfl) (hs 2 (by decide))
  exact ⟨a, b, c, rfl⟩

theorem link_of {m : Nat} {cs : List Value} {x : DataW H × List MemPlace} (h : DataW.trod enc Yba.prog w base spare held m 37 cs = some x) : ∃ L : Lnk, cs = cellsL L := by
  obtain ⟨xs, m', _, _, hl, hxl, hf⟩ := DataW.trod_struct Yba.underlying37 h
  rw [Yba.cells37] at hl
  obtain ⟨c0, c1, c2, c3, c4, c5, c6, c7, c8, c9, c10, c11, c12, rfl⟩ := list13 hl
  have hs : ∀ j, j < 5 → (xs[j]?).isSome = true := fun j hj => by
    have : j < xs.length := by rw [hxl]; exact hj
    simp [this]
  obtain ⟨id, rfl⟩ := fint Yba.underlying22 (by simpa [Yba.cells22] using hf 0 _ rfl) (hs 0 (by decide))
  obtain ⟨y1, e1⟩ := Option.isSome_iff_exists.1 (hs 1 (by decide))
  have q1 := hf 1 _ rfl
  rw [e1] at q1
  obtain ⟨t, o, r, d, n, l, i, h1⟩ := hgt_of (by simpa [Yba.cells24] using q1)
  simp only [List.cons.injEq] at h1
  obtain ⟨rfl, rfl, rfl, rfl, rfl, rfl, rfl, _⟩ := h1
  obtain ⟨y2, e2⟩ := Option.isSome_iff_exists.1 (hs 2 (by decide))
  have q2 := hf 2 _ rfl
  rw [e2] at q2
  obtain ⟨sl, sp, sd, h2⟩ := sub_of (by simpa [Yba.cells26] using q2)
  simp only [List.cons.injEq] at h2
  obtain ⟨rfl, rfl, rfl, _⟩ := h2
  obtain ⟨via, rfl⟩ := fint Yba.underlying22 (by simpa [Yba.cells22] using hf 3 _ rfl) (hs 3 (by decide))
  obtain ⟨known, rfl⟩ := fbool Yba.underlying4 (by simpa [Yba.cells4] using hf 4 _ rfl) (hs 4 (by decide))
  exact ⟨⟨id, t, o, r, d, n, l, i, sl, sp, sd, via, known⟩, rfl⟩

/-- Thirteen cells that are a link's, at an address without a spot. -/
theorem hasLink_of {b off : Nat} {L : Lnk} (h : ∀ j, j < 13 → w.cell? ⟨b, off + j, none⟩ = (cellsL L)[j]?) : HasLink w b off L :=
  ⟨h 0 (by decide), h 1 (by decide), h 2 (by decide), h 3 (by decide), h 4 (by decide), h 5 (by decide), h 6 (by decide), h 7 (by decide), h 8 (by decide), h 9 (by decide), h 10 (by decide), h 11 (by decide), h 12 (by decide)⟩

/-- A slice of links that came in, with an element: where it lies, and what it holds. -/
theorem links_of {fuel len cap : Nat} {a : Option Addr} {x : DataW H × List MemPlace} (h : DataW.trod enc Yba.prog w base spare held fuel 27 [.slice a len cap] = some x) (hpos : 0 < len) :
    ∃ b o, a = some ⟨b, o, none⟩ ∧ ∃ L : Nat → Lnk, ∀ k, k < len → HasLink w b (o + k * 13) (L k) := by
  rcases Deep.open_slice Yba.underlying27 h with ⟨hcs, _⟩ | ⟨a', len', cap', m, n, D, Pl, hcs, _, hlc, _, hm, _, hel⟩
  · simp at hcs; omega
  · simp only [List.cons.injEq, Value.slice.injEq, and_true] at hcs
    obtain ⟨rfl, rfl, rfl⟩ := hcs
    have hlm : len ≤ m := by rw [hm]; split <;> omega
    rw [Yba.cells37] at hel
    have hat : ∀ k, k < len → ∃ L : Lnk, ∀ j, j < 13 → w.cell? (a'.add (k * 13 + j)) = (cellsL L)[j]? := fun k hk => by
      obtain ⟨cs', hc, ht⟩ := hel k (by omega)
      obtain ⟨L, rfl⟩ := link_of ht
      refine ⟨L, fun j hj => ?_⟩
      rw [← Deep.add_add]
      exact (World.cells?_some hc).2.2 j hj
    obtain ⟨L0, h0⟩ := hat 0 hpos
    have hsp : a'.spot = none := by
      have := h0 0 (by decide)
      simp only [Nat.zero_mul, Nat.zero_add] at this
      rw [show a'.add 0 = a' from by simp [Addr.add]] at this
      obtain ⟨b, o, s⟩ := a'
      cases s with
      | none => rfl
      | some s =>
        simp only [World.cell?] at this
        split at this <;> simp [cellsL] at this
    obtain ⟨b, o, s⟩ := a'
    subst hsp
    have inh : Inhabited Lnk := ⟨⟨0, 0, 0, false, 0, 0, 0, 0, 0, 0, 0, 0, false⟩⟩
    obtain ⟨L, hL⟩ := Deep.choose_lt (α := Lnk) hat
    exact ⟨b, o, rfl, L, fun k hk => hasLink_of fun j hj => by
      have := hL k hk j hj
      rwa [Addr.add_lit, ← Nat.add_assoc] at this⟩

end
end Go.Proofs.Ybulknri
