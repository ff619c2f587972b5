import Derived.Test.YbulknriComp
import Derived.ProofKit
import Derived.OpenShut
import Derived.ShutString
import Derived.ChangeOld
import Derived.Below
import Derived.Deep.Slices
namespace Go.Proofs.Ybulknri
open Go.ChangeShapes Go.WideShapes Go.ChangeAt Go.RowKit

theorem Yba.cells5 : Yba.prog.cellsOf 5 = 1 := by kernel_rfl
theorem Yba.cells118 : Yba.prog.cellsOf 118 = 2 := by kernel_rfl

theorem pair2 {α : Type} {l : List α} (h : l.length = 2) : ∃ a b, l = [a, b] := by
  match l, h with
  | [a, b], _ => exact ⟨a, b, rfl⟩

/-- An address at which a cell lies has no spot. -/
theorem no_spot {w : World} {a : Addr} {v : Value} (h : w.cell? a = some v) : a.spot = none := by
  obtain ⟨b, o, s⟩ := a
  cases s with
  | none => rfl
  | some s =>
    simp only [World.cell?] at h
    split at h <;> simp at h

theorem u8_nat {n : Int} (h : (Lit.int .u8 n).wf = true) : ∃ k : Nat, n = (k : Int) ∧ k < 256 := by
  have := bounds_u8 h
  exact ⟨n.toNat, by omega, by omega⟩

section
variable {H : Type} {enc : TypeId × Value → H} {w : World} {base : Nat} {spare : Nat → Bool} {held : Bool}

theorem fu8 {m : Nat} {c : Value} {y : Option (DataW H × List MemPlace)} (h : DataW.trod enc Yba.prog w base spare held m 5 [c] = y) (hy : y.isSome = true) : ∃ k : Nat, c = .int .u8 (k : Int) ∧ k < 256 := by
  obtain ⟨y', rfl⟩ := Option.isSome_iff_exists.1 hy
  obtain ⟨a, e, _, hw⟩ := DataW.trod_int Yba.underlying5 h
  obtain ⟨k, rfl, hk⟩ := u8_nat hw
  exact ⟨k, by simpa using e, hk⟩

theorem edge_of {m : Nat} {cs : List Value} {x : DataW H × List MemPlace} (h : DataW.trod enc Yba.prog w base spare held m 118 cs = some x) : ∃ a b : Nat, cs = [.int .u8 (a : Int), .int .u8 (b : Int)] ∧ a < 256 ∧ b < 256 := by
  obtain ⟨xs, m', _, _, hl, hxl, hf⟩ := DataW.trod_array Yba.underlying118 h
  rw [Yba.cells118] at hl
  obtain ⟨c0, c1, rfl⟩ := pair2 hl
  have hs : ∀ j, j < 2 → (xs[j]?).isSome = true := fun j hj => by
    have : j < xs.length := by rw [hxl]; exact hj
    simp [this]
  obtain ⟨a, rfl, ha⟩ := fu8 (by simpa [Yba.cells5] using hf 0 (by decide)) (hs 0 (by decide))
  obtain ⟨b, rfl, hb⟩ := fu8 (by simpa [Yba.cells5] using hf 1 (by decide)) (hs 1 (by decide))
  exact ⟨a, b, rfl, ha, hb⟩

/-- The slice of edges that came in. -/
theorem edges_of {fuel len cap : Nat} {a : Option Addr} {x : DataW H × List MemPlace} (h : DataW.trod enc Yba.prog w base spare held fuel 41 [.slice a len cap] = some x) :
    ∃ (eb eo : Nat) (ex ey : Nat → Nat), (0 < len → a = some ⟨eb, eo, none⟩) ∧ HasEdges w eb eo len ex ey := by
  by_cases hpos : 0 < len
  · rcases Deep.open_slice Yba.underlying41 h with ⟨hcs, _⟩ | ⟨a', len', cap', m, n, D, Pl, hcs, _, hlc, _, hm, _, hel⟩
    · simp at hcs; omega
    · simp only [List.cons.injEq, Value.slice.injEq, and_true] at hcs
      obtain ⟨rfl, rfl, rfl⟩ := hcs
      have hlm : len ≤ m := by rw [hm]; split <;> omega
      rw [Yba.cells118] at hel
      have hat : ∀ k, k < len → ∃ p : Nat × Nat, (w.cell? (a'.add (k * 2)) = some (.int .u8 (p.1 : Int)) ∧ w.cell? (a'.add (k * 2 + 1)) = some (.int .u8 (p.2 : Int))) ∧ p.1 < 256 ∧ p.2 < 256 := fun k hk => by
        obtain ⟨cs', hc, ht⟩ := hel k (by omega)
        obtain ⟨p, q, rfl, hp, hq⟩ := edge_of ht
        have hcc := (World.cells?_some hc).2.2
        have h0 := hcc 0 (by decide)
        have h1 := hcc 1 (by decide)
        rw [Deep.add_add] at h0 h1
        exact ⟨(p, q), ⟨h0, h1⟩, hp, hq⟩
      obtain ⟨P, hP⟩ := Deep.choose_lt (α := Nat × Nat) hat
      have hsp : a'.spot = none := by
        have := (hP 0 hpos).1.1
        rw [Nat.zero_mul, show a'.add 0 = a' from by simp [Addr.add]] at this
        exact no_spot this
      obtain ⟨b, o, s⟩ := a'
      subst hsp
      refine ⟨b, o, fun k => (P k).1, fun k => (P k).2, fun _ => rfl, ⟨fun k hk => ?_, fun k hk => ?_, fun k hk => (hP k hk).2.1, fun k hk => (hP k hk).2.2⟩⟩
      · have := (hP k hk).1.1
        rwa [Addr.add_lit] at this
      · have := (hP k hk).1.2
        rwa [Addr.add_lit, ← Nat.add_assoc] at this
  · exact ⟨0, 0, fun _ => 0, fun _ => 0, fun h => absurd h hpos, ⟨fun k hk => absurd hk (by omega), fun k hk => absurd hk (by omega), fun k hk => absurd hk (by omega), fun k hk => absurd hk (by omega)⟩⟩

/-- The slice of bytes that came in. -/
theorem bytes_of {fuel len cap : Nat} {a : Option Addr} {x : DataW H × List MemPlace} (h : DataW.trod enc Yba.prog w base spare held fuel 40 [.slice a len cap] = some x) :
    ∃ (b o : Nat) (ld : Nat → Nat), (0 < len → a = some ⟨b, o, none⟩) ∧ ∀ k, k < len → w.cell? ⟨b, o + k, none⟩ = some (.int .u8 (ld k : Nat)) ∧ ld k < 256 := by
  by_cases hpos : 0 < len
  · rcases open_ints Yba.underlying40 Yba.underlying5 Yba.cells5 h with ⟨hcs, _⟩ | ⟨a', len', cap', zs, hcs, _, hlc, _, hz, _, hcell, hwz⟩
    · simp at hcs; omega
    · simp only [List.cons.injEq, Value.slice.injEq, and_true] at hcs
      obtain ⟨rfl, rfl, rfl⟩ := hcs
      have hlz : len ≤ zs.length := by rw [hz]; split <;> omega
      have hat : ∀ k, k < len → ∃ p : Nat, w.cell? (a'.add k) = some (.int .u8 (p : Int)) ∧ p < 256 := fun k hk => by
        have hk' : k < zs.length := by omega
        have hmem : zs.getD k 0 ∈ zs := by
          rw [List.getD_eq_getElem?_getD, List.getElem?_eq_getElem hk']
          exact List.getElem_mem hk'
        obtain ⟨p, hp, hp2⟩ := u8_nat (hwz _ hmem)
        exact ⟨p, by rw [hcell k hk', hp], hp2⟩
      obtain ⟨P, hP⟩ := Deep.choose_lt (α := Nat) hat
      have hsp : a'.spot = none := by
        have := (hP 0 hpos).1
        rw [show a'.add 0 = a' from by simp [Addr.add]] at this
        exact no_spot this
      obtain ⟨b, o, s⟩ := a'
      subst hsp
      refine ⟨b, o, P, fun _ => rfl, fun k hk => ⟨?_, (hP k hk).2⟩⟩
      have := (hP k hk).1
      rwa [Addr.add_lit] at this
  · exact ⟨0, 0, fun _ => 0, fun h => absurd h hpos, fun k hk => absurd hk (by omega)⟩

/-- A slice that came in is no longer than the model's bound. -/
theorem len_le {fuel len cap : Nat} {a : Option Addr} {x : DataW H × List MemPlace} {t e : TypeId} (ht : Yba.prog.underlying t = some (.slice e)) (h : DataW.trod enc Yba.prog w base spare held fuel t [.slice a len cap] = some x) : len ≤ maxLen := by
  rcases Deep.open_slice ht h with ⟨hcs, _⟩ | ⟨a', len', cap', m, n, D, Pl, hcs, _, hlc, hmx, _⟩
  · simp at hcs; omega
  · simp only [List.cons.injEq, Value.slice.injEq, and_true] at hcs
    obtain ⟨_, rfl, rfl⟩ := hcs
    omega

end
end Go.Proofs.Ybulknri
