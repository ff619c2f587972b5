import Derived.Test.YbulknriNode
import Derived.Test.YbulknriGraph
namespace Go.Proofs.Ybulknri
open Go.RowKit

/-- A block whose first n cells are the values f. -/
structure Row (w : World) (b n : Nat) (f : Nat → Value) : Prop where
  cell : ∀ i, i < n → w.cell? ⟨b, i, none⟩ = some (f i)
  free : ∀ i, w.frozen? ⟨b, i, none⟩ = false
  lt : b < w.heap.size

theorem Row.later {w w' : World} {b n : Nat} {f : Nat → Value} (h : Row w b n f) {B : Nat} (hb : Below B w w') (hB : b < B) : Row w' b n f :=
  ⟨fun i hi => (hb.cell (p := ⟨b, i, none⟩) hB).trans (h.cell i hi), fun i => (hb.frozen (p := ⟨b, i, none⟩) hB).trans (h.free i), Nat.lt_of_lt_of_le h.lt hb.size⟩

theorem Row.alloc {w : World} {b n : Nat} {f : Nat → Value} (h : Row w b n f) (o : Obj) : Row (w.alloc o) b n f :=
  h.later (bAlloc (Below.refl _ _) o) h.lt

theorem Row.drew {w : World} {b n : Nat} {f : Nat → Value} (h : Row w b n f) : Row w.drew b n f := ⟨h.cell, h.free, h.lt⟩

/-- A store into the row. -/
theorem Row.set {w : World} {b n : Nat} {f : Nat → Value} (h : Row w b n f) (i : Nat) (hi : i < n) (v : Value) : Row (w.setCell ⟨b, i, none⟩ v) b n (fun j => if j = i then v else f j) := by
  refine ⟨fun j hj => ?_, fun j => (World.frozen?_setCell w _ _ _).trans (h.free j), ?_⟩
  · by_cases hji : j = i
    · subst hji; rw [if_pos rfl]; exact World.cell?_setCell_same w _ _ (h.cell j hj)
    · rw [if_neg hji, World.cell?_setCell_other w _ _ _ (fun e => hji (congrArg Addr.off e).symm)]; exact h.cell j hj
  · rw [World.size_setCell]; exact h.lt

/-- A store elsewhere. -/
theorem Row.other {w : World} {b n : Nat} {f : Nat → Value} (h : Row w b n f) {c : Nat} (hc : c ≠ b) (i : Nat) (v : Value) : Row (w.setCell ⟨c, i, none⟩ v) b n f := by
  refine ⟨fun j hj => ?_, fun j => (World.frozen?_setCell w _ _ _).trans (h.free j), ?_⟩
  · rw [World.cell?_setCell_other w _ _ _ (fun e => hc (congrArg Addr.block e))]; exact h.cell j hj
  · rw [World.size_setCell]; exact h.lt

theorem Row.congr {w : World} {b n : Nat} {f g : Nat → Value} (h : Row w b n f) (he : ∀ i, i < n → f i = g i) : Row w b n g :=
  ⟨fun i hi => (h.cell i hi).trans (by rw [he i hi]), h.free, h.lt⟩

/-- What 'make' lays: n cells of one value. -/
theorem made_at (z : Value) (n i : Nat) (hi : i < n) : (madeCells #[z] n)[i]? = some z := by
  simp [madeCells, hi, Nat.mod_one]

theorem made_row (z : Value) (n : Nat) (E : TypeId) (w : World) : Row (w.alloc (.cells (madeCells #[z] n) E)) w.heap.size n (fun _ => z) := by
  refine ⟨fun i hi => ?_, fun i => ?_, by simp⟩
  · rw [World.cell?_alloc_new, made_at z n i hi]
  · simp [go_sem]

/-- 'make([]T, n)' at one-cell elements. -/
theorem make_at {t e : TypeId} {z : Value} (bytes n : Nat) (ht : Yba.prog.underlying t = some (.slice e)) (hi : (Yba.prog.info? e).map (fun i => (i.zero, i.size, i.bytes)) = some (some z, 1, bytes)) (hz : z.cells = #[z]) (hb : bytes * n ≤ 281474976710656) (hn : n ≤ 1000000) (w : World) :
    (Instr.makeSlice t (.int .i64 (n : Int)) (.int .i64 (n : Int))).run Yba.prog w = .ok (.slice (some ⟨w.heap.size, 0, none⟩) n n) (w.alloc (.cells (madeCells #[z] n) e)) := by
  obtain ⟨i0, hi, hz0, hz1, hz2⟩ := info_parts hi
  have hb' : (i0.bytes : Int) * (n : Int) ≤ 281474976710656 := by
    rw [hz2]
    have h : ((bytes * n : Nat) : Int) ≤ 281474976710656 := by omega
    rwa [Int.natCast_mul] at h
  have := run_make (P := Yba.prog) w t e i0 z ht hi hz0 .i64 .i64 n n (by omega) (Int.le_refl _) hb' (by omega)
  rw [hz1, hz, Int.toNat_natCast, Nat.mul_one] at this
  exact this

theorem Yba.info3 : (Yba.prog.info? 3).map (fun i => (i.zero, i.size, i.bytes)) = some (some (.int .i64 0), 1, 8) := by kernel_rfl
theorem Yba.info22 : (Yba.prog.info? 22).map (fun i => (i.zero, i.size, i.bytes)) = some (some (.int .u64 0), 1, 8) := by kernel_rfl
theorem Yba.info42 : (Yba.prog.info? 42).map (fun i => (i.zero, i.size, i.bytes)) = some (some (.slice none 0 0), 1, 24) := by kernel_rfl
theorem Yba.info28 : (Yba.prog.info? 28).map (fun i => (i.zero, i.size, i.bytes)) = some (some (.pointer none), 1, 8) := by kernel_rfl

end Go.Proofs.Ybulknri
