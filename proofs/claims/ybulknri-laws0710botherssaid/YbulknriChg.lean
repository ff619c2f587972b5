import Derived.Test.YbulknriLoop
namespace Go.Proofs.Ybulknri
open Go.RowKit

theorem sub_any (nb lb len cap : Nat) (N : Nod) (L : Nat → Lnk) (w : World) (hlen : len ≤ 1024) (hN : HasNode w nb N (.slice (some ⟨lb, 0, none⟩) len cap)) (hL : ∀ k, k < len → HasLink w lb (k * 13) (L k)) :
    Calls Yba.prog 11 #[.pointer (some ⟨nb, 0, none⟩)] w
      fun e w' => (∃ a b c : Int, e = .returned (.agg #[.int .u64 a, .int .u64 b, .int .i64 c])) ∧ Below w.heap.size w w' := by
  by_cases hz : N.rem = 0
  · exact sub_rem nb N _ w hN hz
  · have hz' : (N.rem == 0) = false := by simpa using hz
    by_cases hl : N.l = N.i
    · exact sub_self nb N _ w hN hz' hl
    · exact sub_go nb lb len cap N L w hlen hN hL hz' (by simpa using hl)

/-- 'a != b' on two heights. -/
def hneB (t o : Int) (r : Bool) (d n l i t' o' : Int) (r' : Bool) (d' n' l' i' : Int) : Bool := !(decide (t = t' ∧ o = o' ∧ r = r' ∧ d = d' ∧ n = n' ∧ l = l' ∧ i = i'))
def sneB (a b c a' b' c' : Int) : Bool := !(decide (a = a' ∧ b = b' ∧ c = c'))

set_option maxRecDepth 100000 in
theorem neq24 (t o : Int) (r : Bool) (d n l i t' o' : Int) (r' : Bool) (d' n' l' i' : Int) (w : World) :
    (binOp .neq 24 (.agg #[.int .i64 t, .int .u64 o, .bool r, .int .i64 d, .int .i64 n, .int .u64 l, .int .u64 i]) (.agg #[.int .i64 t', .int .u64 o', .bool r', .int .i64 d', .int .i64 n', .int .u64 l', .int .u64 i'])).run Yba.prog w = .ok (.bool (hneB t o r d n l i t' o' r' d' n' l' i')) w := by
  simp [go_sem, hneB]
  repeat' split
  all_goals simp_all

theorem neq26 (a b c a' b' c' : Int) (w : World) :
    (binOp .neq 26 (.agg #[.int .u64 a, .int .u64 b, .int .i64 c]) (.agg #[.int .u64 a', .int .u64 b', .int .i64 c'])).run Yba.prog w = .ok (.bool (sneB a b c a' b' c')) w := by
  simp [go_sem, sneB]
  repeat' split
  all_goals simp_all

theorem HasNode.set11 {w : World} {nb : Nat} {N : Nod} {lk : Value} (h : HasNode w nb N lk) (x : Int) : HasNode (w.setCell ⟨nb, 11, none⟩ (.int .i64 x)) nb { N with oth := x } lk := by
  have hr : ∀ o, o ≠ 11 → (w.setCell ⟨nb, 11, none⟩ (.int .i64 x)).cell? ⟨nb, o, none⟩ = w.cell? ⟨nb, o, none⟩ := fun o ho => World.cell?_setCell_other w _ _ _ (fun e => ho (congrArg Addr.off e).symm)
  exact ⟨(hr 0 (by decide)).trans h.c0, (hr 1 (by decide)).trans h.c1, (hr 2 (by decide)).trans h.c2, (hr 3 (by decide)).trans h.c3, (hr 4 (by decide)).trans h.c4, (hr 5 (by decide)).trans h.c5, (hr 6 (by decide)).trans h.c6,
    (hr 7 (by decide)).trans h.c7, (hr 8 (by decide)).trans h.c8, (hr 9 (by decide)).trans h.c9, (hr 10 (by decide)).trans h.c10, World.cell?_setCell_same w _ _ h.c11, (hr 12 (by decide)).trans h.c12, (hr 13 (by decide)).trans h.c13, (hr 14 (by decide)).trans h.c14⟩

theorem HasLink.set {w : World} {lb off : Nat} {L : Lnk} (h : HasLink w lb off L) {nb : Nat} (hne : nb ≠ lb) (j : Nat) (v : Value) : HasLink (w.setCell ⟨nb, j, none⟩ v) lb off L := by
  have hr : ∀ o, (w.setCell ⟨nb, j, none⟩ v).cell? ⟨lb, o, none⟩ = w.cell? ⟨lb, o, none⟩ := fun o => World.cell?_setCell_other w _ _ _ (fun e => hne (congrArg Addr.block e))
  exact ⟨(hr _).trans h.c0, (hr _).trans h.c1, (hr _).trans h.c2, (hr _).trans h.c3, (hr _).trans h.c4, (hr _).trans h.c5, (hr _).trans h.c6, (hr _).trans h.c7, (hr _).trans h.c8, (hr _).trans h.c9,
    (hr _).trans h.c10, (hr _).trans h.c11, (hr _).trans h.c12⟩

/-- A Height's seven cells at a block's head. -/
structure HasHgt (w : World) (b : Nat) (t o : Int) (r : Bool) (d n l i : Int) : Prop where
  c0 : w.cell? ⟨b, 0, none⟩ = some (.int .i64 t)
  c1 : w.cell? ⟨b, 1, none⟩ = some (.int .u64 o)
  c2 : w.cell? ⟨b, 2, none⟩ = some (.bool r)
  c3 : w.cell? ⟨b, 3, none⟩ = some (.int .i64 d)
  c4 : w.cell? ⟨b, 4, none⟩ = some (.int .i64 n)
  c5 : w.cell? ⟨b, 5, none⟩ = some (.int .u64 l)
  c6 : w.cell? ⟨b, 6, none⟩ = some (.int .u64 i)

theorem HasHgt.lt {w : World} {b : Nat} {t o : Int} {r : Bool} {d n l i : Int} (h : HasHgt w b t o r d n l i) : b < w.heap.size := cell_lt h.c0
theorem HasHgt.later {w w' : World} {b : Nat} {t o : Int} {r : Bool} {d n l i : Int} (h : HasHgt w b t o r d n l i) {B : Nat} (hb : Below B w w') (hB : b < B) : HasHgt w' b t o r d n l i := by
  have hr : ∀ o, w'.cell? ⟨b, o, none⟩ = w.cell? ⟨b, o, none⟩ := fun o => hb.cell (p := ⟨b, o, none⟩) hB
  exact ⟨(hr 0).trans h.c0, (hr 1).trans h.c1, (hr 2).trans h.c2, (hr 3).trans h.c3, (hr 4).trans h.c4, (hr 5).trans h.c5, (hr 6).trans h.c6⟩
theorem HasHgt.set {w : World} {b : Nat} {t o : Int} {r : Bool} {d n l i : Int} (h : HasHgt w b t o r d n l i) {nb : Nat} (hne : nb ≠ b) (j : Nat) (v : Value) : HasHgt (w.setCell ⟨nb, j, none⟩ v) b t o r d n l i := by
  have hr : ∀ o, (w.setCell ⟨nb, j, none⟩ v).cell? ⟨b, o, none⟩ = w.cell? ⟨b, o, none⟩ := fun o => World.cell?_setCell_other w _ _ _ (fun e => hne (congrArg Addr.block e))
  exact ⟨(hr 0).trans h.c0, (hr 1).trans h.c1, (hr 2).trans h.c2, (hr 3).trans h.c3, (hr 4).trans h.c4, (hr 5).trans h.c5, (hr 6).trans h.c6⟩

abbrev boxH (t o : Int) (r : Bool) (d n l i : Int) : Obj := .cells #[.int .i64 t, .int .u64 o, .bool r, .int .i64 d, .int .i64 n, .int .u64 l, .int .u64 i] 24
theorem boxedH (t o : Int) (r : Bool) (d n l i : Int) (w : World) : HasHgt (w.alloc (boxH t o r d n l i)) w.heap.size t o r d n l i := by
  constructor <;> simp [boxH, go_sem]

end Go.Proofs.Ybulknri
