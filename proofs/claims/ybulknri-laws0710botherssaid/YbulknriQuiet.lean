import Derived.Test.YbulknriSub
namespace Go.Proofs.Ybulknri
open Go.RowKit

/-- A world that keeps all that W held. -/
structure BW (W : World) where
  w : World
  h : Below W.heap.size W w

theorem BW.cell {W : World} (x : BW W) (b o : Nat) (hb : b < W.heap.size) : x.w.cell? ⟨b, o, none⟩ = W.cell? ⟨b, o, none⟩ := x.h.cell (p := ⟨b, o, none⟩) hb

/-- A region that draws its order, whose operations read what W held and whose callees make new memory at most: one walk of the text's order serves. -/
theorem wp_region_quiet_bw {P : Program} {W : World} {id : Nat} {Q : Exit → Act → World → Prop} {a : Act} {w : World} {l : List Oper} (hm : P.follows .mixedOrders = true) (hB : Region.lexB .any l.toArray = true)
    (hw : Below W.heap.size W w)
    (h : wpQuiet P l.toArray (fun w' => ∃ x : BW W, w' = x.w) (fun a' => ∀ w', (∃ x : BW W, w' = x.w) → Q .normal a' w') l a) : (Code.region id l.toArray true).wp P Q a w :=
  wp_region_quiet (C := fun w' => ∃ x : BW W, w' = x.w) hm hB ⟨⟨_, hw.drew⟩, rfl⟩ (by simpa using h)

/-- A callee's contract, met in such a world. -/
theorem quiet_bw {P : Program} {W : World} {f : FuncId} {args : Array Value} {x : BW W} {v : Value}
    (h : Calls P f args x.w fun e w' => e = .returned v ∧ Below x.w.heap.size x.w w') : Calls P f args x.w fun e w'' => e = .returned v ∧ ∃ y : BW W, w'' = y.w :=
  h.mono fun _ w' ⟨he, hm⟩ => ⟨he, ⟨w', bCall x.h hm⟩, rfl⟩
theorem quiet_bw_same {P : Program} {W : World} {f : FuncId} {args : Array Value} {x : BW W} {v : Value}
    (h : Calls P f args x.w fun e w' => e = .returned v ∧ w' = x.w) : Calls P f args x.w fun e w'' => e = .returned v ∧ ∃ y : BW W, w'' = y.w :=
  h.mono fun _ _ ⟨he, hm⟩ => ⟨he, x, hm⟩

theorem rank_off (nb lb off sb b1 : Nat) (N : Nod) (lk : Value) (s : Bool) (w : World) (hN : HasNode w nb N lk) (hL : ∃ L, HasLink w lb off L)
    (g1 : w.cell? ⟨sb, 0, none⟩ = some (.bool s)) (g2 : w.cell? ⟨b1, 0, none⟩ = some (.pointer (some ⟨nb, 0, none⟩))) :
    Calls Yba.prog 21 #[.pointer (some ⟨lb, off, none⟩), .pointer (some ⟨sb, 0, none⟩), .pointer (some ⟨b1, 0, none⟩)] w
      fun e w' => (∃ j : Int, e = .returned (.int .i64 j)) ∧ Below w.heap.size w w' :=
  hL.elim fun L hL => rank_any nb lb off sb b1 N L lk s w hN hL g1 g2

theorem or2_new (x y : Int) (cap : Nat) (W : World) :
    Calls Yba.prog 24 #[.slice (some ⟨W.heap.size, 0, none⟩) 2 cap] (W.alloc (.cells #[.int .i64 x, .int .i64 y] 3)) fun e w' => e = .returned (.int .i64 (orI [x, y])) ∧ w' = W.alloc (.cells #[.int .i64 x, .int .i64 y] 3) :=
  or2_any _ _ x y _ (by simp [go_sem]) (by simp [go_sem])

theorem pair_eq (b : Bool) (t o : Int) (r : Bool) (d n l i t' o' : Int) (r' : Bool) (d' n' l' i' : Int) (w : World) (h : pairB n l n' l' = b) :
    Calls Yba.prog 17 #[.agg #[.int .i64 t, .int .u64 o, .bool r, .int .i64 d, .int .i64 n, .int .u64 l, .int .u64 i],
      .agg #[.int .i64 t', .int .u64 o', .bool r', .int .i64 d', .int .i64 n', .int .u64 l', .int .u64 i']] w
      fun e w' => e = .returned (.bool b) ∧ Below w.heap.size w w' := h ▸ pair_any t o r d n l i t' o' r' d' n' l' i' w

theorem less_eq (b : Bool) (t o : Int) (r : Bool) (d n l i t' o' : Int) (r' : Bool) (d' n' l' i' : Int) (w : World) (h : decide (less t o r d n l i t' o' r' d' n' l' i' < 0) = b) :
    Calls Yba.prog 23 #[.agg #[.int .i64 t, .int .u64 o, .bool r, .int .i64 d, .int .i64 n, .int .u64 l, .int .u64 i],
      .agg #[.int .i64 t', .int .u64 o', .bool r', .int .i64 d', .int .i64 n', .int .u64 l', .int .u64 i']] w
      fun e w' => e = .returned (.bool b) ∧ Below w.heap.size w w' := h ▸ less_any t o r d n l i t' o' r' d' n' l' i' w

end Go.Proofs.Ybulknri
