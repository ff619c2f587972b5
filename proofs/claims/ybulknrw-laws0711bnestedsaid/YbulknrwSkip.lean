import Derived.Test.YbulknrwNest
namespace Go.Proofs.Ybulknrw
open Go.RowKit

/-- Nothing below B has turned but three blocks. -/
structure Kept3 (B x y z : Nat) (w w' : World) : Prop where
  os : w'.os = w.os
  tape : w'.tape = w.tape
  output : w'.output = w.output
  size : w.heap.size ≤ w'.heap.size
  block : ∀ k, k < B → k ≠ x → k ≠ y → k ≠ z → w'.heap[k]? = w.heap[k]?

theorem Kept3.ofMoved {B x y z : Nat} {w w' : World} {v v' : Value} {xs : List Int} (h : LogAt w x B v xs) (hM : Moved w w' x v v') : Kept3 B x y z w w' :=
  ⟨hM.os, hM.tape, hM.output, hM.size, fun k hk hx _ _ => hM.block k (Nat.lt_of_lt_of_le hk h.size) hx (h.apart hk)⟩
theorem Kept3.trans {B x y z : Nat} {w w1 w2 : World} (h : Kept3 B x y z w w1) (k : Kept3 B x y z w1 w2) : Kept3 B x y z w w2 :=
  ⟨k.os.trans h.os, k.tape.trans h.tape, k.output.trans h.output, Nat.le_trans h.size k.size, fun j a b c d => (k.block j a b c d).trans (h.block j a b c d)⟩
theorem Kept3.set {B x y z : Nat} {w w1 : World} (h : Kept3 B x y z w w1) (b o : Nat) (u : Value) (hb : b = y ∨ b = z) : Kept3 B x y z w (w1.setCell ⟨b, o, none⟩ u) :=
  ⟨h.os, h.tape, h.output, by rw [World.size_setCell]; exact h.size, fun j a hx hy hz => (Below.heap_setCell _ _ _ _ (by show j ≠ b; rcases hb with rfl | rfl; exact hy; exact hz)).trans (h.block j a hx hy hz)⟩
theorem Kept3.cell {B x y z : Nat} {w w1 : World} (h : Kept3 B x y z w w1) {b o : Nat} (hb : b < B) (hx : b ≠ x) (hy : b ≠ y) (hz : b ≠ z) : w1.cell? ⟨b, o, none⟩ = w.cell? ⟨b, o, none⟩ := World.cell?_of_block (a := ⟨b, o, none⟩) (h.block b hb hx hy hz)

/-- What the outer skip leaves. -/
def Skipped (B lb okb ranb : Nat) (b : Bool) (xs : List Int) (w w' : World) : Prop :=
  ∃ v', LogAt w' lb B v' (xs ++ (if b then [2, 3, 4, 5] else [2, 3, 5])) ∧ w'.cell? ⟨okb, 0, none⟩ = some (.bool (!b)) ∧ w'.cell? ⟨ranb, 0, none⟩ = some (.bool true) ∧ Kept3 B lb okb ranb w w'

set_option maxHeartbeats 1000000 in
theorem skip12 (B lb pb ipb isb okb ranb fb : Nat) (pv : Option Addr) (b : Bool) (v : Value) (xs : List Int) (w : World) (h : LogAt w lb B v xs) (hfl : w.cell? ⟨fb, 0, none⟩ = some (.bool b))
    (hp : w.cell? ⟨pb, 0, none⟩ = some (.pointer pv)) (hip : w.cell? ⟨ipb, 0, none⟩ = some (.func (.func 10) #[] #[.pointer (some ⟨lb, 0, none⟩), .pointer (some ⟨fb, 0, none⟩)]))
    (his : w.cell? ⟨isb, 0, none⟩ = some (.func (.func 11) #[] #[.pointer (some ⟨lb, 0, none⟩)])) (hok : w.cell? ⟨okb, 0, none⟩ = some (.bool false)) (hran : w.cell? ⟨ranb, 0, none⟩ = some (.bool false))
    (fok : w.frozen? ⟨okb, 0, none⟩ = false) (fran : w.frozen? ⟨ranb, 0, none⟩ = false)
    (l1 : fb < B) (l2 : pb < B) (l3 : ipb < B) (l4 : isb < B) (l5 : okb < B) (l6 : ranb < B) (n1 : fb ≠ lb) (n2 : pb ≠ lb) (n3 : ipb ≠ lb) (n4 : isb ≠ lb) (n5 : okb ≠ lb) (n6 : ranb ≠ lb) (n7 : okb ≠ ranb) (hlen : xs.length ≤ 800) :
    Calls Yba.prog 12 #[.pointer (some ⟨lb, 0, none⟩), .pointer (some ⟨pb, 0, none⟩), .pointer (some ⟨ipb, 0, none⟩), .pointer (some ⟨isb, 0, none⟩), .pointer (some ⟨okb, 0, none⟩), .pointer (some ⟨ranb, 0, none⟩)] w fun e w' =>
      e = .returned (.tuple #[]) ∧ Skipped B lb okb ranb b xs w w' := by
  obtain ⟨i0, hi0, hz0, hz1, hz2⟩ := info_parts Yba.info3
  have hc := h.cell
  have hf := h.free
  have hsz := h.size
  go_enter Yba.func12, Yba.ntmps12
  go_wp2_with (first
    | (at_builtin; refine wpList_append_lies _ rfl (.tmp 6) (.tmp 7) 41 rfl B 3 i0 (.int .i64 0) 1 8 Yba.underlying41 hi0 hz0 hz1 hz2 rfl (by omega) v _ _ rfl (h.alloc _).own ⟨w.heap.size, 0, none⟩ 1 1 [I 2] rfl rfl (news_I _ _ _ _ rfl) (one_I 2) (by omega) (by unfold maxLen; omega) (by omega) (by simp; omega) (w.heap.size + 1) (by simp) ?_; intro g1 cap1 w1 hown1 hgrow1 hat1 hlt1; obtain ⟨c1, f1, l1', hL1, hM1⟩ := h.after _ hown1 hgrow1 hat1; have e1 := (hM1.cell (b := pb) (o := 0) (cell_lt hp) n2 (h.apart l2)).trans hp; have e2 := (hM1.cell (b := ipb) (o := 0) (cell_lt hip) n3 (h.apart l3)).trans hip; have e3 := (hM1.cell (b := isb) (o := 0) (cell_lt his) n4 (h.apart l4)).trans his))
  have e4 := (hM1.cell (b := fb) (o := 0) (cell_lt hfl) n1 (h.apart l1)).trans hfl
  have hlen2 : (xs ++ [2] ++ if b then [3, 4] else [3]).length ≤ 900 := by cases b <;> simp <;> omega
  refine (inner_try _ lb fb B b _ _ _ hL1 e4 l1 n1 (by simp; omega)).mono ?_
  rintro e w2 ⟨rfl, v2, hL2, hM2⟩
  generalize hys : (xs ++ [2] ++ if b then [3, 4] else [3]) = ys at hL2 hlen2
  have hM := hM1.trans hM2
  have k1 := (hM.cell (b := okb) (o := 0) (cell_lt hok) n5 (h.apart l5)).trans hok
  have k2 := (hM.cell (b := ranb) (o := 0) (cell_lt hran) n6 (h.apart l6)).trans hran
  have k3 := (hM.frozen (b := okb) (o := 0) (cell_lt hok) n5 (h.apart l5)).trans fok
  have k4 := (hM.frozen (b := ranb) (o := 0) (cell_lt hran) n6 (h.apart l6)).trans fran
  have hL3 := (hL2.setLow l5 n5 0 (.bool (!b))).setLow l6 n6 0 (.bool true)
  have hK := ((Kept3.ofMoved (y := okb) (z := ranb) h hM).set okb 0 (.bool (!b)) (.inl rfl)).set ranb 0 (.bool true) (.inr rfl)
  have hk2 : (w2.setCell ⟨okb, 0, none⟩ (.bool (!b))).cell? ⟨ranb, 0, none⟩ = some (.bool false) := (World.cell?_setCell_other _ _ _ _ (fun e => n7 (congrArg Addr.block e))).trans k2
  have hk4 : (w2.setCell ⟨okb, 0, none⟩ (.bool (!b))).frozen? ⟨ranb, 0, none⟩ = false := (World.frozen?_setCell _ _ _ _).trans k4
  have hok3 : ((w2.setCell ⟨okb, 0, none⟩ (.bool (!b))).setCell ⟨ranb, 0, none⟩ (.bool true)).cell? ⟨okb, 0, none⟩ = some (.bool (!b)) := (World.cell?_setCell_other _ _ _ _ (fun e => n7 (congrArg Addr.block e).symm)).trans (World.cell?_setCell_same _ _ _ k1)
  have hran3 : ((w2.setCell ⟨okb, 0, none⟩ (.bool (!b))).setCell ⟨ranb, 0, none⟩ (.bool true)).cell? ⟨ranb, 0, none⟩ = some (.bool true) := World.cell?_setCell_same _ _ _ hk2
  have hc3 := hL3.cell
  have hf3 := hL3.free
  have hsz3 := hL2.size
  clear e1 e2 e3 e4 hc hf hfl hp hip his hok hran fok fran hgrow1 hown1 hlt1 hat1 c1 f1 hL1 hM1 hM2 hM
  go_wp2_with (first
    | (at_builtin; (refine wpList_append_lies _ rfl (.tmp 13) (.tmp 14) 41 rfl B 3 i0 (.int .i64 0) 1 8 Yba.underlying41 hi0 hz0 hz1 hz2 rfl (by omega) v2 _ _ rfl (hL3.alloc _).own ⟨w2.heap.size, 0, none⟩ 1 1 [I 5] rfl rfl (news_I _ _ _ _ (by simp)) (one_I 5) (by omega) (by unfold maxLen; omega) (by omega) (by simp; omega) (w2.heap.size + 1) (by simp) ?_; intro g4 cap4 w4 hown4 hgrow4 hat4 hlt4; obtain ⟨c4, f4, l4', hL4, hM4⟩ := hL3.after _ hown4 hgrow4 (by simpa using hat4))))
  go_end0
  have hfin : ys ++ [5] = xs ++ (if b then [2, 3, 4, 5] else [2, 3, 5]) := by
    subst hys
    cases b <;> simp
  exact ⟨rfl, _, hfin ▸ hL4, (hM4.cell (cell_lt hok3) n5 (hL3.apart l5)).trans hok3, (hM4.cell (cell_lt hran3) n6 (hL3.apart l6)).trans hran3, hK.trans (Kept3.ofMoved hL3 hM4)⟩
end Go.Proofs.Ybulknrw
