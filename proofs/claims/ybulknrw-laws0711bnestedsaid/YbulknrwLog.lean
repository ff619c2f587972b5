import Derived.Test.YbulknrwTry
namespace Go.Proofs.Ybulknrw
open Go.RowKit

theorem bAlloc {w W : World} (h : Below w.heap.size w W) (o : Obj) : Below w.heap.size w (W.alloc o) := h.alloc h.size o
theorem bCall {w W w1 : World} (h : Below w.heap.size w W) (hb : Below W.heap.size W w1) : Below w.heap.size w w1 := h.trans (hb.mono h.size)
theorem ret_bool {a b : Bool} (h : a = b) : Ending.returned (.bool a) = .returned (.bool b) := by rw [h]
theorem cell_lt {w : World} {b o : Nat} {v : Value} (h : w.cell? ⟨b, o, none⟩ = some v) : b < w.heap.size := by
  refine Nat.lt_of_not_le fun hle => ?_
  have : w.heap[b]? = none := Array.getElem?_eq_none hle
  simp [World.cell?, this] at h

theorem try_ret (p : Value) (F : FuncId) (caps : Array Value) (sv : Value) (w : World) (R : World → Prop) (hcf : ∀ W, (callFunc F caps).run Yba.prog W = .ok (.enter F caps) W)
    (h : Calls Yba.prog F caps (w.alloc (.cells #[.bool false] 4)) fun e w' => e = .returned (.tuple #[]) ∧ (w'.cell? ⟨w.heap.size, 0, none⟩ = some (.bool false) ∧ w'.frozen? ⟨w.heap.size, 0, none⟩ = false) ∧ R (w'.setCell ⟨w.heap.size, 0, none⟩ (.bool true))) :
    Calls Yba.prog 7 #[p, .func (.func F) #[] caps, sv] w fun e w' => e = .returned (.bool true) ∧ R w' := by
  have H : Hid _ := completes_ret F caps w R hcf h
  clear h hcf
  go_enter Yba.func7, Yba.ntmps7
  go_wp2_with fail
  refine Calls.mono H.out ?_
  rintro e w1 ⟨rfl, hR⟩
  have HR : Hid _ := hR
  clear hR
  go_wp2_with fail
  go_ret
  exact ⟨rfl, HR.out⟩

theorem try_bail (p : Value) (F : FuncId) (caps : Array Value) (G : FuncId) (caps2 : Array Value) (w : World) (R : World → Prop) (hcf : ∀ W, (callFunc F caps).run Yba.prog W = .ok (.enter F caps) W) (hcg : ∀ W, (callFunc G caps2).run Yba.prog W = .ok (.enter G caps2) W)
    (h : Calls Yba.prog F caps (w.alloc (.cells #[.bool false] 4)) fun e w' => e = .panicked [{ v := .iface 43 (.agg #[]), recovered := false }] ∧ w'.cell? ⟨w.heap.size, 0, none⟩ = some (.bool false) ∧
      Calls Yba.prog G caps2 w' fun e w' => e = .returned (.tuple #[]) ∧ R w') :
    Calls Yba.prog 7 #[p, .func (.func F) #[] caps, .func (.func G) #[] caps2] w fun e w' => e = .returned (.bool false) ∧ R w' := by
  have H : Hid _ := completes_bail F caps w _ hcf h
  clear h hcf
  go_enter Yba.func7, Yba.ntmps7
  go_wp2_with fail
  refine Calls.mono H.out ?_
  rintro e w1 ⟨rfl, hR⟩
  have HR : Hid _ := hR
  clear hR
  go_wp2_with fail
  refine Calls.mono HR.out ?_
  rintro e w2 ⟨rfl, hR2⟩
  have HR2 : Hid _ := hR2
  clear hR2
  go_wp2_with fail
  go_ret
  exact ⟨rfl, HR2.out⟩

/-- A number as a cell. -/
def I (z : Int) : Value := .int .i64 z

/-- The variable 'log' in block lb: a slice v that owns a row of its own, from block B on. -/
structure LogAt (w : World) (lb B : Nat) (v : Value) (xs : List Int) : Prop where
  cell : w.cell? ⟨lb, 0, none⟩ = some v
  free : w.frozen? ⟨lb, 0, none⟩ = false
  low : lb < B
  own : w.ownsRow B 3 1 v xs.length (xs.map I)
  size : B ≤ w.heap.size

/-- Nothing that was there has turned but block lb and the slice's row. -/
structure Moved (w w' : World) (lb : Nat) (v v' : Value) : Prop where
  os : w'.os = w.os
  tape : w'.tape = w.tape
  output : w'.output = w.output
  size : w.heap.size ≤ w'.heap.size
  block : ∀ k, k < w.heap.size → k ≠ lb → v.ownBlock ≠ some k → w'.heap[k]? = w.heap[k]?
  row : ∀ g, v'.ownBlock = some g → v.ownBlock = some g ∨ w.heap.size ≤ g

theorem Moved.refl (w : World) (lb : Nat) (v : Value) : Moved w w lb v v := ⟨rfl, rfl, rfl, Nat.le_refl _, fun _ _ _ _ => rfl, fun _ h => Or.inl h⟩
theorem Moved.trans {w w1 w2 : World} {lb : Nat} {v v1 v2 : Value} (h : Moved w w1 lb v v1) (k : Moved w1 w2 lb v1 v2) : Moved w w2 lb v v2 :=
  ⟨k.os.trans h.os, k.tape.trans h.tape, k.output.trans h.output, Nat.le_trans h.size k.size, fun j hj hl hv => by
    rw [k.block j (Nat.lt_of_lt_of_le hj h.size) hl (fun e => by rcases h.row j e with e' | e'; exact hv e'; omega)]
    exact h.block j hj hl hv, fun g hg => by
    rcases k.row g hg with e | e
    · exact h.row g e
    · exact Or.inr (Nat.le_trans h.size e)⟩
theorem Moved.alloc {w w1 : World} {lb : Nat} {v v1 : Value} (h : Moved w w1 lb v v1) (o : Obj) : Moved w (w1.alloc o) lb v v1 :=
  ⟨h.os, h.tape, h.output, Nat.le_trans h.size (by simp), fun j hj hl hv => (Below.heap_alloc _ _ _ (Nat.lt_of_lt_of_le hj h.size)).trans (h.block j hj hl hv), h.row⟩
/-- A store into a block that is newer than w. -/
theorem Moved.setNew {w w1 : World} {lb : Nat} {v v1 : Value} (h : Moved w w1 lb v v1) {b : Nat} (hb : w.heap.size ≤ b) (o : Nat) (x : Value) : Moved w (w1.setCell ⟨b, o, none⟩ x) lb v v1 :=
  ⟨h.os, h.tape, h.output, by rw [World.size_setCell]; exact h.size, fun j hj hl hv => (Below.heap_setCell _ _ _ _ (by show j ≠ b; omega)).trans (h.block j hj hl hv), h.row⟩
theorem Moved.drewN {w w1 : World} {lb : Nat} {v v1 : Value} (h : Moved w w1 lb v v1) (q : Nat) : Moved w (w1.drewN q) lb v v1 := ⟨h.os, h.tape, h.output, h.size, h.block, h.row⟩

/-- A cell of another block is as it was. -/
theorem Moved.cell {w w' : World} {lb : Nat} {v v' : Value} (h : Moved w w' lb v v') {b o : Nat} (hb : b < w.heap.size) (hl : b ≠ lb) (hv : v.ownBlock ≠ some b) : w'.cell? ⟨b, o, none⟩ = w.cell? ⟨b, o, none⟩ := World.cell?_of_block (a := ⟨b, o, none⟩) (h.block b hb hl hv)
theorem Moved.frozen {w w' : World} {lb : Nat} {v v' : Value} (h : Moved w w' lb v v') {b o : Nat} (hb : b < w.heap.size) (hl : b ≠ lb) (hv : v.ownBlock ≠ some b) : w'.frozen? ⟨b, o, none⟩ = w.frozen? ⟨b, o, none⟩ := World.frozen?_of_block (a := ⟨b, o, none⟩) (h.block b hb hl hv)

/-- No row of the log lies below B, nor at the heap's end. -/
theorem LogAt.apart {w : World} {lb B : Nat} {v : Value} {xs : List Int} (h : LogAt w lb B v xs) {b : Nat} (hb : b < B) : v.ownBlock ≠ some b := fun e => by have := (h.own.lt b e).1; omega
theorem LogAt.new {w : World} {lb B : Nat} {v : Value} {xs : List Int} (h : LogAt w lb B v xs) {b : Nat} (hb : w.heap.size ≤ b) : v.ownBlock ≠ some b := fun e => by have := (h.own.lt b e).2; omega

theorem LogAt.alloc {w : World} {lb B : Nat} {v : Value} {xs : List Int} (h : LogAt w lb B v xs) (o : Obj) : LogAt (w.alloc o) lb B v xs := by
  have hl := cell_lt h.cell
  exact ⟨(World.cell?_alloc_past _ _ _ hl).trans h.cell, (Below.frozen (B := w.heap.size) ((Below.refl _ _).alloc (Nat.le_refl _) o) (p := ⟨lb, 0, none⟩) hl).trans h.free, h.low, h.own.alloc o, Nat.le_trans h.size (by simp)⟩

/-- A store below B into another block. -/
theorem LogAt.setLow {w : World} {lb B : Nat} {v : Value} {xs : List Int} (h : LogAt w lb B v xs) {b : Nat} (hb : b < B) (hl : b ≠ lb) (o : Nat) (x : Value) : LogAt (w.setCell ⟨b, o, none⟩ x) lb B v xs :=
  ⟨(World.cell?_setCell_other _ _ _ _ (fun e => hl (congrArg Addr.block e))).trans h.cell, (World.frozen?_setCell _ _ _ _).trans h.free, h.low, ownsRow_setCell_below h.own hb _, by rw [World.size_setCell]; exact h.size⟩

/-- A store into a block that is not the row's. -/
theorem LogAt.setApart {w : World} {lb B : Nat} {v : Value} {xs : List Int} (h : LogAt w lb B v xs) {b : Nat} (hv : v.ownBlock ≠ some b) (hl : b ≠ lb) (o : Nat) (x : Value) : LogAt (w.setCell ⟨b, o, none⟩ x) lb B v xs := by
  refine ⟨(World.cell?_setCell_other _ _ _ _ (fun e => hl (congrArg Addr.block e))).trans h.cell, (World.frozen?_setCell _ _ _ _).trans h.free, h.low, ?_, by rw [World.size_setCell]; exact h.size⟩
  refine h.own.kept (row := some b) ⟨rfl, rfl, rfl, by simp, fun k _ hk => Below.heap_setCell _ _ _ _ (fun e => hk (by rw [e]))⟩ (Or.inr hv)

/-- All that the walk wants behind an append to the log, and its store. -/
theorem LogAt.after {w w1 : World} {lb B : Nat} {v : Value} {xs : List Int} (h : LogAt w lb B v xs) {g cap : Nat} {z : Int} (o : Obj)
    (hown : w1.ownsRow B 3 1 (.slice (some ⟨g, 0, none⟩) (xs.length + 1) cap) (xs.length + 1) (xs.map I ++ [I z])) (hg : (w.alloc o).grownBy w1 v.ownBlock) (hat : v.ownBlock = some g ∨ g = w.heap.size + 1) :
    w1.cell? ⟨lb, 0, none⟩ = some v ∧ w1.frozen? ⟨lb, 0, none⟩ = false ∧ lb < w1.heap.size ∧
    LogAt (w1.setCell ⟨lb, 0, none⟩ (.slice (some ⟨g, 0, none⟩) (xs.length + 1) cap)) lb B (.slice (some ⟨g, 0, none⟩) (xs.length + 1) cap) (xs ++ [z]) ∧
    Moved w (w1.setCell ⟨lb, 0, none⟩ (.slice (some ⟨g, 0, none⟩) (xs.length + 1) cap)) lb v (.slice (some ⟨g, 0, none⟩) (xs.length + 1) cap) := by
  have hl := cell_lt h.cell
  have ha := h.alloc o
  have hb : w1.heap[lb]? = (w.alloc o).heap[lb]? := hg.block lb (cell_lt ha.cell) (fun e => h.apart h.low e.symm)
  have hc1 : w1.cell? ⟨lb, 0, none⟩ = some v := (World.cell?_of_block (a := ⟨lb, 0, none⟩) hb).trans ha.cell
  have hf1 : w1.frozen? ⟨lb, 0, none⟩ = false := (World.frozen?_of_block (a := ⟨lb, 0, none⟩) hb).trans ha.free
  have hs1 : w.heap.size ≤ w1.heap.size := Nat.le_trans (by simp) hg.size
  refine ⟨hc1, hf1, cell_lt hc1, ⟨World.cell?_setCell_same _ _ _ hc1, (World.frozen?_setCell _ _ _ _).trans hf1, h.low, ?_, by rw [World.size_setCell]; exact Nat.le_trans h.size hs1⟩, ⟨hg.os, hg.tape, hg.output, by rw [World.size_setCell]; exact hs1, fun k hk hkl hv => ?_, fun g' hg' => ?_⟩⟩
  · rw [List.length_append, List.map_append]
    exact ownsRow_setCell_below hown h.low _
  · rw [Below.heap_setCell _ _ _ _ hkl, hg.block k (Nat.lt_of_lt_of_le hk (by simp)) (fun e => hv e.symm), Below.heap_alloc _ _ _ hk]
  · simp only [Value.ownBlock, Option.some.injEq] at hg'
    subst hg'
    rcases hat with e | e
    · exact Or.inl e
    · exact Or.inr (by omega)

theorem Yba.info3 : (Yba.prog.info? 3).map (fun i => (i.zero, i.size, i.bytes)) = some (some (.int .i64 0), 1, 8) := by kernel_rfl

theorem news_I (W : World) (z : Int) (E : TypeId) (k : Nat) (hk : k = W.heap.size) : ∀ (j : Nat) v, [I z][j]? = some v → (W.alloc (.cells #[.int .i64 z] E)).cell? ((⟨k, 0, none⟩ : Addr).add j) = some v := fun j v h => by
  subst hk
  match j with
  | 0 =>
    simp at h
    subst h
    rw [Addr.add_lit, Nat.add_zero, World.cell?_alloc_new]
    rfl
  | j + 1 => simp at h
theorem one_I (z : Int) : ∀ v ∈ [I z], v.oneCell' = true := by
  intro v hv
  simp at hv
  subst hv
  rfl

/-- What an appending function does. -/
def Pushed (w : World) (lb B : Nat) (v : Value) (ys : List Int) (w' : World) : Prop := ∃ v', LogAt w' lb B v' ys ∧ Moved w w' lb v v'

set_option maxHeartbeats 400000 in
theorem app2 (lb B : Nat) (v : Value) (xs : List Int) (w : World) (h : LogAt w lb B v xs) (hlen : xs.length ≤ 1000) :
    Calls Yba.prog 6 #[.pointer (some ⟨lb, 0, none⟩)] w fun e w' => e = .returned (.tuple #[]) ∧ Pushed w lb B v (xs ++ [2]) w' := by
  obtain ⟨i0, hi0, hz0, hz1, hz2⟩ := info_parts Yba.info3
  have hc := h.cell
  have hf := h.free
  have hsz := h.size
  go_enter Yba.func6, Yba.ntmps6
  go_wp2_with (first
    | (at_builtin; refine wpList_append_lies _ rfl (.tmp 1) (.tmp 2) 41 rfl B 3 i0 (.int .i64 0) 1 8 Yba.underlying41 hi0 hz0 hz1 hz2 rfl (by omega) v _ _ rfl (h.alloc _).own ⟨w.heap.size, 0, none⟩ 1 1 [I 2] rfl rfl (news_I _ _ _ _ rfl) (one_I 2) (by omega) (by unfold maxLen; omega) (by omega) (by simp; omega) (w.heap.size + 1) (by simp) ?_; intro g1 cap1 w1 hown1 hgrow1 hat1 hlt1; obtain ⟨c1, f1, l1, hL1, hM1⟩ := h.after _ hown1 hgrow1 hat1))
  go_end0
  exact ⟨rfl, _, hL1, hM1⟩

set_option maxHeartbeats 400000 in
theorem parse5 (sb lb fb B st : Nat) (fail : Bool) (v : Value) (w : World) (h : LogAt w lb B v []) (hs : w.cell? ⟨sb, 0, none⟩ = some (.int .i64 (st : Nat))) (hfl : w.cell? ⟨fb, 0, none⟩ = some (.bool fail)) (h1 : sb < B) (h2 : sb ≠ lb) (h3 : fb < B) (h4 : fb ≠ lb) (hst : st ≤ 4) :
    Calls Yba.prog 5 #[.pointer (some ⟨sb, 0, none⟩), .pointer (some ⟨lb, 0, none⟩), .pointer (some ⟨fb, 0, none⟩)] w fun e w' =>
      e = (if fail then .panicked [{ v := .iface 43 (.agg #[]), recovered := false }] else .returned (.tuple #[])) ∧ Pushed w lb B v (List.replicate st 1) w' := by
  obtain ⟨i0, hi0, hz0, hz1, hz2⟩ := info_parts Yba.info3
  have HH : Hid (LogAt w lb B v []) := h
  have hsz := h.size
  cases fail
  all_goals
    go_enter Yba.func5, Yba.ntmps5
    go_wp2_with fail
    go_loopw [3] (fun i wr => ∃ k : Nat, k ≤ st ∧ i = .int .i64 k ∧ Pushed w lb B v (List.replicate k 1) wr) (fun i _ => st - (intOf i).toNat)
    case atStart => exact ⟨0, Nat.zero_le _, rfl, v, h, Moved.refl _ _ _⟩
    case round =>
      obtain ⟨k, hk, rfl, v', hL, hM⟩ := hrel
      have c0 := (hM.cell (b := sb) (o := 0) (cell_lt hs) h2 (HH.out.apart h1)).trans hs
      have cf := (hM.cell (b := fb) (o := 0) (cell_lt hfl) h4 (HH.out.apart h3)).trans hfl
      have hc := hL.cell
      have hf := hL.free
      have hsr := hL.size
      by_cases hlt : k < st
      · go_wp2_with (first | (at_builtin; refine wpList_append_lies _ rfl (.tmp 9) (.tmp 10) 41 rfl B 3 i0 (.int .i64 0) 1 8 Yba.underlying41 hi0 hz0 hz1 hz2 rfl (by omega) _ _ _ rfl (hL.alloc _).own ⟨wr.heap.size, 0, none⟩ 1 1 [I 1] rfl rfl (news_I _ _ _ _ rfl) (one_I 1) (by omega) (by unfold maxLen; simp; omega) (by simp; omega) (by simp; omega) (wr.heap.size + 1) (by simp) ?_; intro g1 cap1 w1 hown1 hgrow1 hat1 hlt1; obtain ⟨c1, f1, l1, hL1, hM1⟩ := hL.after _ hown1 hgrow1 hat1))
        simp only [List.length_replicate] at hL1 hM1
        refine ⟨⟨k + 1, by omega, by go_num, _, ?_, hM.trans hM1⟩, by simp [intOf]; omega⟩
        rw [List.replicate_succ']
        exact hL1
      · obtain rfl : k = st := by omega
        go_wp2_with fail
        first
          | (go_end0; exact ⟨rfl, v', hL, hM⟩)
          | exact ⟨rfl, rfl, v', hL, hM⟩
end Go.Proofs.Ybulknrw
