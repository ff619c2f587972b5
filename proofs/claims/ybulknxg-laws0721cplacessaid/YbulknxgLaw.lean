import Derived.Test.YbulknxgGrow
import Derived.RegionTactic
import Derived.ChangeAlike
import Derived.BigRegion
import Derived.OneCell
import Derived.Deep.Cut
import Derived.Deep.CutRange
namespace Go.Proofs.Ybulknxg
open Go.RowKit

/-- What the law reads of its argument. -/
def Hashes (w : World) (a : Option Addr) (n : Nat) (hs : Nat → Nat) : Prop := 0 < n → ∃ x, a = some x ∧ x.block < w.heap.size ∧ ∀ k, k < n → w.cell? (x.add k) = some (.int .u64 (hs k : Int))

set_option maxRecDepth 100000 in
theorem law_long (a : Option Addr) (n cap m : Nat) (w : World) (hn : 256 < n) (hn2 : n ≤ maxLen) :
    Calls Yba.prog 3 #[.slice a n cap, .int .u8 (m : Int)] w fun e w' => e = .returned (.bool true) ∧ Below w.heap.size w w' := by
  unfold maxLen at hn2
  go_enter Yba.func3, Yba.ntmps3
  go_wp2_with fail
  go_ret
  exact ⟨rfl, Below.refl _ _⟩

theorem Yba.info4 : (Yba.prog.info? 4).map (fun i => (i.zero, i.size, i.bytes)) = some (some (.bool false), 1, 1) := by kernel_rfl
theorem Yba.info32 : (Yba.prog.info? 32).map (fun i => (i.zero, i.size, i.bytes)) = some (some (.agg #[.int .u64 0, .int .i64 0, .int .u32 0, .int .u32 0]), 4, 24) := by kernel_rfl

theorem two_pow_wrap (r : Nat) (hr : r < 4) : wrap64 (2 ^ r) = ((2 ^ r : Nat) : Int) := by
  obtain rfl | rfl | rfl | rfl : r = 0 ∨ r = 1 ∨ r = 2 ∨ r = 3 := by omega
  · simp [wrap64]
  · simp [wrap64]
  · simp [wrap64]
  · simp [wrap64]

/-- The entries' row as it is made. -/
def ent0 (n : Nat) : Array Value := madeCells #[.int .u64 0, .int .i64 0, .int .u32 0, .int .u32 0] (n * 4)

theorem make_ents (n : Nat) (hn : n ≤ 256) (w : World) :
    (Instr.makeSlice 25 (.int .i64 (n : Int)) (.int .i64 (n : Int))).run Yba.prog w = .ok (.slice (some ⟨w.heap.size, 0, none⟩) n n) (w.alloc (.cells (ent0 n) 32)) := by
  obtain ⟨i0, hi, hz0, hz1, hz2⟩ := info_parts Yba.info32
  have hb' : (i0.bytes : Int) * (n : Int) ≤ 281474976710656 := by rw [hz2]; omega
  have := run_make (P := Yba.prog) w 25 32 i0 _ Yba.underlying25 hi hz0 .i64 .i64 n n (by omega) (Int.le_refl _) hb' (by omega)
  rw [hz1, Int.toNat_natCast] at this
  exact this

/-- The table as the law makes it. -/
structure Made (w W : World) (tb sb eb old n : Nat) (xs ys : List Value) : Prop where
  sl : W.cell? ⟨tb, 0, none⟩ = some (.slice (some ⟨sb, 0, none⟩) old old)
  es : W.cell? ⟨tb, 1, none⟩ = some (.slice (some ⟨eb, 0, none⟩) n n)
  free : W.frozen? ⟨tb, 0, none⟩ = false
  slots : W.ownsRow w.heap.size 29 1 (.slice (some ⟨sb, 0, none⟩) old old) old xs
  ents : W.ownsRow w.heap.size 32 4 (.slice (some ⟨eb, 0, none⟩) n n) n ys
  ne1 : tb ≠ sb
  ne2 : tb ≠ eb
  ne3 : sb ≠ eb
  low : w.heap.size ≤ tb
  bel : Below w.heap.size w W

theorem Made.drew {w W : World} {tb sb eb old n : Nat} {xs ys : List Value} (h : Made w W tb sb eb old n xs ys) : Made w W.drew tb sb eb old n xs ys :=
  ⟨h.sl, h.es, h.free, h.slots, h.ents, h.ne1, h.ne2, h.ne3, h.low, h.bel.drew⟩

theorem Made.setSlot {w W : World} {tb sb eb old n : Nat} {xs ys : List Value} (h : Made w W tb sb eb old n xs ys) (k : Nat) (v : Value) : Made w (W.setCell ⟨sb, k, none⟩ v) tb sb eb old n (xs.set k v) ys :=
  ⟨(World.cell?_setCell_other _ _ _ _ (fun e => h.ne1 (congrArg Addr.block e).symm)).trans h.sl, (World.cell?_setCell_other _ _ _ _ (fun e => h.ne1 (congrArg Addr.block e).symm)).trans h.es, (World.frozen?_setCell _ _ _ _).trans h.free,
    (h.slots.stored k v).1, ownsRow_setCell_other h.ents (by simp [Value.ownBlock]; exact fun e => h.ne3 e.symm) v, h.ne1, h.ne2, h.ne3, h.low, h.bel.setCell (h.slots.lt sb rfl).1 v⟩

theorem Made.setEnt {w W : World} {tb sb eb old n : Nat} {xs ys : List Value} (h : Made w W tb sb eb old n xs ys) (k : Nat) (v : Value) : Made w (W.setCell ⟨eb, k, none⟩ v) tb sb eb old n xs (ys.set k v) :=
  ⟨(World.cell?_setCell_other _ _ _ _ (fun e => h.ne2 (congrArg Addr.block e).symm)).trans h.sl, (World.cell?_setCell_other _ _ _ _ (fun e => h.ne2 (congrArg Addr.block e).symm)).trans h.es, (World.frozen?_setCell _ _ _ _).trans h.free,
    ownsRow_setCell_other h.slots (by simp [Value.ownBlock]; exact h.ne3) v, (h.ents.stored k v).1, h.ne1, h.ne2, h.ne3, h.low, h.bel.setCell (h.ents.lt eb rfl).1 v⟩

theorem Made.slotAt {w W : World} {tb sb eb old n : Nat} {xs ys : List Value} (h : Made w W tb sb eb old n xs ys) {k : Nat} (hk : k < old) : ∃ v, W.cell? ⟨sb, k, none⟩ = some v := by
  have hl := h.slots.1
  exact ⟨xs[k]'(by omega), by rw [h.slots.cellAt k (by omega)]; simp⟩

theorem Made.entAt {w W : World} {tb sb eb old n : Nat} {xs ys : List Value} (h : Made w W tb sb eb old n xs ys) {k : Nat} (hk : k < n * 4) : ∃ v, W.cell? ⟨eb, k, none⟩ = some v := by
  have hl := h.ents.1
  exact ⟨ys[k]'(by omega), by rw [h.ents.cellAt k (by omega)]; simp⟩

/-- The first k entries are laid. -/
structure Laid (ys : List Value) (hs : Nat → Nat) (k : Nat) : Prop where
  c0 : ∀ j, j < k → ys[j * 4]? = some (.int .u64 (hs j : Int))
  c1 : ∀ j, j < k → ys[j * 4 + 1]? = some (.int .i64 (j : Int))
  c2 : ∀ j, j < k → ys[j * 4 + 2]? = some (.int .u32 (j : Int))
  c3 : ∀ j, j < k → ys[j * 4 + 3]? = some (.int .u32 1)

theorem Laid.step {ys : List Value} {hs : Nat → Nat} {k : Nat} (h : Laid ys hs k) (hl : k * 4 + 3 < ys.length) :
    Laid ((((ys.set (k * 4) (.int .u64 (hs k : Int))).set (k * 4 + 1) (.int .i64 (k : Int))).set (k * 4 + 2) (.int .u32 (k : Int))).set (k * 4 + 3) (.int .u32 1)) hs (k + 1) := by
  refine ⟨fun j hj => ?_, fun j hj => ?_, fun j hj => ?_, fun j hj => ?_⟩
  all_goals
    by_cases e : j = k
    · subst e
      simp (disch := omega) [List.getElem?_set]
      try omega
    · have hj' : j < k := by omega
      first
        | (rw [List.getElem?_set_ne (by omega), List.getElem?_set_ne (by omega), List.getElem?_set_ne (by omega), List.getElem?_set_ne (by omega)]; exact h.c0 j hj')
        | (rw [List.getElem?_set_ne (by omega), List.getElem?_set_ne (by omega), List.getElem?_set_ne (by omega), List.getElem?_set_ne (by omega)]; exact h.c1 j hj')
        | (rw [List.getElem?_set_ne (by omega), List.getElem?_set_ne (by omega), List.getElem?_set_ne (by omega), List.getElem?_set_ne (by omega)]; exact h.c2 j hj')
        | (rw [List.getElem?_set_ne (by omega), List.getElem?_set_ne (by omega), List.getElem?_set_ne (by omega), List.getElem?_set_ne (by omega)]; exact h.c3 j hj')

theorem Made.all {w W : World} {tb sb eb old n : Nat} {xs ys : List Value} {hs : Nat → Nat} (h : Made w W tb sb eb old n xs ys) (hY : Laid ys hs n) : Ents W eb n hs :=
  ⟨fun k hk => (h.ents.cellAt _ (by omega)).trans (hY.c0 k hk), fun k hk => (h.ents.cellAt _ (by omega)).trans (hY.c1 k hk), fun k hk => (h.ents.cellAt _ (by omega)).trans (hY.c2 k hk), fun k hk => (h.ents.cellAt _ (by omega)).trans (hY.c3 k hk)⟩

theorem masks (e : Nat) (he : e ≤ 8) : Masks (2 ^ e) := by
  intro a ha
  have h := bits_mask .u64 64 (by decide) (fun n h₀ h₁ => by rw [IntKind.wrap_u64]; omega) (e + 1) (by omega) (a : Int) (by omega) (by omega)
  rw [Int.pow_succ] at h
  have e1 : (2 : Int) * ((2 ^ e : Nat) : Int) - 1 = 2 ^ e * 2 - 1 := by simp; omega
  rw [e1, h]
  simp
  rw [Int.mul_comm]

theorem Hashes.at {w W : World} {a : Option Addr} {n : Nat} {hs : Nat → Nat} (h : Hashes w a n hs) (hb : Below w.heap.size w W) {k : Nat} (hk : k < n) : ∃ x, a = some x ∧ W.cell? (x.add k) = some (.int .u64 (hs k : Int)) := by
  obtain ⟨x, hx, hl, hc⟩ := h (by omega)
  have hl2 : (x.add k).block < w.heap.size := by
    have e : (x.add k).block = x.block := by unfold Addr.add; split <;> rfl
    omega
  exact ⟨x, hx, (hb.cell (p := x.add k) hl2).trans (hc k hk)⟩

theorem made1 (w : World) (old n : Nat) (k : Value) (ho : old ≤ 256) (hn : n ≤ 256) :
    Made w (((w.alloc (.cells (madeCells #[.int .u32 0] old) 29)).alloc (.cells (ent0 n) 32)).alloc (.cells #[.slice (some ⟨w.heap.size, 0, none⟩) old old, .slice (some ⟨w.heap.size + 1, 0, none⟩) n n, k] 28)) (w.heap.size + 1 + 1) (w.heap.size) (w.heap.size + 1) old n (madeCells #[.int .u32 0] old).toList (ent0 n).toList := by
  have hm : ∀ a, a ≤ 256 → a ≤ maxLen := fun a h => by unfold maxLen; omega
  refine ⟨by simp [go_sem], by simp [go_sem], by simp [go_sem], ?_, ?_, by omega, by omega, by omega, by omega, ?_⟩
  · exact ((World.ownsRow_lit w _ old (Nat.le_refl _) (hm _ ho) (by simp [madeCells])).alloc _).alloc _
  · have h := (World.ownsRow_lit (base := w.heap.size) (e := 32) (size := 4) (w.alloc (.cells (madeCells #[.int .u32 0] old) 29)) (ent0 n) n (by simp) (hm _ hn) (by simp [ent0, madeCells])).alloc (.cells #[.slice (some ⟨w.heap.size, 0, none⟩) old old, .slice (some ⟨w.heap.size + 1, 0, none⟩) n n, k] 28)
    simpa using h
  · exact (((Below.refl w.heap.size w).alloc (Nat.le_refl _) (.cells (madeCells #[.int .u32 0] old) 29)).alloc (by simp) (.cells (ent0 n) 32)).alloc (by simp; omega) (.cells #[.slice (some ⟨w.heap.size, 0, none⟩) old old, .slice (some ⟨w.heap.size + 1, 0, none⟩) n n, k] 28)

theorem made2 (w : World) (old n : Nat) (k : Value) (ho : old ≤ 256) (hn : n ≤ 256) :
    Made w (((w.alloc (.cells (ent0 n) 32)).alloc (.cells (madeCells #[.int .u32 0] old) 29)).alloc (.cells #[.slice (some ⟨w.heap.size + 1, 0, none⟩) old old, .slice (some ⟨w.heap.size, 0, none⟩) n n, k] 28)) (w.heap.size + 1 + 1) (w.heap.size + 1) (w.heap.size) old n (madeCells #[.int .u32 0] old).toList (ent0 n).toList := by
  have hm : ∀ a, a ≤ 256 → a ≤ maxLen := fun a h => by unfold maxLen; omega
  refine ⟨by simp [go_sem], by simp [go_sem], by simp [go_sem], ?_, ?_, by omega, by omega, by omega, by omega, ?_⟩
  · have h := (World.ownsRow_lit (base := w.heap.size) (e := 29) (size := 1) (w.alloc (.cells (ent0 n) 32)) (madeCells #[.int .u32 0] old) old (by simp) (hm _ ho) (by simp [madeCells])).alloc (.cells #[.slice (some ⟨w.heap.size + 1, 0, none⟩) old old, .slice (some ⟨w.heap.size, 0, none⟩) n n, k] 28)
    simpa using h
  · exact ((World.ownsRow_lit w _ n (Nat.le_refl _) (hm _ hn) (by simp [ent0, madeCells])).alloc _).alloc _
  · exact (((Below.refl w.heap.size w).alloc (Nat.le_refl _) (.cells (ent0 n) 32)).alloc (by simp) (.cells (madeCells #[.int .u32 0] old) 29)).alloc (by simp; omega) (.cells #[.slice (some ⟨w.heap.size + 1, 0, none⟩) old old, .slice (some ⟨w.heap.size, 0, none⟩) n n, k] 28)

theorem bdn {B : Nat} {w W : World} (h : Below B w W) (hB : B ≤ W.heap.size) (o : Obj) (q : Nat) : Below B w ((W.alloc o).drewN q) :=
  ⟨(h.alloc hB o).os, (h.alloc hB o).tape, (h.alloc hB o).output, (h.alloc hB o).size, (h.alloc hB o).block⟩

def Bo (b : Bool) : Value := .bool b

/-- The row 'seen', and nothing else that was there has turned. -/
structure Seen (w4 w5 : World) (n : Nat) (S : List Bool) : Prop where
  len : S.length = n
  own : w5.ownsRow w4.heap.size 4 1 (.slice (some ⟨w4.heap.size, 0, none⟩) n n) n (S.map Bo)
  bel : Below w4.heap.size w4 w5

theorem Seen.start (w4 : World) (n : Nat) (hn : n ≤ 256) : Seen w4 (w4.alloc (.cells (madeCells #[.bool false] n) 4)) n (List.replicate n false) := by
  refine ⟨by simp, ?_, (Below.refl _ _).alloc (Nat.le_refl _) _⟩
  have h := World.ownsRow_lit (base := w4.heap.size) (e := 4) (size := 1) w4 (madeCells #[.bool false] n) n (Nat.le_refl _) (by unfold maxLen; omega) (by simp [madeCells])
  rw [toList_madeCells_one] at h
  rw [List.map_replicate]
  exact h

theorem Seen.put {w4 w5 : World} {n : Nat} {S : List Bool} (h : Seen w4 w5 n S) (k : Nat) : Seen w4 (w5.setCell ⟨w4.heap.size, k, none⟩ (.bool true)) n (S.set k true) := by
  refine ⟨by simp [h.len], ?_, h.bel.setCell (Nat.le_refl _) _⟩
  have := (h.own.stored k (.bool true)).1
  rw [List.map_set]
  exact this

theorem Seen.at {w4 w5 : World} {n : Nat} {S : List Bool} (h : Seen w4 w5 n S) {k : Nat} (hk : k < n) : w5.cell? ⟨w4.heap.size, k, none⟩ = some (.bool (S.getD k false)) := by
  have hl := h.len
  rw [h.own.cellAt k (by omega), List.getElem?_map, List.getD_eq_getElem?_getD]
  have hk2 : k < S.length := by omega
  simp [hk2, Bo]

theorem getD_set (S : List Bool) (k i : Nat) (h : (S.set k true).getD i false = true) : i = k ∨ S.getD i false = true := by
  by_cases e : i = k
  · exact Or.inl e
  · right
    rw [List.getD_eq_getElem?_getD, List.getElem?_set_ne (fun e2 => e e2.symm)] at h
    rw [List.getD_eq_getElem?_getD]
    exact h

set_option maxRecDepth 100000 in
set_option maxHeartbeats 2000000 in
theorem law_any (a : Option Addr) (n cap m : Nat) (hs : Nat → Nat) (w : World) (hn : n ≤ 256) (hm : m < 256) (hH : Hashes w a n hs) (hhs : ∀ k, hs k < 18446744073709551616) :
    Calls Yba.prog 3 #[.slice a n cap, .int .u8 (m : Int)] w fun e w' => e = .returned (.bool true) ∧ Below w.heap.size w w' := by
  obtain ⟨r, hr1⟩ : ∃ r : Nat, m % 4 = r := ⟨_, rfl⟩
  have hr2 : r < 4 := by omega
  have hd : decide (256 < (n : Int)) = false := by simp; omega
  have hm0 : (0 : Int) ≤ (m : Int) := by omega
  go_enter Yba.func3, Yba.ntmps3
  go_wp2_with fail
  go_loopw [6] (fun o wr => ∃ e : Nat, e ≤ 8 ∧ o = .int .i64 ((2 ^ e : Nat) : Int) ∧ wr = w) (fun o _ => n + 10 - (intOf o).toNat)
  case atStart =>
    exact ⟨r, by omega, by rw [hr1, two_pow_wrap r hr2], rfl⟩
  case round =>
    obtain ⟨e, he, rfl, hw⟩ := hrel
    have hw' := hw.symm
    subst hw'
    clear hw
    obtain ⟨old, hold⟩ : ∃ old : Nat, 2 ^ e = old := ⟨_, rfl⟩
    rw [hold]
    have h1 : 1 ≤ old := by rw [← hold]; exact Nat.two_pow_pos e
    have h2 : old ≤ 256 := by rw [← hold]; exact Nat.pow_le_pow_right (n := 2) (by decide) he
    by_cases hlt : 2 * old ≤ n
    · go_wp2_with fail
      refine ⟨⟨e + 1, ?_, ?_, by first | rfl | trivial⟩, ?_⟩
      · refine Nat.le_of_not_lt fun h => ?_
        have h9 : 2 ^ 8 ≤ 2 ^ e := Nat.pow_le_pow_right (by decide) (by omega)
        rw [hold] at h9
        omega
      · rw [Nat.pow_succ, hold]
        go_num
      · simp [intOf]
        omega
    · have hmk1 := fun w => make_at (t := 24) (e := 29) 4 old Yba.underlying24 Yba.info29 rfl (by omega) (by omega) w
      have hmk2 := make_ents n hn
      go_upto_region 7 with fail
      go_cut [7] from 36 to 41 (fun s7 wx => ∃ tb sb eb xs ys, s7 = .pointer (some ⟨tb, 0, none⟩) ∧ Made w wx tb sb eb old n xs ys)
      case first =>
        go_region
        all_goals (go_wp2_with fail; go_meet)
        · exact ⟨_, _, _, _, _, rfl, (made1 w old n _ h2 hn).drew⟩
        · exact ⟨_, _, _, _, _, rfl, (made2 w old n _ h2 hn).drew⟩
      case rest =>
        obtain ⟨tb, sb, eb, xs, ys, rfl, hM⟩ := hcut
        go_wp2_with fail
        go_loopw [8] (fun j w2 => ∃ (k : Nat) (xs' : List Value), k ≤ old ∧ j = .int .i64 k ∧ Made w w2 tb sb eb old n xs' ys) (fun j _ => old - (intOf j).toNat)
        case atStart => exact ⟨0, xs, Nat.zero_le _, rfl, hM⟩
        case round =>
          obtain ⟨k, xs', hk, rfl, hM2⟩ := hrel
          have c0 := hM2.sl
          by_cases hlt2 : k < old
          · obtain ⟨v, hv⟩ := hM2.slotAt hlt2
            have hf := hM2.slots.frozenAt k
            have hk0 : (0 : Int) ≤ (k : Int) := by omega
            have hk1 : (k : Int) < (old : Int) := by omega
            go_wp2_with fail
            exact ⟨⟨k + 1, _, by omega, by go_num, hM2.setSlot k _⟩, by simp [intOf]; omega⟩
          · go_wp2_with fail
            have HH : Hid _ := hH
            clear hH c0
            go_loopw [9] (fun j w3 => ∃ (k : Nat) (ys' : List Value), k ≤ n ∧ j = .int .i64 k ∧ Made w w3 tb sb eb old n xs' ys' ∧ Laid ys' hs k) (fun j _ => n - (intOf j).toNat)
            case atStart => exact ⟨0, ys, Nat.zero_le _, rfl, hM2, ⟨fun _ h => absurd h (Nat.not_lt_zero _), fun _ h => absurd h (Nat.not_lt_zero _), fun _ h => absurd h (Nat.not_lt_zero _), fun _ h => absurd h (Nat.not_lt_zero _)⟩⟩
            case round =>
              obtain ⟨j, ys', hj, rfl, hM3, hY⟩ := hrel
              have HY : Hid _ := hY
              clear hY
              by_cases hlt3 : j < n
              · have c1 := hM3.es
                obtain ⟨x, rfl, hx⟩ := Hashes.at HH.out hM3.bel hlt3
                obtain ⟨v0, hv0⟩ := hM3.entAt (k := j * 4) (by omega)
                obtain ⟨v1, hv1⟩ := hM3.entAt (k := j * 4 + 1) (by omega)
                obtain ⟨v2, hv2⟩ := hM3.entAt (k := j * 4 + 2) (by omega)
                obtain ⟨v3, hv3⟩ := hM3.entAt (k := j * 4 + 3) (by omega)
                have hf0 := hM3.ents.frozenAt (j * 4)
                have hf1 := hM3.ents.frozenAt (j * 4 + 1)
                have hf2 := hM3.ents.frozenAt (j * 4 + 2)
                have hf3 := hM3.ents.frozenAt (j * 4 + 3)
                have hk0 : (0 : Int) ≤ (j : Int) := by omega
                have hk1 : (j : Int) < (n : Int) := by omega
                go_wp2_with fail
                go_region
                go_wp2_with fail
                have hl := hM3.ents.1
                exact ⟨⟨j + 1, _, by omega, by go_num, ((((hM3.setEnt (j * 4) _).setEnt (j * 4 + 1) _).setEnt (j * 4 + 2) _).setEnt (j * 4 + 3) _).drew, HY.out.step (by omega)⟩, by simp [intOf]; omega⟩
              · obtain rfl : j = n := by omega
                generalize wr = w3 at *
                go_wp2_with fail
                refine (grow_any tb sb old eb j hs w3 (by omega) h1 h2 (by omega) hM3.sl hM3.free hM3.es (hM3.all HY.out) (fun e => hM3.ne2 e.symm) (hM3.ents.lt eb rfl).2 hhs (hold ▸ masks e he)).mono ?_
                rintro e4 w4 ⟨rfl, T, hI, hG⟩
                have HI : Hid _ := hI
                clear hI
                have hmk3 := fun w => make_at (t := 33) (e := 4) 1 j Yba.underlying33 Yba.info4 rfl (by omega) (by omega) w
                have c0 := hG.sl
                have htw : tb < w4.heap.size := cell_lt c0
                clear hmk1 hmk2
                go_wp2_with fail
                have hB4 : Below w.heap.size w w4 := hM3.bel.trans ⟨hG.os, hG.tape, hG.output, Nat.le_of_lt hG.size, fun k hk => hG.block k (Nat.lt_of_lt_of_le hk hM3.bel.size) (by have := hM3.low; omega)⟩
                have HT : Hid (∀ x, x < 2 * old → w4.cell? ⟨w3.heap.size, x, none⟩ = some (.int .u32 (at' T x : Int))) := fun x hx => hG.slot HI.out.len hx
                have hzw := hG.size
                go_loopw [12, 13] (fun c p w5 => ∃ (q : Nat) (S : List Bool), q ≤ 2 * old ∧ c = .int .i64 (nz T q : Nat) ∧ p = .int .i64 q ∧ Seen w4 w5 j S ∧ (∀ i, S.getD i false = true → ∃ p', p' < q ∧ at' T p' = i + 1)) (fun _ p _ => 2 * old - (intOf p).toNat)
                case atStart => exact ⟨0, _, Nat.zero_le _, rfl, rfl, Seen.start w4 j hn, fun i h => by simp [List.getD_eq_getElem?_getD, List.getElem?_replicate] at h; split at h <;> simp at h⟩
                case round =>
                  obtain ⟨q, S, hq, rfl, rfl, hS, hseen⟩ := hrel
                  have HS : Hid _ := hseen
                  clear hseen
                  have d0 := (hS.bel.cell (p := ⟨tb, 0, none⟩) htw).trans c0
                  by_cases hlt4 : q < 2 * old
                  · have hq0 : (0 : Int) ≤ (q : Int) := by omega
                    have hq1 : (q : Int) < 2 * (old : Int) := by omega
                    obtain ⟨v, hv⟩ : ∃ v, at' T q = v := ⟨_, rfl⟩
                    have d1 := (hS.bel.cell (p := ⟨w3.heap.size, q, none⟩) hzw).trans (HT.out q hlt4)
                    rw [hv] at d1
                    by_cases hv0 : v = 0
                    · subst hv0
                      go_wp2_with fail
                      have hnz : nz T (q + 1) = nz T q := by simp [nz, hv]
                      exact ⟨⟨q + 1, S, by omega, by rw [hnz], by go_num, hS, fun i h => by obtain ⟨p', h1, h2⟩ := HS.out i h; exact ⟨p', by omega, h2⟩⟩, by simp [intOf]; omega⟩
                    · obtain ⟨kk, rfl⟩ : ∃ kk, v = kk + 1 := ⟨v - 1, by omega⟩
                      obtain ⟨hle, d, hds, hqd, hpath⟩ := HI.out.path q hlt4 (by omega)
                      rw [hv, Nat.add_sub_cancel] at hqd hpath
                      rw [hv] at hle
                      have hkk : kk < j := by omega
                      have HQ : Hid ((hs kk + d) % (2 * old) = q) := hqd.symm
                      have HP : Hid (∀ d', d' < d → 0 < at' T ((hs kk + d') % (2 * old)) ∧ at' T ((hs kk + d') % (2 * old)) < kk + 1) := hpath
                      have HV : Hid (at' T q = kk + 1) := hv
                      clear hqd hpath
                      have hsk : S.getD kk false = false := by
                        cases hb : S.getD kk false with
                        | false => rfl
                        | true =>
                          obtain ⟨p', hp1, hp2⟩ := HS.out kk hb
                          have := HI.out.inj p' q (by omega) hlt4 (by omega) (by omega)
                          omega
                      clear hv
                      have d2 := hS.at hkk
                      rw [hsk] at d2
                      clear hsk
                      have d3 := hS.own.frozenAt kk
                      have d1' : wr.cell? ⟨w3.heap.size, q, none⟩ = some (.int .u32 ((kk : Int) + 1)) := d1
                      clear d1
                      have hS6 := hS.put kk
                      obtain ⟨x, rfl, hx⟩ := Hashes.at HH.out (hB4.trans (hS6.bel.mono (by have := hB4.size; omega))) hkk
                      obtain ⟨h, hh⟩ : ∃ h : Nat, hs kk % (2 * old) = h := ⟨_, rfl⟩
                      have q4 := (hold ▸ masks e he : Masks old) (hs kk) (hhs kk)
                      rw [hh] at q4
                      have hkj : (kk : Int) + 1 ≤ (j : Int) := by omega
                      have hkj1 : (kk : Int) < (j : Int) := by omega
                      have hkj0 : (0 : Int) ≤ (kk : Int) := by omega
                      have hbk : ((kk : Int) + 1 == 0) = false := by simp; omega
                      have hnq : nz T q ≤ 512 := Nat.le_trans (nz_le T q) (by omega)
                      go_wp2_with fail
                      generalize hw6 : wr.setCell ⟨w4.heap.size, kk, none⟩ (.bool true) = w6 at *
                      have e0 := (hS6.bel.cell (p := ⟨tb, 0, none⟩) htw).trans c0
                      clear d0 d2 d3 d1' q4 hw6
                      go_loopw [16, 17] (fun i st w7 => ∃ d0 y : Nat, d0 ≤ d ∧ (hs kk + d0) % (2 * old) = y ∧ i = .int .u64 y ∧ st = .int .i64 d0 ∧ w7 = w6) (fun _ st _ => d - (intOf st).toNat)
                      case atStart => exact ⟨0, h, Nat.zero_le _, hh, rfl, rfl, by first | rfl | trivial⟩
                      case round =>
                        obtain ⟨d0, y, hd0, hy, rfl, rfl, hw7⟩ := hrel
                        have hw7' := hw7.symm
                        subst hw7'
                        clear hw7
                        have hys : y < 2 * old := by rw [← hy]; exact Nat.mod_lt _ (by omega)
                        have HY2 : Hid ((hs kk + d0) % (2 * old) = y) := hy
                        clear hy
                        by_cases hyq : y = q
                        · subst hyq
                          go_wp2_with fail
                          have hnz : nz T (y + 1) = nz T y + 1 := by simp [nz, HV.out]
                          refine ⟨⟨y + 1, S.set kk true, by omega, by rw [hnz]; go_num, by go_num, hS6, fun i h => ?_⟩, by simp [intOf]; omega⟩
                          rcases getD_set S kk i h with rfl | h2
                          · exact ⟨y, by omega, HV.out⟩
                          · obtain ⟨p', g1, g2⟩ := HS.out i h2
                            exact ⟨p', by omega, g2⟩
                        · have hdd : d0 < d := by
                            refine Nat.lt_of_le_of_ne hd0 fun e => hyq ?_
                            rw [← HY2.out, e]
                            exact HQ.out
                          obtain ⟨z, hz⟩ : ∃ z, at' T y = z := ⟨_, rfl⟩
                          have e1 := (hS6.bel.cell (p := ⟨w3.heap.size, y, none⟩) hzw).trans (HT.out y hys)
                          rw [hz] at e1
                          have hz2 := HP.out d0 hdd
                          rw [HY2.out, hz] at hz2
                          clear hz
                          obtain ⟨y2, hy2⟩ : ∃ y2 : Nat, (y + 1) % (2 * old) = y2 := ⟨_, rfl⟩
                          have q5 : bits .and .u64 ((y : Int) + 1) (2 * (old : Int) - 1) = (y2 : Int) := by
                            have := (hold ▸ masks e he : Masks old) (y + 1) (by omega)
                            rw [hy2, Int.natCast_add] at this
                            exact this
                          have HY3 : Hid ((y + 1) % (2 * old) = y2) := hy2
                          clear hy2
                          have hb1 : ((y : Int) != (q : Int)) = true := by simp; omega
                          have hb2 : ((z : Int) == 0) = false := by simp; omega
                          have hy0 : (0 : Int) ≤ (y : Int) := by omega
                          have hy1 : (y : Int) < 2 * (old : Int) := by omega
                          go_wp2_with fail
                          exact ⟨⟨d0 + 1, y2, by omega, by rw [← HY3.out, ← HY2.out, Nat.mod_add_mod, Nat.add_assoc], rfl, by go_num, by first | rfl | trivial⟩, by simp [intOf]; omega⟩
                  · obtain rfl : q = 2 * old := by omega
                    have hnum := HI.out.num
                    generalize wr = w5 at *
                    have hB5 := hB4.trans (hS.bel.mono hB4.size)
                    have f1 := (hS.bel.cell (p := ⟨tb, 1, none⟩) htw).trans hG.es
                    have hS5 := hS.bel
                    have HS5 : Hid _ := hS5
                    clear hS5 hS
                    go_wp2_with fail
                    go_loopw [19] (fun i w8 => ∃ k : Nat, k ≤ j ∧ i = .int .i64 k ∧ Below w5.heap.size w5 w8) (fun i _ => j - (intOf i).toNat)
                    case atStart => exact ⟨0, Nat.zero_le _, rfl, Below.refl _ _⟩
                    case round =>
                      obtain ⟨i, hi, rfl, hB8⟩ := hrel
                      have hz5 := HS5.out.size
                      by_cases hlt6 : i < j
                      · have g1 := (hB8.cell (p := ⟨tb, 1, none⟩) (by show tb < _; omega)).trans f1
                        have heb := (hM3.ents.lt eb rfl).2
                        have hE := hM3.all HY.out
                        have hcell : ∀ o, wr.cell? ⟨eb, o, none⟩ = w3.cell? ⟨eb, o, none⟩ := fun o =>
                          (hB8.cell (p := ⟨eb, o, none⟩) (by show eb < _; omega)).trans ((HS5.out.cell (p := ⟨eb, o, none⟩) (by show eb < _; omega)).trans (hG.cell heb (fun e => hM3.ne2 e.symm)))
                        have g2 := (hcell (i * 4)).trans (hE.c0 i hlt6)
                        have g3 := (hcell (i * 4 + 1)).trans (hE.c1 i hlt6)
                        have g4 := (hcell (i * 4 + 2)).trans (hE.c2 i hlt6)
                        have g5 := (hcell (i * 4 + 3)).trans (hE.c3 i hlt6)
                        obtain ⟨x, rfl, hx⟩ := Hashes.at (W := wr.alloc (.cells #[.int .u64 (hs i : Int), .int .i64 (i : Int), .int .u32 (i : Int), .int .u32 1] 32)) HH.out (((hB5.trans (hB8.mono hB5.size))).alloc (Nat.le_trans hB5.size hB8.size) _) hlt6
                        clear hcell hE
                        have hi0 : (0 : Int) ≤ (i : Int) := by omega
                        have hi1 : (i : Int) < (j : Int) := by omega
                        go_wp2_with fail
                        go_quiet (fail)
                        go_wp2_with fail
                        exact ⟨⟨i + 1, by omega, by go_num, bdn hB8 hB8.size _ _⟩, by simp [intOf]; omega⟩
                      · go_wp2_with fail
                        go_ret
                        exact ⟨rfl, hB5.trans (hB8.mono hB5.size)⟩
end Go.Proofs.Ybulknxg
