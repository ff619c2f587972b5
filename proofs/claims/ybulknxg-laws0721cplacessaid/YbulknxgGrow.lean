import Derived.Test.YbulknxgRows
import Derived.WalkKit
import Derived.WalkSpells
import Derived.WalkLawsBesides
import Derived.Deep.QuietTactic
import Derived.BigQuiet
import Derived.Laws.OwnMore
import Derived.Laws.BitsLemmas
import Derived.Laws.Bits64
import Derived.Test.YbulknxgPlain
namespace Go.Proofs.Ybulknxg
open Go.RowKit

def U (n : Nat) : Value := .int .u32 (n : Int)

theorem Yba.info29 : (Yba.prog.info? 29).map (fun i => (i.zero, i.size, i.bytes)) = some (some (.int .u32 0), 1, 4) := by kernel_rfl

/-- 'make([]T, n)' at one-cell elements. -/
theorem make_at {t e : TypeId} {z : Value} (bytes n : Nat) (ht : Yba.prog.underlying t = some (.slice e)) (hi : (Yba.prog.info? e).map (fun i => (i.zero, i.size, i.bytes)) = some (some z, 1, bytes)) (hz : z.cells = #[z]) (hb : bytes * n ≤ 281474976710656) (hn : n ≤ 1000000) (w : World) :
    (Instr.makeSlice t (.int .i64 (n : Int)) (.int .i64 (n : Int))).run Yba.prog w = .ok (.slice (some ⟨w.heap.size, 0, none⟩) n n) (w.alloc (.cells (madeCells #[z] n) e)) := by
  obtain ⟨i0, hi, hz0, hz1, hz2⟩ := info_parts hi
  have hb' : (i0.bytes : Int) * (n : Int) ≤ 281474976710656 := by
    rw [hz2]
    have h : ((bytes * n : Nat) : Int) ≤ 281474976710656 := by omega
    rwa [Int.natCast_mul] at h
  have := run_make (P := Yba.prog) w t e i0 z ht hi hz0 .i64 .i64 n n (by omega) (Int.le_refl _) hb' (by omega)
  rw [hz1, hz, Int.toNat_natCast, Nat.mul_one] at this
  exact this

theorem cell_lt {w : World} {b o : Nat} {v : Value} (h : w.cell? ⟨b, o, none⟩ = some v) : b < w.heap.size := by
  refine Nat.lt_of_not_le fun hle => ?_
  have : w.heap[b]? = none := Array.getElem?_eq_none hle
  simp [World.cell?, this] at h

/-- What grow leaves. -/
structure Grew (w w' : World) (tb s : Nat) (es : Value) (T : List Nat) : Prop where
  own : w'.ownsRow w.heap.size 29 1 (.slice (some ⟨w.heap.size, 0, none⟩) s s) s (T.map U)
  sl : w'.cell? ⟨tb, 0, none⟩ = some (.slice (some ⟨w.heap.size, 0, none⟩) s s)
  es : w'.cell? ⟨tb, 1, none⟩ = some es
  os : w'.os = w.os
  tape : w'.tape = w.tape
  output : w'.output = w.output
  size : w.heap.size < w'.heap.size
  block : ∀ k, k < w.heap.size → k ≠ tb → w'.heap[k]? = w.heap[k]?

theorem Grew.cell {w w' : World} {tb s : Nat} {es : Value} {T : List Nat} (h : Grew w w' tb s es T) {b o : Nat} (hb : b < w.heap.size) (hne : b ≠ tb) : w'.cell? ⟨b, o, none⟩ = w.cell? ⟨b, o, none⟩ := World.cell?_of_block (a := ⟨b, o, none⟩) (h.block b hb hne)

theorem Grew.start {w : World} {tb s : Nat} {sl es : Value} (hs : s ≤ maxLen) (hsl : w.cell? ⟨tb, 0, none⟩ = some sl) (hes : w.cell? ⟨tb, 1, none⟩ = some es) :
    Grew w ((w.setCell ⟨tb, 0, none⟩ (.slice (some ⟨w.heap.size, 0, none⟩) s s)).alloc (.cells (madeCells #[.int .u32 0] s) 29)) tb s es (List.replicate s 0) := by
  have htl := cell_lt hsl
  refine ⟨?_, ?_, ?_, rfl, rfl, rfl, by simp, fun k hk hne => ?_⟩
  · have h := World.ownsRow_lit (base := w.heap.size) (e := 29) (size := 1) (w.setCell ⟨tb, 0, none⟩ (.slice (some ⟨w.heap.size, 0, none⟩) s s)) (madeCells #[.int .u32 0] s) s (by simp) hs (by simp [madeCells])
    rw [toList_madeCells_one, World.size_setCell] at h
    rw [List.map_replicate]
    exact h
  · rw [World.cell?_alloc_past _ _ _ (by rw [World.size_setCell]; exact htl)]
    exact World.cell?_setCell_same _ _ _ hsl
  · rw [World.cell?_alloc_past _ _ _ (by rw [World.size_setCell]; exact htl)]
    exact (World.cell?_setCell_other _ _ _ _ (fun e => by simp at e)).trans hes
  · rw [Below.heap_alloc _ _ _ (by rw [World.size_setCell]; exact hk), Below.heap_setCell _ _ _ _ hne]

theorem map_set (T : List Nat) (i v : Nat) : (T.set i v).map U = (T.map U).set i (U v) := by simp [List.map_set]

theorem Grew.put {w w' : World} {tb s : Nat} {es : Value} {T : List Nat} (h : Grew w w' tb s es T) (htb : tb < w.heap.size) (o : Obj) (x v : Nat) :
    Grew w ((w'.setCell ⟨w.heap.size, x, none⟩ (.int .u32 (v : Int))).alloc o) tb s es (T.set x v) := by
  have hz := h.size
  have hne : tb ≠ w.heap.size := by omega
  refine ⟨?_, ?_, ?_, h.os, h.tape, h.output, by simp; omega, fun k hk hk2 => ?_⟩
  · rw [map_set]
    exact (h.own.stored x _).1.alloc o
  · refine (World.cell?_alloc_past _ _ _ (by rw [World.size_setCell]; show tb < _; omega)).trans ((World.cell?_setCell_other _ _ _ _ (fun e => hne (congrArg Addr.block e).symm)).trans h.sl)
  · refine (World.cell?_alloc_past _ _ _ (by rw [World.size_setCell]; show tb < _; omega)).trans ((World.cell?_setCell_other _ _ _ _ (fun e => hne (congrArg Addr.block e).symm)).trans h.es)
  · rw [Below.heap_alloc _ _ _ (by rw [World.size_setCell]; omega), Below.heap_setCell _ _ _ _ (by show k ≠ w.heap.size; omega)]
    exact h.block k hk hk2

theorem Grew.slot {w w' : World} {tb s : Nat} {es : Value} {T : List Nat} (h : Grew w w' tb s es T) (hl : T.length = s) {x : Nat} (hx : x < s) : w'.cell? ⟨w.heap.size, x, none⟩ = some (.int .u32 (at' T x : Int)) := by
  rw [h.own.cellAt x (by omega), List.getElem?_map]
  have : T[x]? = some (at' T x) := by
    unfold at'
    rw [List.getD_eq_getElem?_getD]
    have hx2 : x < T.length := by omega
    simp [hx2]
  rw [this]
  rfl

/-- How far x lies behind b. -/
def dist (s b x : Nat) : Nat := (x + (s - b % s)) % s

theorem dist_eq (s b d : Nat) (hd : d < s) : dist s b ((b + d) % s) = d := by
  have hs : 0 < s := by omega
  unfold dist
  rw [Nat.mod_add_mod]
  have hb := Nat.mod_lt b hs
  have hdiv := Nat.div_add_mod b s
  have : b + d + (s - b % s) = d + s * (b / s + 1) := by rw [Nat.mul_add]; omega
  rw [this, Nat.add_mul_mod_self_left, Nat.mod_eq_of_lt hd]

/-- What '& mask' answers. -/
def Masks (old : Nat) : Prop := ∀ a : Nat, a < 18446744073709551616 → bits .and .u64 (a : Int) (2 * (old : Int) - 1) = ((a % (2 * old) : Nat) : Int)

/-- The entries' row. -/
structure Ents (w : World) (eb n : Nat) (hs : Nat → Nat) : Prop where
  c0 : ∀ k, k < n → w.cell? ⟨eb, k * 4, none⟩ = some (.int .u64 (hs k : Int))
  c1 : ∀ k, k < n → w.cell? ⟨eb, k * 4 + 1, none⟩ = some (.int .i64 (k : Int))
  c2 : ∀ k, k < n → w.cell? ⟨eb, k * 4 + 2, none⟩ = some (.int .u32 (k : Int))
  c3 : ∀ k, k < n → w.cell? ⟨eb, k * 4 + 3, none⟩ = some (.int .u32 1)

set_option maxHeartbeats 1000000 in
theorem grow_any (tb ob old eb n : Nat) (hs : Nat → Nat) (w : World) (hn : n ≤ 256) (h0 : 0 < old) (hold : old ≤ 256) (hlt : n < 2 * old)
    (hsl : w.cell? ⟨tb, 0, none⟩ = some (.slice (some ⟨ob, 0, none⟩) old old)) (hfz : w.frozen? ⟨tb, 0, none⟩ = false) (hes : w.cell? ⟨tb, 1, none⟩ = some (.slice (some ⟨eb, 0, none⟩) n n))
    (hE : Ents w eb n hs) (hne : eb ≠ tb) (heb : eb < w.heap.size) (hhs : ∀ k, hs k < 18446744073709551616) (hm : Masks old) :
    Calls Yba.prog 4 #[.pointer (some ⟨tb, 0, none⟩)] w fun e w' => e = .returned (.tuple #[]) ∧ ∃ T, Inv (2 * old) hs n T ∧ Grew w w' tb (2 * old) (.slice (some ⟨eb, 0, none⟩) n n) T := by
  have hmk : ∀ w, (Instr.makeSlice 24 (.int .i64 (2 * (old : Int))) (.int .i64 (2 * (old : Int)))).run Yba.prog w = .ok (.slice (some ⟨w.heap.size, 0, none⟩) (2 * old) (2 * old)) (w.alloc (.cells (madeCells #[.int .u32 0] (2 * old)) 29)) := by
    intro w
    have := make_at (t := 24) (e := 29) 4 (2 * old) Yba.underlying24 Yba.info29 rfl (by omega) (by omega) w
    rwa [Int.natCast_mul] at this
  have htl := cell_lt hsl
  go_enter Yba.func4, Yba.ntmps4
  go_wp2_with fail
  go_loopw [28] (fun i wr => ∃ (k : Nat) (T : List Nat), k ≤ n ∧ i = .int .i64 k ∧ Inv (2 * old) hs k T ∧ Grew w wr tb (2 * old) (.slice (some ⟨eb, 0, none⟩) n n) T) (fun i _ => n - (intOf i).toNat)
  case atStart => exact ⟨0, _, Nat.zero_le _, rfl, Inv.zero _ _, Grew.start (by unfold maxLen; omega) hsl hes⟩
  case round =>
    obtain ⟨k, T, hk, rfl, hI, hG⟩ := hrel
    by_cases hlt2 : k < n
    · have q0 := (hG.cell (o := k * 4) heb hne).trans (hE.c0 k hlt2)
      have q1 := (hG.cell (o := k * 4 + 1) heb hne).trans (hE.c1 k hlt2)
      have q2 := (hG.cell (o := k * 4 + 2) heb hne).trans (hE.c2 k hlt2)
      have q3 := (hG.cell (o := k * 4 + 3) heb hne).trans (hE.c3 k hlt2)
      have hk0 : (0 : Int) ≤ (k : Int) := by omega
      have hk1 : (k : Int) < (n : Int) := by omega
      have q4 := hm (hs k) (hhs k)
      obtain ⟨h, hh⟩ : ∃ h : Nat, hs k % (2 * old) = h := ⟨_, rfl⟩
      rw [hh] at q4
      have c0 := hG.sl
      have htw : tb < wr.heap.size := by have := hG.size; omega
      have hgw := hG.size
      have HI : Hid _ := hI
      clear hI
      go_wp2_with fail
      go_loopw [5] (fun i wr2 => ∃ d x : Nat, i = .int .u64 x ∧ (hs k + d) % (2 * old) = x ∧ (∀ d', d' < d → at' T ((hs k + d') % (2 * old)) ≠ 0) ∧ wr2 = wr.alloc (.cells #[.int .u64 (hs k : Int), .int .i64 (k : Int), .int .u32 (k : Int), .int .u32 1] 32)) (fun i _ => 2 * old - dist (2 * old) (hs k) (intOf i).toNat)
      case atStart => exact ⟨0, h, rfl, hh, fun _ h => absurd h (Nat.not_lt_zero _), rfl⟩
      case round =>
        obtain ⟨d, x, rfl, hx, hd, rfl⟩ := hrel
        have hds := HI.out.free (by omega) (hs k) d hd
        have hxs : x < 2 * old := by rw [← hx]; exact Nat.mod_lt _ (by omega)
        have hx0 : (0 : Int) ≤ (x : Int) := by omega
        have hx1 : (x : Int) < 2 * (old : Int) := by omega
        have cx : (wr.alloc (.cells #[.int .u64 (hs k : Int), .int .i64 (k : Int), .int .u32 (k : Int), .int .u32 1] 32)).cell? ⟨w.heap.size, x, none⟩ = _ := (World.cell?_alloc_past _ _ _ hgw).trans (hG.slot HI.out.len hxs)
        obtain ⟨v, hv⟩ : ∃ v, at' T x = v := ⟨_, rfl⟩
        rw [hv] at cx
        by_cases hv0 : v = 0
        · subst hv0
          have cf := hG.own.frozenAt x
          go_wp2_with fail
          have hP := HI.out.place (by omega) d hd (by rw [hx]; exact hv)
          rw [hx] at hP
          refine ⟨⟨k + 1, T.set x (k + 1), by omega, by go_num, hP, ?_⟩, by simp [intOf]; omega⟩
          exact hG.put htl _ x (k + 1)
        · have hbv : ((v : Int) != 0) = true := by simp; omega
          obtain ⟨y, hy⟩ : ∃ y : Nat, (x + 1) % (2 * old) = y := ⟨_, rfl⟩
          have q5 : bits .and .u64 ((x : Int) + 1) (2 * (old : Int) - 1) = (y : Int) := by
            have := hm (x + 1) (by omega)
            rw [hy, Int.natCast_add] at this
            exact this
          have hd1 : ∀ d', d' < d + 1 → at' T ((hs k + d') % (2 * old)) ≠ 0 := fun d' hd' => by
            by_cases e : d' = d
            · subst e; rw [hx, hv]; exact hv0
            · exact hd d' (by omega)
          have hds1 := HI.out.free (by omega) (hs k) (d + 1) hd1
          have hy1 : (hs k + (d + 1)) % (2 * old) = y := by rw [← hy, ← hx, Nat.mod_add_mod, Nat.add_assoc]
          go_wp2_with fail
          refine ⟨⟨d + 1, y, rfl, hy1, hd1, by first | rfl | trivial⟩, ?_⟩
          simp only [intOf, Int.toNat_natCast]
          rw [← hy1, ← hx, dist_eq _ _ _ hds1, dist_eq _ _ _ hds]
          omega
    · obtain rfl : k = n := by omega
      go_wp2_with fail
      go_end0
      exact ⟨rfl, T, hI, hG⟩
end Go.Proofs.Ybulknxg
