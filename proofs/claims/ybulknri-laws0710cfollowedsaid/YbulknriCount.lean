import Derived.Test.YbulknriMake
import Derived.Test.YbulknriSplit
namespace Go.Proofs.Ybulknri
open Go.RowKit

set_option maxRecDepth 100000 in
set_option maxHeartbeats 1000000 in
theorem law6_long (la ea : Option Addr) (n m lcap cap : Nat) (w : World) (hn : n ≤ maxLen) (hm : m ≤ maxLen) (h : 256 < n ∨ 1024 < m) :
    Calls Yba.prog 6 #[.slice la n lcap, .slice ea m cap] w fun e w' => e = .returned (.bool true) ∧ Below w.heap.size w w' := by
  unfold maxLen at hn hm
  by_cases h1 : 256 < n
  · go_enter Yba.func6, Yba.ntmps6
    go_wp2_with fail
    go_ret
    exact ⟨rfl, Below.refl _ _⟩
  · have h2 : 1024 < m := by omega
    have hd : decide (256 < (n : Int)) = false := by simp; omega
    go_enter Yba.func6, Yba.ntmps6
    go_wp2_with fail
    go_ret
    exact ⟨rfl, Below.refl _ _⟩

theorem calls_alloc {P : Program} {f : FuncId} {args : Array Value} {w1 : World} {o : Obj} {v : Value} {Q : Ending → World → Prop} (hc : (w1.alloc o).cell? ⟨w1.heap.size, 43, none⟩ = some v)
    (h : ∀ W2 : World, W2.cell? ⟨w1.heap.size, 43, none⟩ = some v → Below w1.heap.size w1 W2 → w1.heap.size < W2.heap.size → Calls P f args W2 Q) : Calls P f args (w1.alloc o) Q :=
  h _ hc (bAlloc (Below.refl _ _) _) (by simp)

/-- The law's own 'ok' after j rounds. -/
def okTo (rt lid : Nat → Nat) (c : Nat) (ok0 : Bool) (j : Nat) : Bool := ok0 && (List.range j).all fun j => !(rt j == c) || lid j == lid c
theorem okTo_succ (rt lid : Nat → Nat) (c : Nat) (ok0 : Bool) (j : Nat) : okTo rt lid c ok0 (j + 1) = (okTo rt lid c ok0 j && (!(rt j == c) || lid j == lid c)) := by
  simp [okTo, List.range_succ, Bool.and_assoc]

def lidOf (ld : Nat → Nat) (n j : Nat) : Nat := ld j % (n + 1) + 1

theorem lid_wrap (a n : Nat) (hn : n ≤ 256) : IntKind.u64.wrap ((a : Int) % ((n : Int) + 1) + 1) = ((a % (n + 1) + 1 : Nat) : Int) := by
  have h1 : (a : Int) % ((n : Int) + 1) = ((a % (n + 1) : Nat) : Int) := by simp
  have h2 : a % (n + 1) < n + 1 := Nat.mod_lt _ (by omega)
  rw [h1, IntKind.wrap_u64]
  omega

set_option maxRecDepth 100000 in
set_option maxHeartbeats 1000000 in
theorem law6_any (n m lcap cap lb0 lo eb eo : Nat) (la ea : Option Addr) (ld x y : Nat → Nat) (w : World) (hn : n ≤ 256) (hm : m ≤ 1024) (hla : 0 < n → la = some ⟨lb0, lo, none⟩) (hld : ∀ k, k < n → w.cell? ⟨lb0, lo + k, none⟩ = some (.int .u8 (ld k : Nat)) ∧ ld k < 256)
    (hea : 0 < m → ea = some ⟨eb, eo, none⟩) (hE : HasEdges w eb eo m x y) :
    Calls Yba.prog 6 #[.slice la n lcap, .slice ea m cap] w fun e w' => e = .returned (.bool true) ∧ Below w.heap.size w w' := by
  have hmk := make_at (t := 42) (e := 22) 8 n Yba.underlying42 Yba.info22 rfl (by omega) (by omega)
  have hd : decide (256 < (n : Int)) = false := by simp; omega
  have hd2 : decide (1024 < (m : Int)) = false := by simp; omega
  go_enter Yba.func6, Yba.ntmps6
  go_wp2_with fail
  have hR0 := made_row (.int .u64 0) n 22 w
  have hB0 := bAlloc (Below.refl w.heap.size w) (.cells (madeCells #[.int .u64 0] n) 22)
  generalize w.alloc (.cells (madeCells #[.int .u64 0] n) 22) = W0 at *
  clear hmk
  go_loopw [7] (fun i wr => ∃ k : Nat, k ≤ n ∧ i = .int .i64 k ∧ Row wr w.heap.size n (fun j => .int .u64 ((if j < k then ld j % (n + 1) + 1 else 0 : Nat) : Int)) ∧ Below w.heap.size w wr) (fun i _ => n - (intOf i).toNat)
  case atStart => exact ⟨0, Nat.zero_le _, rfl, hR0.congr (fun i _ => by simp), hB0⟩
  case round =>
    obtain ⟨k, hk, rfl, hR, hbr⟩ := hrel
    clear hR0 hB0
    by_cases hlt : k < n
    · obtain rfl := hla (by omega)
      clear hla
      have hck := (hbr.cell (p := ⟨lb0, lo + k, none⟩) (cell_lt (hld k hlt).1)).trans (hld k hlt).1
      have hlk := (hld k hlt).2
      obtain ⟨v1, hc⟩ : ∃ v, wr.cell? ⟨w.heap.size, k, none⟩ = some v := ⟨_, hR.cell k hlt⟩
      have hf := hR.free k
      go_wp2_with fail
      rw [lid_wrap _ _ hn]
      refine ⟨⟨k + 1, by omega, by go_num, (hR.set k hlt _).congr (fun i _ => ?_), hbr.setCell (Nat.le_refl _) _⟩, by simp [intOf]; omega⟩
      by_cases hik : i = k
      · subst hik; rw [if_pos rfl, if_pos (by omega)]
      · rw [if_neg hik]
        by_cases h : i < k
        · rw [if_pos h, if_pos (by omega)]
        · rw [if_neg h, if_neg (by omega)]
    · have hR1 : Row wr w.heap.size n (fun j => .int .u64 ((lidOf ld n j : Nat) : Int)) := hR.congr (fun i hi => by rw [if_pos (by omega)]; rfl)
      clear hR hla hld
      obtain ⟨wo, rfl⟩ : ∃ wo : World, wo = wr := ⟨_, rfl⟩
      go_wp2_with fail
      refine (nodes_any n w.heap.size (lidOf ld n) _ hn hR1).mono ?_
      rintro e w1 ⟨rfl, hN1, hb1⟩
      go_wp2_with fail
      refine calls_alloc (v := .slice (some ⟨wo.heap.size, 0, none⟩) n n) (by simp [go_sem]) ?_
      intro W2 h43 hb2 hz2
      have hB2 : Below w.heap.size w W2 := bCall (bCall hbr hb1) hb2
      have hR2 := (hR1.later hb1 hR1.lt).later hb2 (Nat.lt_of_lt_of_le hR1.lt hb1.size)
      have hN2 := hN1.later hb2
      refine (adj_any n m cap eb eo ea x y _ hn hm hea (hE.later hB2)).mono ?_
      rintro e w3 ⟨V, rfl, hS3, hb3⟩
      have hA3 := hS3.ra
      have hB3 := bCall hB2 hb3
      have hR3 := hR2.later hb3 hR2.lt
      have hN3 := (hN2.mono (Nat.le_of_lt hz2)).later hb3
      have h433 := (hb3.cell (p := ⟨w1.heap.size, 43, none⟩) hz2).trans h43
      have hz3 := hb3.size
      clear hS3 hR1 hR2 hN1 hN2 hb1 hb2 h43
      go_wp2_with fail
      refine (comp_any n m cap eb eo ea x y _ hn hm hea (hE.later hB3)).mono ?_
      rintro e w4 ⟨cb, rfl, hcb, hC4, hb4⟩
      have hA4 := (hA3.later hb4).mono hb4.size
      have hB4 := bCall hB3 hb4
      have hR4 := hR3.later hb4 hR3.lt
      have hN4 := (hN3.mono hz3).later hb4 |>.mono hb4.size
      have h434 := (hb4.cell (p := ⟨w1.heap.size, 43, none⟩) (cell_lt h433)).trans h433
      clear hA3 hB3 hR3 hN3 h433 hE hea hB2 hbr
      go_wp2_with fail
      obtain ⟨rt, HRT⟩ : ∃ rt : Nat → Nat, Hid (∀ c, rt c = root (edge x y n) m n c) := ⟨_, fun _ => rfl⟩
      have hC : Row w4 cb n (VI rt) := hC4.congr fun i _ => by simp only [VI]; rw [HRT.out i]; rfl
      clear hC4
      obtain ⟨lid, HLID⟩ : ∃ lid : Nat → Nat, Hid (lid = lidOf ld n) := ⟨_, rfl⟩
      rw [← HLID.out] at hR4 hN4
      go_loop [11, 12] (fun wt cc => ∃ c : Nat, c ≤ n ∧ cc = .int .i64 c ∧ wt = .int .i64 (cnt (badB (edge x y n) m n lid) c)) (fun _ cc => n - (intOf cc).toNat)
      case atStart => exact ⟨0, Nat.zero_le _, rfl, rfl⟩
      case round =>
        obtain ⟨c, hc, rfl, rfl⟩ := hrel
        have hcb := cnt_bd (badB (edge x y n) m n lid) c
        by_cases hlc : c < n
        · have hcc := hC.cell c hlc
          simp only [VI] at hcc
          have hlc2 := hR4.cell c hlc
          by_cases hrc : rt c = c
          · have hb0 : ((rt c : Int) != (c : Int)) = false := by rw [hrc]; simp
            obtain ⟨q, HQ, hqn⟩ : ∃ q, Hid (lid c = q + 1) ∧ q ≤ n := ⟨ld c % (n + 1), by show lid c = _; rw [HLID.out]; rfl, by have := Nat.mod_lt (ld c) (by omega : 0 < n + 1); omega⟩
            have hq : ((lid c : Nat) : Int) = (q : Int) + 1 := by rw [HQ.out]; omega
            by_cases hqn2 : q < n
            · have hcq := hC.cell q hqn2
              simp only [VI] at hcq
              by_cases hrq : rt q = c
              · have hb3 : ((rt q : Int) == (c : Int)) = true := by rw [hrq]; simp
                have hst : ∀ j, okTo rt lid c true (j + 1) = (okTo rt lid c true j && (!(rt j == c) || lid j == lid c)) := okTo_succ rt lid c true
                go_wp2_with fail
                go_loop [14, 15] (fun ok jj => ∃ j : Nat, j ≤ n ∧ jj = .int .i64 j ∧ ok = .bool (okTo rt lid c true j)) (fun _ jj => n - (intOf jj).toNat)
                case atStart => exact ⟨0, Nat.zero_le _, rfl, by simp [okTo]⟩
                case round =>
                  obtain ⟨j, hj, rfl, rfl⟩ := hrel
                  by_cases hlj : j < n
                  · have hcj := hC.cell j hlj
                    have hlj2 := hR4.cell j hlj
                    simp only [VI] at hcj
                    have HS := hst j
                    have HS' : Hid _ := HS
                    clear HS hst
                    by_cases hrj : rt j = c
                    · have hb1 : ((rt j : Int) == (c : Int)) = true := by rw [hrj]; simp
                      by_cases hlq : lid j = lid c
                      · have hb2 : ((lid j : Int) != (q : Int) + 1) = false := by rw [hlq, hq]; simp
                        go_wp2_with fail
                        go_round
                        case rel => exact ⟨j + 1, by omega, by go_num, by rw [HS'.out]; simp [hlq]⟩
                        case measure => simp [intOf]; omega
                      · have hb2 : ((lid j : Int) != (q : Int) + 1) = true := by rw [← hq, bne_iff_ne]; omega
                        go_wp2_with fail
                        go_round
                        case rel => exact ⟨j + 1, by omega, by go_num, by rw [HS'.out]; simp [hrj, hlq]⟩
                        case measure => simp [intOf]; omega
                    · have hb1 : ((rt j : Int) == (c : Int)) = false := by rw [beq_eq_false_iff_ne]; omega
                      go_wp2_with fail
                      go_round
                      case rel => exact ⟨j + 1, by omega, by go_num, by rw [HS'.out]; simp [hrj]⟩
                      case measure => simp [intOf]; omega
                  · obtain rfl : j = n := by omega
                    clear hst
                    have HK : Hid (okTo rt lid c true j = okB (edge x y j) m j lid c) := by
                      show okTo rt lid c true j = okB (edge x y j) m j lid c
                      rw [okTo, okB, show decide (1 ≤ lid c ∧ lid c ≤ j ∧ root (edge x y j) m j (lid c - 1) = c) = true from by rw [decide_eq_true_eq, HQ.out, Nat.add_sub_cancel, ← HRT.out]; omega]; congr 2; funext i; rw [HRT.out]
                    cases hok : okTo rt lid c true j with
                    | true =>
                      have HB : Hid (badB (edge x y j) m j lid c = false) := by
                        show badB (edge x y j) m j lid c = false
                        rw [badB, ← HK.out, hok, Bool.not_true, Bool.and_false]
                      clear hok HK
                      go_wp2_with fail
                      go_round
                      case rel => exact ⟨c + 1, by omega, by go_num, by rw [cnt, HB.out]; simp [bitI]⟩
                      case measure => simp [intOf]; omega
                    | false =>
                      have HB : Hid (badB (edge x y j) m j lid c = true) := by
                        show badB (edge x y j) m j lid c = true
                        rw [badB, ← HK.out, hok, Bool.not_false, Bool.and_true, ← HRT.out c, beq_iff_eq]
                        exact hrc
                      clear hok HK
                      go_wp2_with fail
                      go_round
                      case rel => exact ⟨c + 1, by omega, by go_num, by rw [cnt, HB.out]; simp [bitI]⟩
                      case measure => simp [intOf]; omega
              · have hb3 : ((rt q : Int) == (c : Int)) = false := by rw [beq_eq_false_iff_ne]; omega
                have hst : ∀ j, okTo rt lid c false (j + 1) = (okTo rt lid c false j && (!(rt j == c) || lid j == lid c)) := okTo_succ rt lid c false
                go_wp2_with fail
                go_loop [14, 15] (fun ok jj => ∃ j : Nat, j ≤ n ∧ jj = .int .i64 j ∧ ok = .bool (okTo rt lid c false j)) (fun _ jj => n - (intOf jj).toNat)
                case atStart => exact ⟨0, Nat.zero_le _, rfl, by simp [okTo]⟩
                case round =>
                  obtain ⟨j, hj, rfl, rfl⟩ := hrel
                  by_cases hlj : j < n
                  · have hcj := hC.cell j hlj
                    have hlj2 := hR4.cell j hlj
                    simp only [VI] at hcj
                    have HS := hst j
                    have HS' : Hid _ := HS
                    clear HS hst
                    by_cases hrj : rt j = c
                    · have hb1 : ((rt j : Int) == (c : Int)) = true := by rw [hrj]; simp
                      by_cases hlq : lid j = lid c
                      · have hb2 : ((lid j : Int) != (q : Int) + 1) = false := by rw [hlq, hq]; simp
                        go_wp2_with fail
                        go_round
                        case rel => exact ⟨j + 1, by omega, by go_num, by rw [HS'.out]; simp [hlq]⟩
                        case measure => simp [intOf]; omega
                      · have hb2 : ((lid j : Int) != (q : Int) + 1) = true := by rw [← hq, bne_iff_ne]; omega
                        go_wp2_with fail
                        go_round
                        case rel => exact ⟨j + 1, by omega, by go_num, by rw [HS'.out]; simp [hrj, hlq]⟩
                        case measure => simp [intOf]; omega
                    · have hb1 : ((rt j : Int) == (c : Int)) = false := by rw [beq_eq_false_iff_ne]; omega
                      go_wp2_with fail
                      go_round
                      case rel => exact ⟨j + 1, by omega, by go_num, by rw [HS'.out]; simp [hrj]⟩
                      case measure => simp [intOf]; omega
                  · obtain rfl : j = n := by omega
                    clear hst
                    have HK : Hid (okTo rt lid c false j = okB (edge x y j) m j lid c) := by
                      show okTo rt lid c false j = okB (edge x y j) m j lid c
                      rw [okTo, okB, show decide (1 ≤ lid c ∧ lid c ≤ j ∧ root (edge x y j) m j (lid c - 1) = c) = false from by rw [decide_eq_false_iff_not, HQ.out, Nat.add_sub_cancel, ← HRT.out]; omega, Bool.false_and, Bool.false_and]
                    cases hok : okTo rt lid c false j with
                    | true =>
                      have HB : Hid (badB (edge x y j) m j lid c = false) := by
                        show badB (edge x y j) m j lid c = false
                        rw [badB, ← HK.out, hok, Bool.not_true, Bool.and_false]
                      clear hok HK
                      go_wp2_with fail
                      go_round
                      case rel => exact ⟨c + 1, by omega, by go_num, by rw [cnt, HB.out]; simp [bitI]⟩
                      case measure => simp [intOf]; omega
                    | false =>
                      have HB : Hid (badB (edge x y j) m j lid c = true) := by
                        show badB (edge x y j) m j lid c = true
                        rw [badB, ← HK.out, hok, Bool.not_false, Bool.and_true, ← HRT.out c, beq_iff_eq]
                        exact hrc
                      clear hok HK
                      go_wp2_with fail
                      go_round
                      case rel => exact ⟨c + 1, by omega, by go_num, by rw [cnt, HB.out]; simp [bitI]⟩
                      case measure => simp [intOf]; omega
            · have hd3 : decide ((q : Int) + 1 ≤ (n : Int)) = false := by simp; omega
              have hst : ∀ j, okTo rt lid c false (j + 1) = (okTo rt lid c false j && (!(rt j == c) || lid j == lid c)) := okTo_succ rt lid c false
              go_wp2_with fail
              go_loop [14, 15] (fun ok jj => ∃ j : Nat, j ≤ n ∧ jj = .int .i64 j ∧ ok = .bool (okTo rt lid c false j)) (fun _ jj => n - (intOf jj).toNat)
              case atStart => exact ⟨0, Nat.zero_le _, rfl, by simp [okTo]⟩
              case round =>
                obtain ⟨j, hj, rfl, rfl⟩ := hrel
                by_cases hlj : j < n
                · have hcj := hC.cell j hlj
                  have hlj2 := hR4.cell j hlj
                  simp only [VI] at hcj
                  have HS := hst j
                  have HS' : Hid _ := HS
                  clear HS hst
                  by_cases hrj : rt j = c
                  · have hb1 : ((rt j : Int) == (c : Int)) = true := by rw [hrj]; simp
                    by_cases hlq : lid j = lid c
                    · have hb2 : ((lid j : Int) != (q : Int) + 1) = false := by rw [hlq, hq]; simp
                      go_wp2_with fail
                      go_round
                      case rel => exact ⟨j + 1, by omega, by go_num, by rw [HS'.out]; simp [hlq]⟩
                      case measure => simp [intOf]; omega
                    · have hb2 : ((lid j : Int) != (q : Int) + 1) = true := by rw [← hq, bne_iff_ne]; omega
                      go_wp2_with fail
                      go_round
                      case rel => exact ⟨j + 1, by omega, by go_num, by rw [HS'.out]; simp [hrj, hlq]⟩
                      case measure => simp [intOf]; omega
                  · have hb1 : ((rt j : Int) == (c : Int)) = false := by rw [beq_eq_false_iff_ne]; omega
                    go_wp2_with fail
                    go_round
                    case rel => exact ⟨j + 1, by omega, by go_num, by rw [HS'.out]; simp [hrj]⟩
                    case measure => simp [intOf]; omega
                · obtain rfl : j = n := by omega
                  clear hst
                  have HK : Hid (okTo rt lid c false j = okB (edge x y j) m j lid c) := by
                    show okTo rt lid c false j = okB (edge x y j) m j lid c
                    rw [okTo, okB, show decide (1 ≤ lid c ∧ lid c ≤ j ∧ root (edge x y j) m j (lid c - 1) = c) = false from by rw [decide_eq_false_iff_not, HQ.out]; omega, Bool.false_and, Bool.false_and]
                  cases hok : okTo rt lid c false j with
                  | true =>
                    have HB : Hid (badB (edge x y j) m j lid c = false) := by
                      show badB (edge x y j) m j lid c = false
                      rw [badB, ← HK.out, hok, Bool.not_true, Bool.and_false]
                    clear hok HK
                    go_wp2_with fail
                    go_round
                    case rel => exact ⟨c + 1, by omega, by go_num, by rw [cnt, HB.out]; simp [bitI]⟩
                    case measure => simp [intOf]; omega
                  | false =>
                    have HB : Hid (badB (edge x y j) m j lid c = true) := by
                      show badB (edge x y j) m j lid c = true
                      rw [badB, ← HK.out, hok, Bool.not_false, Bool.and_true, ← HRT.out c, beq_iff_eq]
                      exact hrc
                    clear hok HK
                    go_wp2_with fail
                    go_round
                    case rel => exact ⟨c + 1, by omega, by go_num, by rw [cnt, HB.out]; simp [bitI]⟩
                    case measure => simp [intOf]; omega
          · have hb0 : ((rt c : Int) != (c : Int)) = true := by rw [bne_iff_ne]; omega
            have HB : Hid (badB (edge x y n) m n lid c = false) := by
              show badB (edge x y n) m n lid c = false
              rw [badB, ← HRT.out c, show (rt c == c) = false from by rw [beq_eq_false_iff_ne]; exact hrc, Bool.false_and]
            go_wp2_with fail
            go_round
            case rel => exact ⟨c + 1, by omega, by go_num, by rw [cnt, HB.out]; simp [bitI]⟩
            case measure => simp [intOf]; omega
        · obtain rfl : c = n := by omega
          go_wp2_with fail
          refine (split_any c m _ _ _ (edge x y c) lid _ hn hm (fun h0 k _ => ⟨Nat.mod_lt _ h0, Nat.mod_lt _ h0⟩) hA4 hN4 h434).mono ?_
          rintro e w5 ⟨rfl, hb5⟩
          go_wp2_with fail
          go_ret
          exact ⟨by simp, bCall hB4 hb5⟩
end Go.Proofs.Ybulknri
