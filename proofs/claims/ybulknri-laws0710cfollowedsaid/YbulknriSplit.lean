import Derived.Test.YbulknriFind
import Derived.Test.YbulknriClass
namespace Go.Proofs.Ybulknri
open Go.RowKit

theorem own_cut {w : World} {base vcap k : Nat} {va : Option Addr} {xs : List Value} (h : w.ownsRow base 22 1 (.slice va k vcap) k xs) : w.ownsRow base 22 1 (.slice va 0 vcap) 0 [] := by
  refine ⟨rfl, ?_⟩
  rcases h.2 with ⟨hv, hk⟩ | ⟨g, cap, cur, hv, hg, hh, hkc, hcm, hcs, _⟩
  · cases hv; exact Or.inl ⟨rfl, rfl⟩
  · cases hv; exact Or.inr ⟨g, vcap, cur, rfl, hg, hh, Nat.zero_le _, hcm, hcs, rfl⟩

theorem RA.mono {w : World} {B B' ab n : Nat} {L : Nat → List Nat} (h : RA w B ab n L) (hB : B ≤ B') : RA w B' ab n L :=
  ⟨Nat.lt_of_lt_of_le h.low hB, fun x hx => by
    obtain ⟨a, cap, hc, hg⟩ := h.at_ x hx
    refine ⟨a, cap, hc, fun hp => ?_⟩
    obtain ⟨g, e, hgB, hu⟩ := hg hp
    exact ⟨g, e, Nat.lt_of_lt_of_le hgB hB, hu⟩⟩

theorem NA.mono {w : World} {B B' qb n : Nat} {lid : Nat → Nat} (h : NA w B qb n lid) (hB : B ≤ B') : NA w B' qb n lid :=
  ⟨Nat.lt_of_lt_of_le h.low hB, fun x hx => by
    obtain ⟨b, hc, hbB, hl⟩ := h.at_ x hx
    exact ⟨b, hc, Nat.lt_of_lt_of_le hbB hB, hl⟩⟩

set_option maxRecDepth 100000 in
set_option maxHeartbeats 1000000 in
theorem split_any (n m ab qb rb : Nat) (E : Nat → Nat × Nat) (lid : Nat → Nat) (w : World) (hn : n ≤ 256) (hm : m ≤ 1024) (hE0 : 0 < n → ∀ k, k < m → (E k).1 < n ∧ (E k).2 < n) (hA : RA w w.heap.size ab n (nbs E m)) (hN : NA w w.heap.size qb n lid)
    (h43 : w.cell? ⟨rb, 43, none⟩ = some (.slice (some ⟨qb, 0, none⟩) n n)) :
    Calls Yba.prog 16 #[.pointer (some ⟨rb, 0, none⟩), .slice (some ⟨ab, 0, none⟩) n n] w
      fun e w' => e = .returned (.int .i64 (cnt (badB E m n lid) n)) ∧ Below w.heap.size w w' := by
  have hrb := cell_lt h43
  have hmk := make_at (t := 97) (e := 3) 8 n Yba.underlying97 Yba.info3 rfl (by omega) (by omega)
  go_enter Yba.func16, Yba.ntmps16
  go_wp2_with fail
  have hB1 := bAlloc (Below.refl w.heap.size w) (.cells #[.pointer (some ⟨rb, 0, none⟩)] 43)
  have g1 : (w.alloc (.cells #[.pointer (some ⟨rb, 0, none⟩)] 43)).cell? ⟨w.heap.size, 0, none⟩ = some (.pointer (some ⟨rb, 0, none⟩)) := by simp [go_sem]
  have hz1 : (w.alloc (.cells #[.pointer (some ⟨rb, 0, none⟩)] 43)).heap.size = w.heap.size + 1 := by simp
  have hA1 := (hA.later hB1).mono (Nat.le_succ w.heap.size)
  have hN1 := (hN.later hB1).mono (Nat.le_succ w.heap.size)
  have h431 := (hB1.cell (p := ⟨rb, 43, none⟩) hrb).trans h43
  have hR0 := made_row (.int .i64 0) n 3 (w.alloc (.cells #[.pointer (some ⟨rb, 0, none⟩)] 43))
  rw [hz1] at hR0
  have hB2 : Below (w.heap.size + 1) (w.alloc (.cells #[.pointer (some ⟨rb, 0, none⟩)] 43)) ((w.alloc (.cells #[.pointer (some ⟨rb, 0, none⟩)] 43)).alloc (.cells (madeCells #[.int .i64 0] n) 3)) := (Below.refl _ _).alloc (by rw [hz1]; exact Nat.le_refl _) _
  generalize (w.alloc (.cells #[.pointer (some ⟨rb, 0, none⟩)] 43)).alloc (.cells (madeCells #[.int .i64 0] n) 3) = W2 at *
  generalize w.alloc (.cells #[.pointer (some ⟨rb, 0, none⟩)] 43) = W1 at *
  have HZ : Hid (W1.heap.size = w.heap.size + 1) := hz1
  clear hz1 hmk hA hN h43
  go_loopw [20] (fun i wr => ∃ k : Nat, k ≤ n ∧ i = .int .i64 k ∧ Row wr (w.heap.size + 1) n (HV fun x => if x < k then -1 else 0) ∧ Below (w.heap.size + 1) W1 wr) (fun i _ => n - (intOf i).toNat)
  case atStart => exact ⟨0, Nat.zero_le _, rfl, hR0.congr (fun i _ => by simp [HV]), hB2⟩
  case round =>
    obtain ⟨k, hk, rfl, hR, hbr⟩ := hrel
    clear hR0 hB2
    by_cases hlt : k < n
    · have hc := hR.cell k hlt
      have hf := hR.free k
      go_wp2_with fail
      refine ⟨⟨k + 1, by omega, by go_num, (hR.set k hlt _).congr (fun i _ => ?_), hbr.setCell (Nat.le_refl _) _⟩, by simp [intOf]; omega⟩
      simp only [HV]
      by_cases hik : i = k
      · subst hik; simp
      · rw [if_neg hik]
        by_cases h : i < k
        · rw [if_pos h, if_pos (by omega)]
        · rw [if_neg h, if_neg (by omega)]
    · have hR1 : Row wr (w.heap.size + 1) n (HV fun _ => -1) := hR.congr (fun i hi => by simp only [HV]; rw [if_pos (by omega)])
      clear hR
      have g1' := (hbr.cell (p := ⟨w.heap.size, 0, none⟩) (Nat.lt_succ_self _)).trans g1
      have h43' := (hbr.cell (p := ⟨rb, 43, none⟩) (Nat.lt_succ_of_lt hrb)).trans h431
      obtain ⟨wo, rfl⟩ : ∃ wo : World, wo = wr := ⟨_, rfl⟩
      go_wp2_with fail
      clear g1' h43'
      go_loopw [4, 7, 32] (fun sp v ii wr => ∃ (i kl vcap : Nat) (va : Option Addr) (xs : List Value) (H : Nat → Int), i ≤ n ∧ ii = .int .i64 i ∧ sp = .int .i64 (cnt (badB E m n lid) i) ∧ v = .slice va kl vcap ∧ wr.ownsRow (w.heap.size + 1 + 1) 22 1 (.slice va kl vcap) kl xs ∧
          Hid (∀ x, x < n → (0 ≤ H x ↔ root E m n x < i)) ∧ Row wr (w.heap.size + 1) n (HV H) ∧ Below (w.heap.size + 1) W1 wr) (fun _ _ ii _ => n - (intOf ii).toNat)
      case atStart => exact ⟨0, 0, 0, none, [], _, Nat.zero_le _, rfl, rfl, rfl, World.ownsRow_nil _ _ _ _, fun x _ => ⟨fun h => absurd h (by decide), fun h => absurd h (Nat.not_lt_zero _)⟩, hR1, hbr⟩
      case round =>
        obtain ⟨i, kl, vcap, va, xs, H, hi, rfl, rfl, rfl, hown, hH, hRr, hbi⟩ := hrel
        clear hR1 hbr
        have hcb := cnt_bd (badB E m n lid) i
        by_cases hli : i < n
        · have hE := hE0 (by omega)
          obtain ⟨nb, hnc, hnb, hnl⟩ := (hN1.later hbi).at_ i hli
          have hci := hRr.cell i hli
          simp only [HV] at hci
          by_cases hv : 0 ≤ H i
          · obtain ⟨hm1, hm2⟩ := marks_skip (lid := lid) hE hH.out hli hv
            go_wp2_with fail
            exact ⟨⟨i + 1, kl, vcap, va, xs, H, by omega, by go_num, by rw [cnt, hm2]; simp [bitI], rfl, hown, hm1, hRr, hbi⟩, by simp [intOf]; omega⟩
          · go_wp2_with fail
            refine (reach_any n ab (w.heap.size + 1) i vcap va (nbs E m) H _ hn hli (hA1.later hbi) (fun x _ y hy => nbs_lt hE hy) (fun x => by have := nbs_len E m x; omega) hRr (by omega) (own_cut hown)).mono ?_
            rintro e w1 ⟨H', R, g, cap, rfl, hI, hR', hown', hb'⟩
            have hbi' := hbi.trans hb'
            have hnl1 := (hb'.cell (p := ⟨nb, 5, none⟩) hnb).trans hnl
            clear hnl hnc hci hRr hown hbi hb'
            have hRn := hI.le
            have hRl : ∀ x, x ∈ R → x < n := fun x hx => (hI.new x hx).1
            have hcells := fun p x hp => own_id hown' p x hp
            have HL : Hid (w.heap.size + 1 < w1.heap.size) := hR'.lt
            have hbl := bAlloc (Below.refl w1.heap.size w1) (.cells #[.int .u64 (lid i : Nat)] 22)
            have hbb := hbi'.trans (hbl.mono (Nat.le_of_lt HL.out))
            have hgl : g < w1.heap.size := (hown'.lt g rfl).2
            have hN3 := hN1.later hbb
            have g13 := (hbb.cell (p := ⟨w.heap.size, 0, none⟩) (Nat.lt_succ_self _)).trans g1
            have h433 := (hbb.cell (p := ⟨rb, 43, none⟩) (Nat.lt_succ_of_lt hrb)).trans h431
            have hl3 : (w1.alloc (.cells #[.int .u64 (lid i : Nat)] 22)).cell? ⟨w1.heap.size, 0, none⟩ = some (.int .u64 (lid i : Nat)) := by simp [go_sem]
            have HC3 : Hid (∀ (p x : Nat), R[p]? = some x → (w1.alloc (.cells #[.int .u64 (lid i : Nat)] 22)).cell? ⟨g, p, none⟩ = some (.int .u64 ((x : Int) + 1))) := fun p x hp => (hbl.cell (p := ⟨g, p, none⟩) hgl).trans (hcells p x hp)
            have hR3 := hR'.alloc (.cells #[.int .u64 (lid i : Nat)] 22)
            have hown3 := hown'.alloc (.cells #[.int .u64 (lid i : Nat)] 22)
            clear hcells hR' hown' hbi' hbl
            go_wp2_with (first | (go_at_call 31; refine (leader_any nb _ _ hnl1).mono ?_; rintro e w' ⟨rfl, rfl⟩))
            have HB : Hid (badB E m n lid i = (!inB R (lid i) || othB R lid (lid i))) := bad_of hE hH.out hli (by omega) hI (Nat.le_refl _) (inB_iff _ _) (othB_iff _ _ _)
            have HM : Hid (∀ x, x < n → (0 ≤ H' x ↔ root E m n x < i + 1)) := marks_next hE hH.out hli (by omega) hI (Nat.le_refl _)
            clear hH hI
            refine (contains_id g cap R (lid i) _ (by omega) HC3.out).mono ?_
            rintro e w4 ⟨rfl, rfl⟩
            cases hin : inB R (lid i) with
            | false =>
              have HB2 : Hid (badB E m n lid i = true) := by rw [hin] at HB; exact HB
              clear HB hin
              go_wp2_with fail
              exact ⟨⟨i + 1, R.length, cap, _, _, H', by omega, by go_num, by rw [cnt, HB2.out]; simp [bitI], rfl, hown3, HM, hR3, hbb⟩, by simp [intOf]; omega⟩
            | true =>
              go_wp2_with fail
              refine (containsf_id n (w.heap.size + 1) qb rb w.heap.size _ g cap R (lid i) lid _ hn (by omega) hRl HC3.out hN3 g13 h433 hl3).mono ?_
              rintro e w5 ⟨rfl, q, rfl⟩
              cases hot : othB R lid (lid i) with
              | true =>
                have HB2 : Hid (badB E m n lid i = true) := by rw [hin, hot] at HB; exact HB
                clear HB hin hot
                go_wp2_with fail
                exact ⟨⟨i + 1, R.length, cap, _, _, H', by omega, by go_num, by rw [cnt, HB2.out]; simp [bitI], rfl, hown3, HM, ⟨hR3.cell, hR3.free, hR3.lt⟩, below_drewN hbb _⟩, by simp [intOf]; omega⟩
              | false =>
                have HB2 : Hid (badB E m n lid i = false) := by rw [hin, hot] at HB; exact HB
                clear HB hin hot
                go_wp2_with fail
                exact ⟨⟨i + 1, R.length, cap, _, _, H', by omega, by go_num, by rw [cnt, HB2.out]; simp [bitI], rfl, hown3, HM, ⟨hR3.cell, hR3.free, hR3.lt⟩, below_drewN hbb _⟩, by simp [intOf]; omega⟩
        · obtain rfl : i = n := by omega
          go_wp2_with fail
          go_ret
          exact ⟨rfl, hB1.trans (hbi.mono (by omega))⟩
end Go.Proofs.Ybulknri
