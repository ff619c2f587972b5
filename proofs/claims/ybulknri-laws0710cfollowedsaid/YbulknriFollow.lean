import Derived.Test.YbulknriCount
namespace Go.Proofs.Ybulknri
open Go.RowKit

theorem cnt_none (f : Nat → Bool) (n : Nat) (h : ∀ c, c < n → f c = false) : cnt f n = 0 := by
  induction n with
  | zero => rfl
  | succ n ih => rw [cnt, ih fun c hc => h c (by omega), h n (by omega)]; rfl

theorem cnt_one (f : Nat → Bool) (n c0 : Nat) (hc : c0 < n) (h0 : f c0 = true) (h : ∀ c, c < n → c ≠ c0 → f c = false) : cnt f n = 1 := by
  induction n with
  | zero => omega
  | succ n ih =>
    rw [cnt]
    by_cases hn : c0 = n
    · subst hn
      rw [cnt_none f c0 fun c hc => h c (by omega) (by omega), h0]; rfl
    · rw [ih (by omega) fun c hc hne => h c (by omega) hne, h n (by omega) (by omega)]; rfl

section
variable {E : Nat → Nat × Nat} {m n : Nat}

theorem good_all (c : Nat) (hc : c < n) : badB E m n (fun i => root E m n i + 1) c = false := by
  unfold badB
  cases hr : root E m n c == c with
  | false => rfl
  | true =>
    have hr' : root E m n c = c := by simpa using hr
    have : okB E m n (fun i => root E m n i + 1) c = true := by
      rw [okB_iff]
      refine ⟨⟨by omega, by omega, ?_⟩, fun j _ hj => by rw [hj, hr']⟩
      rw [Nat.add_sub_cancel, hr', hr']
    rw [this]; rfl

theorem bad_one (hE : ∀ k, k < m → (E k).1 < n ∧ (E k).2 < n) (p : Nat) (hp : p < n) : cnt (badB E m n (fun i => if i = p then n + 1 else root E m n i + 1)) n = 1 := by
  have hle : root E m n p ≤ p := Graph.comps_le E m n p
  have hid : root E m n (root E m n p) = root E m n p := Graph.comps_idem E m n hE p
  refine cnt_one _ n (root E m n p) (by omega) ?_ ?_
  · unfold badB
    rw [show (root E m n (root E m n p) == root E m n p) = true from by rw [beq_iff_eq]; exact hid, Bool.true_and]
    have : ¬ okB E m n (fun i => if i = p then n + 1 else root E m n i + 1) (root E m n p) = true := by
      rw [okB_iff]
      rintro ⟨⟨_, h2, _⟩, h3⟩
      have h4 := h3 p hp rfl
      by_cases hrp : root E m n p = p
      · simp only [hrp, if_true] at h2; omega
      · simp only [if_true, if_neg hrp] at h4
        rw [hid] at h4
        omega
    rw [Bool.not_eq_true] at this
    rw [this]; rfl
  · intro c hc hne
    unfold badB
    cases hr : root E m n c == c with
    | false => rfl
    | true =>
      have hr' : root E m n c = c := by simpa using hr
      have hcp : c ≠ p := fun e => hne (by rw [← e, hr'])
      have : okB E m n (fun i => if i = p then n + 1 else root E m n i + 1) c = true := by
        rw [okB_iff]
        simp only [if_neg hcp, hr']
        refine ⟨⟨by omega, by omega, by rw [Nat.add_sub_cancel, hr']⟩, fun j _ hj => ?_⟩
        have hjp : j ≠ p := fun e => hne (by rw [← hj, e])
        rw [if_neg hjp, hj]
      rw [this]; rfl

end

set_option maxRecDepth 100000 in
set_option maxHeartbeats 1000000 in
theorem law7_long (nn pk : Int) (bad : Bool) (ea : Option Addr) (m cap : Nat) (w : World) (hm : m ≤ maxLen) (h : 1024 < m) :
    Calls Yba.prog 7 #[.int .u8 nn, .int .u8 pk, .bool bad, .slice ea m cap] w fun e w' => e = .returned (.bool true) ∧ Below w.heap.size w w' := by
  unfold maxLen at hm
  go_enter Yba.func7, Yba.ntmps7
  go_wp2_with fail
  go_ret
  exact ⟨rfl, Below.refl _ _⟩

set_option maxRecDepth 100000 in
set_option maxHeartbeats 1000000 in
theorem law7_any (nn pk m cap eb eo : Nat) (bad : Bool) (ea : Option Addr) (x y : Nat → Nat) (w : World) (hnn : nn < 256) (hpk : pk < 256) (hm : m ≤ 1024) (hea : 0 < m → ea = some ⟨eb, eo, none⟩) (hE : HasEdges w eb eo m x y) :
    Calls Yba.prog 7 #[.int .u8 (nn : Int), .int .u8 (pk : Int), .bool bad, .slice ea m cap] w fun e w' => e = .returned (.bool true) ∧ Below w.heap.size w w' := by
  have hd2 : decide (1024 < (m : Int)) = false := by simp; omega
  obtain ⟨n, hn, hn64⟩ : ∃ n : Nat, (nn : Int) % 65 = (n : Int) ∧ n ≤ 64 := ⟨nn % 65, by omega, by omega⟩
  have hmk := make_at (t := 42) (e := 22) 8 n Yba.underlying42 Yba.info22 rfl (by omega) (by omega)
  go_enter Yba.func7, Yba.ntmps7
  go_wp2_with fail
  refine (comp_any n m cap eb eo ea x y _ (by omega) hm hea hE).mono ?_
  rintro e w1 ⟨cb, rfl, hcb, hC1, hb1⟩
  go_wp2_with fail
  have hR0 := made_row (.int .u64 0) n 22 w1
  have hB0 := bAlloc (Below.refl w1.heap.size w1) (.cells (madeCells #[.int .u64 0] n) 22)
  generalize w1.alloc (.cells (madeCells #[.int .u64 0] n) 22) = W0 at *
  clear hmk
  obtain ⟨rt, HRT⟩ : ∃ rt : Nat → Nat, Hid (∀ c, rt c = root (edge x y n) m n c) := ⟨_, fun _ => rfl⟩
  have hC : Row w1 cb n (VI rt) := hC1.congr fun i _ => by simp only [VI]; rw [HRT.out i]; rfl
  clear hC1
  go_loopw [12] (fun i wr => ∃ k : Nat, k ≤ n ∧ i = .int .i64 k ∧ Row wr w1.heap.size n (fun j => .int .u64 ((if j < k then rt j + 1 else 0 : Nat) : Int)) ∧ Below w1.heap.size w1 wr) (fun i _ => n - (intOf i).toNat)
  case atStart => exact ⟨0, Nat.zero_le _, rfl, hR0.congr (fun i _ => by simp), hB0⟩
  case round =>
    obtain ⟨k, hk, rfl, hR, hbr⟩ := hrel
    clear hR0 hB0
    by_cases hlt : k < n
    · have hck := (hC.later hbr hC.lt).cell k hlt
      simp only [VI] at hck
      have hrk : rt k ≤ k := by rw [HRT.out]; exact Graph.comps_le _ _ _ _
      obtain ⟨v1, hc⟩ : ∃ v, wr.cell? ⟨w1.heap.size, k, none⟩ = some v := ⟨_, hR.cell k hlt⟩
      have hf := hR.free k
      go_wp2_with fail
      refine ⟨⟨k + 1, by omega, by go_num, (hR.set k hlt _).congr (fun i _ => ?_), hbr.setCell (Nat.le_refl _) _⟩, by simp [intOf]; omega⟩
      by_cases hik : i = k
      · subst hik; rw [if_pos rfl, if_pos (by omega)]; go_num
      · rw [if_neg hik]
        by_cases h : i < k
        · rw [if_pos h, if_pos (by omega)]
        · rw [if_neg h, if_neg (by omega)]
    · have hR0' : Row wr w1.heap.size n (fun j => .int .u64 ((rt j + 1 : Nat) : Int)) := hR.congr (fun i hi => by rw [if_pos (by omega)])
      clear hR
      obtain ⟨wo, rfl⟩ : ∃ wo : World, wo = wr := ⟨_, rfl⟩
      by_cases hbad : bad = true ∧ 0 < n
      · obtain ⟨rfl, hn0⟩ := hbad
        obtain ⟨p, hp, HP⟩ : ∃ p : Nat, (pk : Int) % (n : Int) = (p : Int) ∧ Hid (p = pk % n) := ⟨pk % n, by omega, rfl⟩
        have hpn : p < n := by rw [HP.out]; exact Nat.mod_lt _ hn0
        have hn0' : ¬ n = 0 := by omega
        have HCNT : Hid (cnt (badB (edge x y n) m n (fun i => if i = p then n + 1 else rt i + 1)) n = 1) := by
          show cnt (badB (edge x y n) m n (fun i => if i = p then n + 1 else rt i + 1)) n = 1
          rw [show (fun i => if i = p then n + 1 else rt i + 1) = (fun i => if i = p then n + 1 else root (edge x y n) m n i + 1) from funext fun i => by rw [HRT.out]]
          exact bad_one (fun k _ => ⟨Nat.mod_lt _ hn0, Nat.mod_lt _ hn0⟩) p hpn
        obtain ⟨v1, hc⟩ : ∃ v, wo.cell? ⟨w1.heap.size, p, none⟩ = some v := ⟨_, hR0'.cell p hpn⟩
        have hf := hR0'.free p
        have hR1 : Row (wo.setCell ⟨w1.heap.size, p, none⟩ (.int .u64 ((n : Int) + 1))) w1.heap.size n (fun j => .int .u64 (((fun i => if i = p then n + 1 else rt i + 1) j : Nat) : Int)) := (hR0'.set p hpn _).congr fun i _ => by
          by_cases hip : i = p
          · simp only [if_pos hip]; go_num
          · simp only [if_neg hip]
        have hbs : Below w1.heap.size w1 (wo.setCell ⟨w1.heap.size, p, none⟩ (.int .u64 ((n : Int) + 1))) := hbr.setCell (Nat.le_refl _) _
        have hzs : (wo.setCell ⟨w1.heap.size, p, none⟩ (.int .u64 ((n : Int) + 1))).heap.size = wo.heap.size := by simp
        go_wp2_with fail
        generalize wo.setCell ⟨w1.heap.size, p, none⟩ (.int .u64 ((n : Int) + 1)) = WX at *
        clear hzs
        refine (nodes_any n w1.heap.size (fun i => if i = p then n + 1 else rt i + 1) _ (by omega) hR1).mono ?_
        rintro e w2 ⟨rfl, hN2, hb2⟩
        go_wp2_with fail
        refine calls_alloc (v := .slice (some ⟨WX.heap.size, 0, none⟩) n n) (by simp [go_sem]) ?_
        intro W2 h43 hbx hz2
        have hB2 : Below w.heap.size w W2 := bCall (bCall (bCall hb1 hbs) hb2) hbx
        have hN3 := hN2.later hbx
        refine (adj_any n m cap eb eo ea x y _ (by omega) hm hea (hE.later hB2)).mono ?_
        rintro e w3 ⟨V, rfl, hS3, hb3⟩
        have hA3 := hS3.ra
        have hB3 := bCall hB2 hb3
        have hN4 := ((hN3.mono (Nat.le_of_lt hz2)).later hb3).mono hb3.size
        have h433 := (hb3.cell (p := ⟨w2.heap.size, 43, none⟩) hz2).trans h43
        clear hS3 hN2 hN3 hb2 hbx h43
        go_wp2_with fail
        refine (split_any n m _ _ _ (edge x y n) (fun i => if i = p then n + 1 else rt i + 1) _ (by omega) hm (fun h0 k _ => ⟨Nat.mod_lt _ h0, Nat.mod_lt _ h0⟩) hA3 hN4 h433).mono ?_
        rintro e w5 ⟨rfl, hb5⟩
        rw [HCNT.out]
        go_wp2_with fail
        go_ret
        exact ⟨rfl, bCall hB3 hb5⟩
      · have HCNT : Hid (cnt (badB (edge x y n) m n (fun i => rt i + 1)) n = 0) := by
          show cnt (badB (edge x y n) m n (fun i => rt i + 1)) n = 0
          rw [show (fun i => rt i + 1) = (fun i => root (edge x y n) m n i + 1) from funext fun i => by rw [HRT.out]]
          exact cnt_none _ n fun c hc => good_all c hc
        have hR1 := hR0'
        have hbs := hbr
        cases bad with
        | false =>
          go_wp2_with fail
          refine (nodes_any n w1.heap.size (fun i => rt i + 1) _ (by omega) hR1).mono ?_
          rintro e w2 ⟨rfl, hN2, hb2⟩
          go_wp2_with fail
          refine calls_alloc (v := .slice (some ⟨wo.heap.size, 0, none⟩) n n) (by simp [go_sem]) ?_
          intro W2 h43 hbx hz2
          have hB2 : Below w.heap.size w W2 := bCall (bCall (bCall hb1 hbs) hb2) hbx
          have hN3 := hN2.later hbx
          refine (adj_any n m cap eb eo ea x y _ (by omega) hm hea (hE.later hB2)).mono ?_
          rintro e w3 ⟨V, rfl, hS3, hb3⟩
          have hA3 := hS3.ra
          have hB3 := bCall hB2 hb3
          have hN4 := ((hN3.mono (Nat.le_of_lt hz2)).later hb3).mono hb3.size
          have h433 := (hb3.cell (p := ⟨w2.heap.size, 43, none⟩) hz2).trans h43
          clear hS3 hN2 hN3 hb2 hbx h43
          go_wp2_with fail
          refine (split_any n m _ _ _ (edge x y n) (fun i => rt i + 1) _ (by omega) hm (fun h0 k _ => ⟨Nat.mod_lt _ h0, Nat.mod_lt _ h0⟩) hA3 hN4 h433).mono ?_
          rintro e w5 ⟨rfl, hb5⟩
          rw [HCNT.out]
          go_wp2_with fail
          go_ret
          exact ⟨rfl, bCall hB3 hb5⟩
        | true =>
          have hdn0 : n ≤ 0 := Nat.le_of_not_lt fun h => hbad ⟨rfl, h⟩
          have hdn : decide (0 < n) = false := by simp; omega
          clear hbad
          go_wp2_with fail
          refine (nodes_any n w1.heap.size (fun i => rt i + 1) _ (by omega) hR1).mono ?_
          rintro e w2 ⟨rfl, hN2, hb2⟩
          go_wp2_with fail
          refine calls_alloc (v := .slice (some ⟨wo.heap.size, 0, none⟩) n n) (by simp [go_sem]) ?_
          intro W2 h43 hbx hz2
          have hB2 : Below w.heap.size w W2 := bCall (bCall (bCall hb1 hbs) hb2) hbx
          have hN3 := hN2.later hbx
          refine (adj_any n m cap eb eo ea x y _ (by omega) hm hea (hE.later hB2)).mono ?_
          rintro e w3 ⟨V, rfl, hS3, hb3⟩
          have hA3 := hS3.ra
          have hB3 := bCall hB2 hb3
          have hN4 := ((hN3.mono (Nat.le_of_lt hz2)).later hb3).mono hb3.size
          have h433 := (hb3.cell (p := ⟨w2.heap.size, 43, none⟩) hz2).trans h43
          clear hS3 hN2 hN3 hb2 hbx h43
          go_wp2_with fail
          refine (split_any n m _ _ _ (edge x y n) (fun i => rt i + 1) _ (by omega) hm (fun h0 k _ => ⟨Nat.mod_lt _ h0, Nat.mod_lt _ h0⟩) hA3 hN4 h433).mono ?_
          rintro e w5 ⟨rfl, hb5⟩
          rw [HCNT.out]
          go_wp2_with fail
          go_ret
          exact ⟨rfl, bCall hB3 hb5⟩
end Go.Proofs.Ybulknri
