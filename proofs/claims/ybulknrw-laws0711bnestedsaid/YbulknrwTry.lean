import Derived.Test.YbulknrwRows
import Derived.WalkKit
import Derived.WalkSpells
import Derived.WalkLawsBesides
import Derived.Deep.QuietTactic
import Derived.BigQuiet
import Derived.Defers
import Derived.Recover
import Derived.Deep.AppendLies
namespace Go.Proofs.Ybulknrw
open Go.RowKit

theorem bail_eq (w : World) : (binOp .neq 20 (.iface 43 (.agg #[])) (.iface 43 (.agg #[]))).run Yba.prog w = .ok (.bool false) w := by kernel_rfl

theorem catch_idle (p : Addr) (w : World) (hc : w.cell? p = some (.bool true)) :
    CallsD Yba.prog 14 #[.pointer (some p)] .returning w fun e u' w' => e = .returned (.tuple #[]) ∧ u' = .returning ∧ w' = w := by
  refine callsD_of_wpS Yba.func14 rfl fun c₀ cs hu => ?_
  apply wpS_seq
  apply wpS_seq
  apply wpS_region
  simp [wpOpsS, go_sem, hc, Yba.ntmps14, Exit.thenS]
  refine wpS_cond (t := true) (by simp [Act.eval, Array.replicate]) ?_
  simp only [if_true]
  refine wpS_of_wp (wp_ret ?_)
  cases c₀
  simp_all [Exit.thenS, bodyPostS, results, Yba.results14]

theorem catch_bail (p : Addr) (w : World) (hc : w.cell? p = some (.bool false)) (older : List PanicEntry) :
    CallsD Yba.prog 14 #[.pointer (some p)] (.panicking ({ v := .iface 43 (.agg #[]), recovered := false } :: older)) w fun e u' w' =>
      e = .returned (.tuple #[]) ∧ u' = .panicking ({ v := .iface 43 (.agg #[]), recovered := true } :: older) ∧ w' = w := by
  have hb := bail_eq
  refine callsD_of_wpS Yba.func14 rfl fun c₀ cs hu => ?_
  apply wpS_seq
  apply wpS_seq
  apply wpS_region
  simp [wpOpsS, go_sem, hc, Yba.ntmps14, Exit.thenS]
  refine wpS_cond (t := false) (by simp [Act.eval, Array.replicate]) ?_
  simp only [Bool.false_eq_true, if_false]
  refine wpS_of_wp (wp_skip ?_)
  apply wpS_seq
  apply wpS_region
  simp [wpOpsS, go_sem, recoverD, hu, Exit.thenS]
  apply wpS_seq
  apply wpS_region
  simp [wpOpsS, go_sem, hb, Exit.thenS]
  refine wpS_cond (t := false) (by simp [Act.eval, Array.replicate]) ?_
  simp only [Bool.false_eq_true, if_false]
  refine wpS_of_wp (wp_skip ?_)
  simp [bodyPostS, results, Yba.results14]

/-- What the deferred function's contract wants of the function that is called. -/
theorem completes_ret (F : FuncId) (caps : Array Value) (w : World) (R : World → Prop) (hcf : ∀ W, (callFunc F caps).run Yba.prog W = .ok (.enter F caps) W)
    (h : Calls Yba.prog F caps (w.alloc (.cells #[.bool false] 4)) fun e w' => e = .returned (.tuple #[]) ∧ (w'.cell? ⟨w.heap.size, 0, none⟩ = some (.bool false) ∧ w'.frozen? ⟨w.heap.size, 0, none⟩ = false) ∧ R (w'.setCell ⟨w.heap.size, 0, none⟩ (.bool true))) :
    Calls Yba.prog 13 #[.func (.func F) #[] caps] w fun e w' => e = .returned (.bool true) ∧ R w' := by
  have hmf : ∀ (fn : Fn) (first cap : Array Value) (w : World), (Instr.makeFunc fn first cap).run Yba.prog w = .ok (.func fn first cap) w := fun _ _ _ _ => rfl
  go_enter_defers Yba.func13, Yba.ntmps13
  have H : Hid _ := h
  clear h
  go_wp2_with fail
  refine Calls.mono H.out ?_
  rintro e w1 ⟨rfl, ⟨hc, hf⟩, hR⟩
  have HR : Hid _ := hR
  clear hR H
  go_wp2_with fail
  refine leaves_cons (f := 14) (args := #[.pointer (some ⟨w.heap.size, 0, none⟩)]) (by simp) (by simp [go_sem]) ?_
  refine (catch_idle ⟨w.heap.size, 0, none⟩ _ ?_).mono ?_
  · simp [go_sem, hc]
  rintro e u' w'' ⟨rfl, rfl, rfl⟩
  simp [Leaves, settle, results, Yba.results13, go_sem, hc]
  exact HR.out

theorem completes_bail (F : FuncId) (caps : Array Value) (w : World) (R : World → Prop) (hcf : ∀ W, (callFunc F caps).run Yba.prog W = .ok (.enter F caps) W)
    (h : Calls Yba.prog F caps (w.alloc (.cells #[.bool false] 4)) fun e w' => e = .panicked [{ v := .iface 43 (.agg #[]), recovered := false }] ∧ w'.cell? ⟨w.heap.size, 0, none⟩ = some (.bool false) ∧ R w') :
    Calls Yba.prog 13 #[.func (.func F) #[] caps] w fun e w' => e = .returned (.bool false) ∧ R w' := by
  have hmf : ∀ (fn : Fn) (first cap : Array Value) (w : World), (Instr.makeFunc fn first cap).run Yba.prog w = .ok (.func fn first cap) w := fun _ _ _ _ => rfl
  go_enter_defers Yba.func13, Yba.ntmps13
  have H : Hid _ := h
  clear h
  go_wp2_with fail
  refine Calls.mono H.out ?_
  rintro e w1 ⟨rfl, hc, hR⟩
  have HR : Hid _ := hR
  clear hR H
  refine leaves_cons (f := 14) (args := #[.pointer (some ⟨w.heap.size, 0, none⟩)]) (by simp) (by simp [go_sem]) ?_
  refine (catch_bail ⟨w.heap.size, 0, none⟩ _ hc []).mono ?_
  rintro e u' w'' ⟨rfl, rfl, rfl⟩
  simp [Leaves, settle, results, Yba.results13, go_sem, hc]
  exact HR.out

end Go.Proofs.Ybulknrw
