/-
  A function that is tried, where it does not panic.
-/
import Derived.Test.YtiepopbmbgfhkaaGreatB29
import Derived.Defers
import Derived.Recover
namespace Go.Proofs.YtiepopbmbgfhkaaGreat
open Go.RowKit
set_option maxHeartbeats 2000000
set_option maxRecDepth 20000
set_option linter.unusedVariables false
set_option linter.unusedSimpArgs false

theorem idle_c (p : Addr) (w : World) :
    CallsD Tryz.prog 37 #[.pointer (some p)] .returning w fun e u' w' => e = .returned (.tuple #[]) ∧ u' = .returning ∧ w' = w := by
  have q1 : ∀ w, (binOp .neq 20 .nilIface .nilIface).run Tryz.prog w = .ok (.bool false) w := fun w => by kernel_rfl
  refine callsD_of_wpS Tryz.func37 rfl fun c₀ cs hu => ?_
  apply wpS_seq
  apply wpS_region
  simp [wpOpsS, go_sem, recoverD, hu, Tryz.ntmps37, Exit.thenS, q1]
  refine wpS_cond (t := false) (by simp [Act.eval, Array.replicate]) ?_
  simp only [Bool.false_eq_true, if_false]
  refine wpS_of_wp (wp_skip ?_)
  cases c₀
  simp_all [bodyPostS, results, Tryz.results37]

theorem tried_c {caps : Array Value} {w : World} {R : World → Prop} (h : Calls Tryz.prog 20 caps (w.alloc (.cells #[.bool false] 4)) fun e w' => e = .returned (.tuple #[]) ∧ R w') (hok : ∀ w', R w' → Blk w' w.heap.size #[.bool false] 4) :
    Calls Tryz.prog 19 #[.func (.func 20) #[] caps] w fun e w'' => e = .returned (.bool true) ∧ ∃ w', R w' ∧ w'' = w'.setCell ⟨w.heap.size, 0, none⟩ (.bool true) := by
  have hmf : ∀ (fn : Fn) (first cap : Array Value) (w : World), (Instr.makeFunc fn first cap).run Tryz.prog w = .ok (.func fn first cap) w := fun _ _ _ _ => rfl
  go_enter_defers Tryz.func19, Tryz.ntmps19
  go_wp2_with (fail)
  refine h.mono ?_
  rintro e w1 ⟨rfl, hR⟩
  have hB := hok _ hR
  obtain ⟨b0, bf⟩ := hB.c1
  have bl := hB.lt
  go_wp2_with (fail)
  refine leaves_cons (f := 37) (args := #[.pointer (some ⟨w.heap.size, 0, none⟩)]) (by simp) (by simp [go_sem]) ?_
  refine (idle_c ⟨w.heap.size, 0, none⟩ _).mono ?_
  rintro e u' w'' ⟨rfl, rfl, rfl⟩
  have hb2 := (hB.set 0 (.bool true)).c1.1
  have hres : (results Tryz.f19 #[.func (.func 20) #[] caps, undef, .pointer (some ⟨w.heap.size, 0, none⟩), .func (.func 37) #[] #[.pointer (some ⟨w.heap.size, 0, none⟩)], .func (.func 20) #[] caps, .tuple #[]]).run Tryz.prog (w1.setCell ⟨w.heap.size, 0, none⟩ (.bool true)) = .ok (.bool true) (w1.setCell ⟨w.heap.size, 0, none⟩ (.bool true)) := by
    simp [results, Tryz.results19, go_sem, hb2]
  exact ⟨_, hres, rfl, _, hR, rfl⟩
end Go.Proofs.YtiepopbmbgfhkaaGreat
