/- impl.calm at HashedBy's closure. -/
import Derived.Test.YtonndmljendcoaaDoorHashR
import Derived.Defers
import Derived.Recover
import Derived.RegionTactic
import Derived.ChangeAlike
namespace Go.Proofs.YtonndmljendcoaaDoor
open Go.RowKit
set_option linter.unusedVariables false
set_option linter.unusedSimpArgs false
theorem catch_idle (p : Addr) (w : World) :
    CallsD Tryd.prog 32 #[.pointer (some p)] .returning w fun e u' w' => e = .returned (.tuple #[]) ∧ u' = .returning ∧ w' = w := by
  refine callsD_of_wpS Tryd.func32 rfl fun c₀ cs hu => ?_
  apply wpS_seq
  apply wpS_region
  simp [wpOpsS, go_sem, recoverD, hu, Tryd.ntmps32, Exit.thenS]
  refine wpS_cond (t := false) (by simp [Act.eval, Array.replicate]) ?_
  simp only [Bool.false_eq_true, if_false]
  refine wpS_of_wp (wp_skip ?_)
  cases c₀
  simp_all [bodyPostS, results, Tryd.results32]
theorem calm_of (cap : Array Value) (w : World) (R : World → Prop)
    (H : Calls Tryd.prog 16 cap (w.alloc (.cells #[.bool false] 4)) fun e w' => e = .returned (.tuple #[]) ∧ w'.heap[w.heap.size]? = some (.cells #[.bool false] 4 (0, 0)) ∧ R w') :
    Calls Tryd.prog 15 #[.func (.func 16) #[] cap] w fun e w' => e = .returned (.bool true) ∧ ∃ w1, R w1 ∧ w1.heap[w.heap.size]? = some (.cells #[.bool false] 4 (0, 0)) ∧ w' = w1.setCell ⟨w.heap.size, 0, none⟩ (.bool true) := by
  have hmf : ∀ (fn : Fn) (first cap : Array Value) (w : World), (Instr.makeFunc fn first cap).run Tryd.prog w = .ok (.func fn first cap) w := fun _ _ _ _ => rfl
  go_enter_defers Tryd.func15, Tryd.ntmps15
  go_wp2_with fail
  refine H.mono ?_
  rintro e w' ⟨rfl, hb, hR⟩
  have h1 := cell_of_one hb
  have h2 := free_of_one hb
  go_wp2
  have h3 := cell_of_one (one_setCell (u := .bool true) hb)
  refine leaves_cons (f := 32) (args := #[.pointer (some ⟨w.heap.size, 0, none⟩)]) (by simp) (by simp [go_sem]) ?_
  refine (catch_idle ⟨w.heap.size, 0, none⟩ _).mono ?_
  rintro e u' w'' ⟨rfl, rfl, rfl⟩
  simp [Leaves, settle, results, Tryd.results15, go_sem, h3]
  exact ⟨_, hR, hb, rfl⟩
end Go.Proofs.YtonndmljendcoaaDoor
