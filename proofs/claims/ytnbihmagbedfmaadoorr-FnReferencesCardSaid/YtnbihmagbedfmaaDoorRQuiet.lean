/- Contracts of impl.quietly: a function that does something and hands back true where it does not panic. -/
import Derived.Test.YtnbihmagbedfmaaDoorRProg
import Derived.WalkKit
import Derived.Defers
import Derived.Recover
import Derived.OneCell
import Derived.Lib.Hide
namespace Go.Proofs.YtnbihmagbedfmaaDoorR
open Go.RowKit

theorem quiet_idle (p : Addr) (w : World) :
    CallsD Tryd.prog 45 #[.pointer (some p)] .returning w fun e u' w' => e = .returned (.tuple #[]) ∧ u' = .returning ∧ w' = w := by
  refine callsD_of_wpS Tryd.func45 rfl fun c₀ cs hu => ?_
  apply wpS_seq
  apply wpS_region
  simp [wpOpsS, go_sem, recoverD, hu, Tryd.ntmps45, Exit.thenS]
  refine wpS_cond (t := false) (by simp [Act.eval, Array.replicate]) ?_
  simp only [Bool.false_eq_true, if_false]
  refine wpS_of_wp (wp_skip ?_)
  cases c₀
  simp_all [bodyPostS, results, Tryd.results45]

theorem quiet_any (g : FuncId) (cap : Array Value) (w : World) (Q : World → Prop)
    (hent : ∀ W : World, (callFunc g cap).run Tryd.prog W = .ok (.enter g cap) W)
    (hg : Calls Tryd.prog g cap (w.alloc (.cells #[.bool false] 4)) fun e w' => e = .returned (.tuple #[]) ∧ w'.heap[w.heap.size]? = some (.cells #[.bool false] 4 (0, 0)) ∧ Q w') :
    Calls Tryd.prog 26 #[.func (.func g) #[] cap] w fun e w' => e = .returned (.bool true) ∧ ∃ w1, w1.heap[w.heap.size]? = some (.cells #[.bool false] 4 (0, 0)) ∧ Q w1 ∧ w' = w1.setCell ⟨w.heap.size, 0, none⟩ (.bool true) := by
  have hmf : ∀ (fn : Fn) (first cap : Array Value) (w : World), (Instr.makeFunc fn first cap).run Tryd.prog w = .ok (.func fn first cap) w := fun _ _ _ _ => rfl
  go_enter_defers Tryd.func26, Tryd.ntmps26
  go_wp2_with (with_reducible refine hg.mono ?_; rintro e w1 ⟨rfl, hb, hq⟩; have hc := cell_of_one hb; have hf := free_of_one hb; have HB := Lib.hid hb; clear hb)
  refine leaves_cons (f := 45) (args := #[.pointer (some ⟨w.heap.size, 0, none⟩)]) (by simp) (by simp [go_sem]) ?_
  refine (quiet_idle ⟨w.heap.size, 0, none⟩ _).mono ?_
  rintro e u' w'' ⟨rfl, rfl, rfl⟩
  simp [Leaves, settle, results, Tryd.results26, go_sem, hc]
  exact ⟨w1, HB.out, hq, rfl⟩
end Go.Proofs.YtnbihmagbedfmaaDoorR
