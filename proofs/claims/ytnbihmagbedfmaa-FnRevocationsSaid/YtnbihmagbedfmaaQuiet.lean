/- Contracts of impl.quietly: a function that does something and hands back true where it does not panic. -/
import Derived.Test.YtnbihmagbedfmaaProg
import Derived.WalkKit
import Derived.Defers
import Derived.Recover
import Derived.OneCell
import Derived.Lib.Hide
namespace Go.Proofs.Ytnbihmagbedfmaa
open Go.RowKit

theorem quiet_idle (p : Addr) (w : World) :
    CallsD Try.prog 43 #[.pointer (some p)] .returning w fun e u' w' => e = .returned (.tuple #[]) ∧ u' = .returning ∧ w' = w := by
  refine callsD_of_wpS Try.func43 rfl fun c₀ cs hu => ?_
  apply wpS_seq
  apply wpS_region
  simp [wpOpsS, go_sem, recoverD, hu, Try.ntmps43, Exit.thenS]
  refine wpS_cond (t := false) (by simp [Act.eval, Array.replicate]) ?_
  simp only [Bool.false_eq_true, if_false]
  refine wpS_of_wp (wp_skip ?_)
  cases c₀
  simp_all [bodyPostS, results, Try.results43]

theorem quiet_any (g : FuncId) (cap : Array Value) (w : World) (Q : World → Prop)
    (hent : ∀ W : World, (callFunc g cap).run Try.prog W = .ok (.enter g cap) W)
    (hg : Calls Try.prog g cap (w.alloc (.cells #[.bool false] 4)) fun e w' => e = .returned (.tuple #[]) ∧ w'.heap[w.heap.size]? = some (.cells #[.bool false] 4 (0, 0)) ∧ Q w') :
    Calls Try.prog 24 #[.func (.func g) #[] cap] w fun e w' => e = .returned (.bool true) ∧ ∃ w1, w1.heap[w.heap.size]? = some (.cells #[.bool false] 4 (0, 0)) ∧ Q w1 ∧ w' = w1.setCell ⟨w.heap.size, 0, none⟩ (.bool true) := by
  have hmf : ∀ (fn : Fn) (first cap : Array Value) (w : World), (Instr.makeFunc fn first cap).run Try.prog w = .ok (.func fn first cap) w := fun _ _ _ _ => rfl
  go_enter_defers Try.func24, Try.ntmps24
  go_wp2_with (with_reducible refine hg.mono ?_; rintro e w1 ⟨rfl, hb, hq⟩; have hc := cell_of_one hb; have hf := free_of_one hb; have HB := Lib.hid hb; clear hb)
  refine leaves_cons (f := 43) (args := #[.pointer (some ⟨w.heap.size, 0, none⟩)]) (by simp) (by simp [go_sem]) ?_
  refine (quiet_idle ⟨w.heap.size, 0, none⟩ _).mono ?_
  rintro e u' w'' ⟨rfl, rfl, rfl⟩
  simp [Leaves, settle, results, Try.results24, go_sem, hc]
  exact ⟨w1, HB.out, hq, rfl⟩
end Go.Proofs.Ytnbihmagbedfmaa
