/- What has turned since a call began, carried from call to call. -/
import Derived.WalkKit
import Derived.Deep.Draws
namespace Go.Proofs.Ytnbihmagbedfmaa
open Go.RowKit

/-- Of what was there in w0 nothing has turned. -/
structure Acc (w0 w : World) : Prop where
  out : Below w0.heap.size w0 w
theorem Acc.refl (w : World) : Acc w w := ⟨Below.refl _ _⟩
theorem Acc.step {w0 w1 w2 : World} (h : Acc w0 w1) (k : Below w1.heap.size w1 w2) : Acc w0 w2 := ⟨h.out.trans (k.mono h.out.size)⟩
theorem Acc.alloc {w0 w1 : World} (h : Acc w0 w1) (o : Obj) : Acc w0 (w1.alloc o) := ⟨h.out.alloc h.out.size o⟩
theorem Acc.drewN {w0 w1 : World} (h : Acc w0 w1) (n : Nat) : Acc w0 (w1.drewN n) := ⟨⟨h.out.os, h.out.tape, h.out.output, h.out.size, h.out.block⟩⟩
theorem Acc.drew {w0 w1 : World} (h : Acc w0 w1) : Acc w0 w1.drew := ⟨⟨h.out.os, h.out.tape, h.out.output, h.out.size, h.out.block⟩⟩
end Go.Proofs.Ytnbihmagbedfmaa
