/- Seconds to a time and back. -/
import Derived.Test.YtnbihmagbedfmaaValid
import Derived.Test.YtnbihmagbedfmaaAcc
import Derived.WalkKit
import Derived.Laws.Rows
namespace Go.Proofs.Ytnbihmagbedfmaa
open Go.RowKit Go.Proofs.YtnbihmagbedfmaaW.PrintWords

def timeV (t : Int) : Value := .agg #[.int .u64 0, .int .i64 (wrap64 (t + 62135596800)), .pointer none]

set_option maxRecDepth 100000 in
theorem unixTime_any (t : Int) (w : World) :
    Calls Try.prog 46 #[.int .i64 t, .int .i32 0] w fun e w' => e = .returned (timeV t) ∧ Below w.heap.size w w' := by
  go_enter Try.func46, Try.ntmps46
  go_wp2
  have hg := heap_alloc_new w (Obj.cells #[.int .u64 0, .int .i64 (wrap64 (t + 62135596800)), .pointer none] 70)
  refine bodyPost_ret (results_cell_row rfl _ _ w.heap.size _ _ _ _ rfl hg Try.underlying70 rfl rfl) rfl ⟨rfl, ((Below.refl _ _).alloc (Nat.le_refl _) _)⟩

set_option maxRecDepth 100000 in
theorem unix_any (t : Int) (w : World) :
    Calls Try.prog 32 #[.int .i64 t, .int .i64 0] w fun e w' => e = .returned (timeV t) ∧ Below w.heap.size w w' := by
  have h := unixTime_any t (w.alloc (Obj.cells #[.int .u64 0, .int .i64 0, .pointer none] 70))
  have H := Lib.hid h
  clear h
  go_enter Try.func32, Try.ntmps32
  go_wp2_with fail
  refine H.out.mono ?_
  rintro e w1 ⟨rfl, hb⟩
  have hs : w.heap.size < w1.heap.size := by have := hb.size; simp at this; omega
  have hg : w1.heap[w.heap.size]? = some (Obj.cells #[.int .u64 0, .int .i64 0, .pointer none] 70 (0, 0)) := (hb.block _ (by simp)).trans (heap_alloc_new w _)
  have hb1 : Below w.heap.size w w1 := ((Below.refl _ _).alloc (Nat.le_refl _) _).trans ⟨hb.os, hb.tape, hb.output, by simp; omega, fun i hi => hb.block i (by simp; omega)⟩
  have H1 := Lib.hid hb1
  clear hb hb1 H
  unfold timeV
  have q0 : w1.cell? ⟨w.heap.size, 0, none⟩ = some (.int .u64 0) := by simp [World.cell?, hg]
  have q1 : w1.cell? ⟨w.heap.size, 1, none⟩ = some (.int .i64 0) := by simp [World.cell?, hg]
  have q2 : w1.cell? ⟨w.heap.size, 2, none⟩ = some (.pointer none) := by simp [World.cell?, hg]
  have f0 : w1.frozen? ⟨w.heap.size, 0, none⟩ = false := by simp [World.frozen?, hg]
  have f1 : w1.frozen? ⟨w.heap.size, 1, none⟩ = false := by simp [World.frozen?, hg]
  have f2 : w1.frozen? ⟨w.heap.size, 2, none⟩ = false := by simp [World.frozen?, hg]
  have HG := Lib.hid hg
  clear hg
  go_wp2
  have hn : (((w1.setCell ⟨w.heap.size, 0, none⟩ (.int .u64 0)).setCell ⟨w.heap.size, 1, none⟩ (.int .i64 (wrap64 (t + 62135596800)))).setCell ⟨w.heap.size, 2, none⟩ (.pointer none)).heap[w.heap.size]? = some (Obj.cells #[.int .u64 0, .int .i64 (wrap64 (t + 62135596800)), .pointer none] 70 (0, 0)) := by
    simp [World.setCell, Array.getElem?_modify, HG.out]
  refine bodyPost_ret (results_cell_row rfl _ _ w.heap.size _ _ _ _ rfl hn Try.underlying70 rfl rfl) rfl ⟨rfl, ((H1.out.setCell (Nat.le_refl _) _).setCell (Nat.le_refl _) _).setCell (Nat.le_refl _) _⟩

set_option maxRecDepth 100000 in
theorem sec_any (x : Int) (n : Nat) (w : World) (h : w.heap[n]? = some (.cells #[.int .u64 0, .int .i64 x, .pointer none] 70 (0, 0))) :
    Calls Try.prog 65 #[.pointer (some ⟨n, 0, none⟩)] w fun e w' => e = .returned (.int .i64 x) ∧ w' = w := by
  have h0 : w.cell? ⟨n, 0, none⟩ = some (.int .u64 0) := by simp [World.cell?, h]
  have h1 : w.cell? ⟨n, 1, none⟩ = some (.int .i64 x) := by simp [World.cell?, h]
  clear h
  go_enter Try.func65, Try.ntmps65
  go_wp2
  go_ret
  exact ⟨rfl, rfl⟩

set_option maxRecDepth 100000 in
theorem unixSec_any (x : Int) (n : Nat) (w : World) (h : w.heap[n]? = some (.cells #[.int .u64 0, .int .i64 x, .pointer none] 70 (0, 0))) :
    Calls Try.prog 53 #[.pointer (some ⟨n, 0, none⟩)] w fun e w' => e = .returned (.int .i64 (wrap64 (x + (-62135596800)))) ∧ w' = w := by
  have H := Lib.hid (sec_any x n w h)
  clear h
  go_enter Try.func53, Try.ntmps53
  go_wp2_with fail
  refine H.out.mono ?_
  rintro e w1 ⟨rfl, rfl⟩
  go_wp2
  go_ret
  exact ⟨rfl, rfl⟩

theorem wrap_back (t : Int) (h0 : 0 ≤ t) (h1 : t ≤ 1099511627776) : wrap64 (wrap64 (t + 62135596800) + (-62135596800)) = t := by
  rw [wrap_in (x := t + 62135596800) (by omega) (by omega), wrap_in (by omega) (by omega)]; omega

set_option maxRecDepth 100000 in
theorem time_unix_any (t : Int) (h0 : 0 ≤ t) (h1 : t ≤ 1099511627776) (w : World) :
    Calls Try.prog 45 #[timeV t] w fun e w' => e = .returned (.int .i64 t) ∧ Below w.heap.size w w' := by
  have H := Lib.hid (unixSec_any (wrap64 (t + 62135596800)) w.heap.size (w.alloc (Obj.cells #[.int .u64 0, .int .i64 (wrap64 (t + 62135596800)), .pointer none] 70)) (heap_alloc_new w _))
  unfold timeV
  go_enter Try.func45, Try.ntmps45
  go_wp2_with fail
  refine H.out.mono ?_
  rintro e w1 ⟨rfl, rfl⟩
  go_wp2
  go_ret
  exact ⟨by rw [wrap_back t h0 h1]; rfl, (Below.refl _ _).alloc (Nat.le_refl _) _⟩
end Go.Proofs.Ytnbihmagbedfmaa
