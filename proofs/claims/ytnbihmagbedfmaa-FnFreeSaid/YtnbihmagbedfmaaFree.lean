/- Free: it says whether each of three limits is -1; and laws.FnFree hands back true. -/
import Derived.Test.YtnbihmagbedfmaaValid
import Derived.Test.YtnbihmagbedfmaaAcc
namespace Go.Proofs.Ytnbihmagbedfmaa
open Go.RowKit Go.Proofs.YtnbihmagbedfmaaW.PrintWords

def unlimited (a b c : Int) : Bool := a == -1 && b == -1 && c == -1

set_option maxRecDepth 100000 in
theorem isunlimited_any (k : Nat) (a b c : Int) (w : World) (h0 : w.cell? ⟨k, 0, none⟩ = some (.int .i64 a)) (h1 : w.cell? ⟨k, 1, none⟩ = some (.int .i64 b)) (h2 : w.cell? ⟨k, 2, none⟩ = some (.int .i64 c)) :
    Calls Try.prog 26 #[.pointer (some ⟨k, 0, none⟩)] w fun e w' => e = .returned (.bool (unlimited a b c)) ∧ w = w' := by
  go_enter Try.func26, Try.ntmps26
  go_wp2
  all_goals (go_ret; exact ⟨by simp [unlimited, *], rfl⟩)

theorem row_cell {w : World} {k j : Nat} {cs : Array Value} {t : TypeId} {fr : Nat × Nat} (h : w.heap[k]? = some (.cells cs t fr)) {v : Value} (hv : cs[j]? = some v) : w.cell? ⟨k, j, none⟩ = some v := by
  simp [World.cell?, h, hv]

set_option maxRecDepth 100000 in
theorem free1_any (n : Nat) (a b c : Int) (w : World) (h0 : w.heap[n]? = some (.cells #[.int .i64 a] 2 (0, 0))) (h1 : w.heap[n + 1]? = some (.cells #[.int .i64 b] 2 (0, 0))) (h2 : w.heap[n + 2]? = some (.cells #[.int .i64 c] 2 (0, 0))) (h3 : w.heap[n + 3]? = some (.cells #[.bool false] 4 (0, 0))) :
    Calls Try.prog 25 #[.pointer (some ⟨n, 0, none⟩), .pointer (some ⟨n + 1, 0, none⟩), .pointer (some ⟨n + 2, 0, none⟩), .pointer (some ⟨n + 3, 0, none⟩)] w fun e w' => e = .returned (.tuple #[]) ∧
      w'.heap[n + 3]? = some (.cells #[.bool (unlimited a b c)] 4 (0, 0)) ∧ w.heap.size ≤ w'.heap.size ∧ w'.os = w.os ∧ w'.tape = w.tape ∧ w'.output = w.output ∧ (∀ k, k < w.heap.size → k ≠ n + 3 → w'.heap[k]? = w.heap[k]?) := by
  have c0 := cell_of_one h0
  have c1 := cell_of_one h1
  have c2 := cell_of_one h2
  have l3 := lt_of_block h3
  have hu := isunlimited_any w.heap.size a b c (w.alloc (.cells #[.int .i64 a, .int .i64 b, .int .i64 c] 57)) (row_cell (heap_alloc_new w _) rfl) (row_cell (heap_alloc_new w _) rfl) (row_cell (heap_alloc_new w _) rfl)
  have h3' : (w.alloc (.cells #[.int .i64 a, .int .i64 b, .int .i64 c] 57)).heap[n + 3]? = some (.cells #[.bool false] 4 (0, 0)) := (Below.heap_alloc _ _ _ l3).trans h3
  have d3 := cell_of_one h3'
  have f3 := free_of_one h3'
  have HU := Lib.hid hu
  have H3 := Lib.hid h3
  clear h0 h1 h2 h3 hu h3'
  go_enter Try.func25, Try.ntmps25
  go_wp2_with fail
  refine HU.out.mono ?_
  rintro e w1 ⟨rfl, rfl⟩
  go_wp2
  go_end0
  have hs : ∀ v : Value, (w.setCell ⟨n + 3, 0, none⟩ v).heap.size = w.heap.size := fun v => by simp [World.setCell]
  refine ⟨rfl, (Below.heap_alloc _ _ _ (by rw [hs]; exact l3)).trans (one_setCell H3.out), by simp, rfl, rfl, rfl, fun k hk hne => ?_⟩
  rw [Below.heap_alloc _ _ _ (by rw [hs]; exact hk), Below.heap_setCell _ _ _ _ hne]

set_option maxRecDepth 100000 in
theorem free_any (a b c : Int) (w : World) :
    Calls Try.prog 10 #[.int .i64 a, .int .i64 b, .int .i64 c] w fun e w' => e = .returned (.bool (unlimited a b c)) ∧ Below w.heap.size w w' := by
  have hmf : ∀ (fn : Fn) (first cap : Array Value) (w : World), (Instr.makeFunc fn first cap).run Try.prog w = .ok (.func fn first cap) w := fun _ _ _ _ => rfl
  obtain ⟨w2, hw2⟩ : ∃ w2 : World, w2 = (((w.alloc (.cells #[.int .i64 a] 2)).alloc (.cells #[.int .i64 b] 2)).alloc (.cells #[.int .i64 c] 2)).alloc (.cells #[.bool false] 4) := ⟨_, rfl⟩
  have hs2 : w2.heap.size = w.heap.size + 4 := by rw [hw2]; simp
  have hb2 : Below w.heap.size w w2 := by
    rw [hw2]; exact ((((Below.refl _ _).alloc (Nat.le_refl _) _).alloc (by simp) _).alloc (by simp; omega) _).alloc (by simp; omega) _
  have g0 : w2.heap[w.heap.size]? = some (.cells #[.int .i64 a] 2 (0, 0)) := by
    rw [hw2]; exact (Below.heap_alloc _ _ _ (by simp; omega)).trans ((Below.heap_alloc _ _ _ (by simp; omega)).trans ((Below.heap_alloc _ _ _ (by simp)).trans (heap_alloc_new w _)))
  have g1 : w2.heap[w.heap.size + 1]? = some (.cells #[.int .i64 b] 2 (0, 0)) := by
    rw [hw2]; refine (Below.heap_alloc _ _ _ (by simp)).trans ((Below.heap_alloc _ _ _ (by simp)).trans ?_)
    simpa using heap_alloc_new (w.alloc (.cells #[.int .i64 a] 2)) (.cells #[.int .i64 b] 2)
  have g2 : w2.heap[w.heap.size + 2]? = some (.cells #[.int .i64 c] 2 (0, 0)) := by
    rw [hw2]; refine (Below.heap_alloc _ _ _ (by simp)).trans ?_
    simpa using heap_alloc_new ((w.alloc (.cells #[.int .i64 a] 2)).alloc (.cells #[.int .i64 b] 2)) (.cells #[.int .i64 c] 2)
  have g3 : w2.heap[w.heap.size + 3]? = some (.cells #[.bool false] 4 (0, 0)) := by
    rw [hw2]
    simpa using heap_alloc_new (((w.alloc (.cells #[.int .i64 a] 2)).alloc (.cells #[.int .i64 b] 2)).alloc (.cells #[.int .i64 c] 2)) (.cells #[.bool false] 4)
  have hold : ∀ k, k < w2.heap.size → (w2.alloc (.cells #[.bool false] 4)).heap[k]? = w2.heap[k]? := fun k hk => Below.heap_alloc _ _ _ hk
  have h1 := free1_any w.heap.size a b c (w2.alloc (.cells #[.bool false] 4)) ((hold _ (by omega)).trans g0) ((hold _ (by omega)).trans g1) ((hold _ (by omega)).trans g2) ((hold _ (by omega)).trans g3)
  have hq := quiet_any 25 #[.pointer (some ⟨w.heap.size, 0, none⟩), .pointer (some ⟨w.heap.size + 1, 0, none⟩), .pointer (some ⟨w.heap.size + 2, 0, none⟩), .pointer (some ⟨w.heap.size + 3, 0, none⟩)] w2
    (fun w' => Below w.heap.size w w' ∧ w'.heap[w.heap.size + 3]? = some (.cells #[.bool (unlimited a b c)] 4 (0, 0))) (fun W => by simp [go_sem])
    (h1.mono fun e w' ⟨he, k1, k2, k3, k4, k5, k6⟩ => ⟨he, (k6 _ (by simp) (by omega)).trans (heap_alloc_new _ _), hb2.trans ⟨k3, k4, k5, by simp at k2; omega, fun i hi => (k6 i (by simp; omega) (by omega)).trans (hold i (by omega))⟩, k1⟩)
  have HQ := Lib.hid hq
  clear hq h1 hold g0 g1 g2 g3 hb2
  have HS := Lib.hid hs2
  clear hs2
  go_enter Try.func10, Try.ntmps10
  go_wp2_with fail
  rw [← hw2]
  refine HQ.out.mono ?_
  rintro e w3 ⟨rfl, w1, h1, ⟨h2, h3⟩, hw3⟩
  have hb3 : Below w.heap.size w w3 := by rw [hw3]; exact h2.setCell (p := ⟨w2.heap.size, 0, none⟩) (by show w.heap.size ≤ w2.heap.size; have := HS.out; omega) _
  have hd3 : w3.heap[w.heap.size + 3]? = some (.cells #[.bool (unlimited a b c)] 4 (0, 0)) := by
    rw [hw3, Below.heap_setCell _ _ _ _ (by show w.heap.size + 3 ≠ w2.heap.size; have := HS.out; omega)]; exact h3
  clear hw3 h1 h2 h3 HQ HS hw2
  have hc3 := cell_of_one hd3
  have hf3 := free_of_one hd3
  have HB3 := Lib.hid hb3
  have HD3 := Lib.hid hd3
  clear hb3 hd3
  go_wp2
  have hcs := cell_of_one (one_setCell (u := .bool (unlimited a b c)) HD3.out)
  refine bodyPost_ret (v := .bool (unlimited a b c)) ?_ rfl ⟨rfl, HB3.out.setCell (p := ⟨w.heap.size + 3, 0, none⟩) (by show w.heap.size ≤ w.heap.size + 3; omega) _⟩
  simp [results, Try.results10, go_sem]
  rw [hcs]

set_option maxRecDepth 100000 in
theorem free_walk (a b c : Int) (w : World) :
    Calls Try.prog 4 #[.int .i64 a, .int .i64 b, .int .i64 c] w fun e w' => e = .returned (.bool true) ∧ Below w.heap.size w w' := by
  have H0 := Acc.refl w
  have hua : unlimited a b c = (a == -1 && b == -1 && c == -1) := rfl
  go_enter Try.func4, Try.ntmps4
  go_wp2_with (first | (go_at_call 10; refine (free_any _ _ _ _).mono ?_; rintro e w1 ⟨rfl, hb⟩; have H1 := Acc.step (by assumption) hb) | (go_at_call 8; refine (works_any _).mono ?_; rintro e w1 ⟨rfl, hb⟩; have H1 := Acc.step (by assumption) hb))
  all_goals (go_ret; exact ⟨by first | rfl | (simp [*]; done), H1.out⟩)
end Go.Proofs.Ytnbihmagbedfmaa
