/- sortedKeys: a map's keys, sorted. -/
import Derived.Test.YtnbihmagbedfmaaShelf
import Derived.Test.YtnbihmagbedfmaaRevMap
import Derived.Maps.RangeWalk
import Derived.Sort.KeysCollected
import Derived.Sort.OwnSorted
namespace Go.Proofs.Ytnbihmagbedfmaa
open Go.RowKit Go.Maps Go.WideMaps Go.Sort Go.Proofs.YtnbihmagbedfmaaW.PrintWords

theorem infoS : (Try.prog.info? 9).map (fun i => (i.zero, i.size, i.bytes)) = some (some (.string ⟨#[]⟩), 1, 16) := by kernel_rfl
set_option maxRecDepth 100000 in
set_option maxHeartbeats 1000000 in
theorem keys_any (b n : Nat) (D0 : DataW Unit) (w : World) (hown : MapAt w b n D0) (hmax : Maps.size D0 ≤ 1000) :
    Calls Try.prog 48 #[.map (some b)] w fun e w' => ∃ (A : Option Addr) (cap : Nat) (ss : List (List UInt8)), e = .returned (.slice A ss.length cap) ∧ ss.Perm (strKeys D0) ∧
      w'.ownsRow w.heap.size 9 1 (.slice A ss.length cap) ss.length ((ss.mergeSort (fun x y => decide (x ≤ y))).map encStr) ∧ Below w.heap.size w w' := by
  obtain ⟨i0, hi, hz0, hz1, hz2⟩ := info_parts infoS
  have hbl := hown.lt
  go_enter Try.func48, Try.ntmps48
  go_wp2_with (first
    | (at_range; refine wpList_range_own _ rfl _ 64 rfl 9 2 lawS Try.underlying64 _ b n _ rfl hown ?_; intro w0 hrg0 hg0 hs0)
    | go_in)
  go_frame
  go_loopw [3] (fun v wr => ∃ (left : Lit → Bool) (cnt : Nat) (ss : List (List UInt8)), wr.ranges Try.prog 9 (plainElem Try.prog 2) b w.heap.size n D0 left cnt ∧ ss.length + cnt ≤ Maps.size D0 ∧
      wr.ownsRow w.heap.size 9 1 v ss.length (ss.map encStr) ∧ Collected D0 left ss ∧ Below w.heap.size w wr)
    (fun _ wr => wr.rangeLeft b w.heap.size)
  case atStart =>
    exact ⟨_, _, [], hrg0, by simp, own_nil _ _ _ _, Collected.start D0, (Below.refl _ _).grown hg0 (Nat.le_refl _) (fun j hj => by cases hj)⟩
  case round =>
    obtain ⟨left, cnt, ss, hrg, hcs, hrow, hC, hnx⟩ := hrel
    go_wp2_with (first
      | (at_next; refine wpList_next_ranges _ rfl _ rfl 9 lawS (plainElem Try.prog 2) encStr (Value.int .i64) (fun key kl hk => by obtain ⟨x, hx, _⟩ := Maps.keyOf_str Try.underlying9 hk; exact ⟨x, hx⟩) (fun v y hv => by obtain ⟨c, rfl, _⟩ := plainElem_int_inv Try.underlying2 hv; exact ⟨c, rfl⟩) b w.heap.size n _ _ _ rfl hrg ?_ ?_)
      | go_in)
    · intro hc0 hl0
      rcases hrow.2 with ⟨rfl, hn0⟩ | ⟨g, cap, cur, rfl, hbase, hb, h1, h2, h3, h4⟩
      · have hc := Try.slices_Sort_string_none none 0 wr
        go_wp2_with (go_at_call 54; refine hc.mono ?_; rintro e w' ⟨rfl, rfl⟩)
        obtain rfl : ss = [] := List.length_eq_zero_iff.1 hn0
        go_ret
        exact ⟨none, 0, [], rfl, hC.perm hown lawS Try.underlying9 hl0, by rw [List.mergeSort_nil]; exact own_nil _ _ _ _, hnx⟩
      · have hH : Holds encStr wr g 0 ss.toArray := holds_of_block hb (by simpa using h4)
        have hgl : g < wr.heap.size := (Array.getElem?_eq_some_iff.1 hb).1
        have hc := Try.slices_Sort_string g 0 cap ss wr hH hgl (by omega)
        go_wp2_with (go_at_call 54; refine hc.mono ?_; rintro e w' ⟨rfl, nn, os, rfl⟩)
        go_ret
        exact ⟨_, cap, ss, rfl, hC.perm hown lawS Try.underlying9 hl0, ownsRow_sorted (by simp) hbase hb h1 h2 h3, hnx.grown (grownBy_sorted _) hnx.size (fun j hj => by cases hj; exact hbase)⟩
    · intro x c kl yd yp w2 cnt2 hkey hlk hv hat hrg2 hlt hg2 hs2 hen
      obtain ⟨x', ex, rfl, _⟩ := Maps.keyOf_str Try.underlying9 hkey
      obtain rfl : x = x' := encStr_inj ex
      have hrow2 := hrow.kept hg2 (Or.inr (row_ne_iter hrow hrg).symm)
      clear hs2
      go_wp2_with (first
        | (at_builtin; refine wpList_append_own _ rfl _ _ 26 rfl w.heap.size 9 i0 (.string ⟨#[]⟩) 1 16 Try.underlying26 hi hz0 hz1 hz2 rfl (by decide) _ _ _ rfl (hrow2.alloc _) ⟨w2.heap.size, 0, none⟩ 1 1 [encStr x] rfl rfl (cell_one_new _ _ _) (by simp [Value.oneCell', encStr]) (by unfold maxLen at *; omega) (by omega) (by have := hnx.size; have := hg2.size; simp; omega) ?_; intro v' w3 hown' hg3 hnil3; go_frame)
        | go_in)
      have hrg3 := (hrg2.alloc _).kept hg3 (row_ne_low hrow2 hbl) (row_ne_iter hrow2 hrg2)
      go_roundw
      case rel =>
        refine ⟨_, cnt2, ss ++ [x], hrg3, by simp; omega, by simpa using hown', hC.step hlk hat, ?_⟩
        exact ((hnx.grown hg2 hnx.size (fun j hj => by cases hj; exact Nat.le_refl _)).alloc (by have := hnx.size; have := hg2.size; omega) _).grown hg3 (by have := hnx.size; have := hg2.size; simp; omega) (fun j hj => (hrow2.lt j hj).1)
      case measure => rw [hrg3.left_eq, hrg.left_eq]; exact hlt
end Go.Proofs.Ytnbihmagbedfmaa
