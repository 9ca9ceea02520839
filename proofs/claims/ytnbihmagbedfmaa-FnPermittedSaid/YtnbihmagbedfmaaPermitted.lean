/- Contracts of Permitted, at subjects without a blank. -/
import Derived.Test.YtnbihmagbedfmaaPermit
namespace Go.Proofs.Ytnbihmagbedfmaa
open Go.RowKit Go.Proofs.YtnbihmagbedfmaaW.PrintWords
open Pl (hasSub toks toksA valid plain plainT okt okc)

theorem Try.infoString : (Try.prog.info? 9).map (fun i => (i.zero, i.size, i.bytes)) = some (some (.string ⟨#[]⟩), 1, 16) := by kernel_rfl

theorem reads_below {α : Type} {enc : α → Value} {d : α} {w w1 : World} {A : Option Addr} {n : Nat} {xs : List α} (h : ReadsOf enc d w A n xs) (hb : Below w.heap.size w w1) : ReadsOf enc d w1 A n xs :=
  ⟨h.1, h.2.1, fun hn => by
    obtain ⟨ad, e, hc⟩ := h.2.2 hn
    exact ⟨ad, e, fun j hj => pw_cell_below hb (hc j hj)⟩⟩
theorem below_of_grown {w w1 : World} (hg : w.grownBy w1 none) : Below w.heap.size w w1 := ⟨hg.os, hg.tape, hg.output, hg.size, fun i hi => hg.block i hi (by simp)⟩
theorem cellG {w w1 : World} (hg : w.grownBy w1 none) {a : Addr} {v : Value} (h : w.cell? a = some v) : w1.cell? a = some v := pw_cell_below (below_of_grown hg) h
theorem readG {α : Type} {enc : α → Value} {d : α} {w w1 : World} {A : Option Addr} {n : Nat} {xs : List α} (hg : w.grownBy w1 none) (h : Aside0 (ReadsOf enc d w A n xs)) : Aside0 (ReadsOf enc d w1 A n xs) := ⟨reads_below h.out (below_of_grown hg)⟩
theorem cellA {w : World} (o : Obj) {a : Addr} {v : Value} (h : w.cell? a = some v) : (w.alloc o).cell? a = some v := pw_cell_below ((Below.refl _ _).alloc (Nat.le_refl _) o) h
theorem readA {α : Type} {enc : α → Value} {d : α} {w : World} {A : Option Addr} {n : Nat} {xs : List α} (o : Obj) (h : Aside0 (ReadsOf enc d w A n xs)) : Aside0 (ReadsOf enc d (w.alloc o) A n xs) := ⟨reads_below h.out ((Below.refl _ _).alloc (Nat.le_refl _) o)⟩

set_option maxRecDepth 100000 in
set_option maxHeartbeats 800000 in
theorem permitted1_any (B n : Nat) (q : Bool) (A1 A2 : Option Addr) (c1 c2 : Nat) (xs ys : List ByteArray) (N : Nat) (bad : Bool) (w : World) (h : VR B N bad w) (hN : N + 4 * xs.length + 4 * ys.length ≤ 900000)
    (hb0 : w.heap[n]? = some (.cells #[.slice A1 xs.length c1, .slice A2 ys.length c2] 31 (0, 0))) (hb1 : w.heap[n + 1]? = some (.cells #[.bool q] 4 (0, 0)))
    (hr1 : ReadsOf Value.string ByteArray.empty w A1 xs.length xs) (hr2 : ReadsOf Value.string ByteArray.empty w A2 ys.length ys)
    (hx : ∀ s ∈ xs, s.size ≤ 4294967296 ∧ (32 : UInt8) ∉ s.data.toList) (hy : ∀ s ∈ ys, s.size ≤ 4294967296 ∧ (32 : UInt8) ∉ s.data.toList) :
    Calls Try.prog 27 #[.pointer (some ⟨B, 0, none⟩), .pointer (some ⟨n, 0, none⟩), .pointer (some ⟨n + 1, 0, none⟩)] w fun e w' => e = .returned (.tuple #[]) ∧ VS B (N + 4 * xs.length + 4 * ys.length) ((bad || !allValid xs) || !allValid ys) w w' := by
  have k0 : w.cell? ⟨n, 0, none⟩ = some (.slice A1 xs.length c1) := by simp [World.cell?, hb0]
  have k1 : w.cell? ⟨n, 1, none⟩ = some (.slice A2 ys.length c2) := by simp [World.cell?, hb0]
  have ln := lt_of_block hb0
  have HX := Lib.hid hx
  have HY := Lib.hid hy
  have HQ := Lib.hid hb1
  clear hx hy hb1 hb0
  go_enter Try.func27, Try.ntmps27
  go_wp2_with fail
  have hr1' := Aside0.mk hr1
  have hr2' := Aside0.mk hr2
  clear hr1 hr2
  go_region_held3 (fun w' => w'.cell? ⟨n, 0, none⟩ = some (.slice A1 xs.length c1) ∧ w'.cell? ⟨n, 1, none⟩ = some (.slice A2 ys.length c2) ∧ Aside0 (ReadsOf Value.string ByteArray.empty w' A1 xs.length xs) ∧ Aside0 (ReadsOf Value.string ByteArray.empty w' A2 ys.length ys))
    (first | (exact ⟨k0, k1, hr1', hr2'⟩) | (go_split_ands; exact ⟨cellG (by assumption) (by assumption), cellG (by assumption) (by assumption), readG (by assumption) (by assumption), readG (by assumption) (by assumption)⟩) | (go_split_ands; exact ⟨cellA _ (by assumption), cellA _ (by assumption), readA _ (by assumption), readA _ (by assumption)⟩))
    (first
      | ((try go_split_ands); refine step_append_copy Value.string ByteArray.empty (fun _ => rfl) _ (by rfl) _ _ _ _ _ _ (by rfl) _ 16 Try.underlying59 Try.underlying26 Try.infoString rfl A1 xs.length c1 xs (by rfl) (by rfl) (Aside0.out (by assumption)) (by omega) (by omega) ?_; intro a1 d1 w1 hown1 hgr1)
      | ((try go_split_ands); refine step_append_copy Value.string ByteArray.empty (fun _ => rfl) _ (by rfl) _ _ _ _ _ _ (by rfl) _ 16 Try.underlying59 Try.underlying26 Try.infoString rfl A2 ys.length c2 ys (by rfl) (by rfl) (Aside0.out (by assumption)) (by omega) (by omega) ?_; intro a2 d2 w2 hown2 hgr2))
  have hgr0 : w.grownBy w1 none := ⟨hgr1.os, hgr1.tape, hgr1.output, hgr1.size, hgr1.block⟩
  have hb1 : Below w.heap.size w w1 := below_of_grown hgr0
  have hb2 : Below w.heap.size w w2 := hb1.trans ((below_of_grown hgr2).mono hb1.size)
  obtain ⟨W3, hW3⟩ : ∃ W3 : World, W3 = w2.alloc (.cells #[.slice a1 xs.length d1, .slice a2 ys.length d2] 61) := ⟨_, rfl⟩
  rw [← hW3]
  have hb3 : Below w.heap.size w W3 := by rw [hW3]; exact hb2.alloc hb2.size _
  have hlt := h.lt
  have hpa : PermAt B w2.heap.size a1 a2 d1 d2 xs ys W3 := by
    refine ⟨by rw [hW3]; exact heap_alloc_new _ _, ?_, ?_, ?_⟩
    · have := hb2.size; omega
    · rw [hW3]; exact (own_weaken (own_below hown1 (below_of_grown hgr2)) (by show B + 1 ≤ w.heap.size; omega)).alloc _
    · rw [hW3]; exact (own_weaken hown2 (by have := hb1.size; omega)).alloc _
  have hq := cell_of_one ((hb3.block _ (lt_of_block HQ.out)).trans HQ.out)
  have hvr := h.below hb3
  have hst : VS B N bad w W3 := (VS.start h).below0 hb3
  have HPV := Lib.hid (pvalidate_any B w2.heap.size q a1 a2 d1 d2 xs ys N bad W3 hvr hpa hN HX.out HY.out)
  clear hgr0 hpa hvr hb3 hb2 hb1 hW3 hgr1 hgr2 hown1 hown2 k0 k1 hr1' hr2'
  go_wp2_with fail
  refine HPV.out.mono ?_
  rintro e w5 ⟨rfl, hv5⟩
  go_wp2
  go_end0
  exact ⟨rfl, hst.trans hv5⟩

set_option maxRecDepth 100000 in
/-- Permitted: permissions are valid just where each subject is. -/
theorem permitted_any (q : Bool) (A1 A2 : Option Addr) (c1 c2 : Nat) (xs ys : List ByteArray) (w : World) (hn1 : xs.length ≤ 1000) (hn2 : ys.length ≤ 1000)
    (hr1 : ReadsOf Value.string ByteArray.empty w A1 xs.length xs) (hr2 : ReadsOf Value.string ByteArray.empty w A2 ys.length ys)
    (hx : ∀ s ∈ xs, s.size ≤ 4294967296 ∧ (32 : UInt8) ∉ s.data.toList) (hy : ∀ s ∈ ys, s.size ≤ 4294967296 ∧ (32 : UInt8) ∉ s.data.toList) :
    Calls Try.prog 12 #[.agg #[.slice A1 xs.length c1, .slice A2 ys.length c2], .bool q] w fun e w' => e = .returned (.bool (allValid xs && allValid ys)) ∧ Below w.heap.size w w' := by
  have hmf : ∀ (fn : Fn) (first cap : Array Value) (w : World), (Instr.makeFunc fn first cap).run Try.prog w = .ok (.func fn first cap) w := fun _ _ _ _ => rfl
  obtain ⟨w2, hw2⟩ : ∃ w2 : World, w2 = (w.alloc (.cells #[.slice A1 xs.length c1, .slice A2 ys.length c2] 31)).alloc (.cells #[.bool q] 4) := ⟨_, rfl⟩
  have hs2 : w2.heap.size = w.heap.size + 2 := by rw [hw2]; simp
  have hb2 : Below w.heap.size w w2 := by rw [hw2]; exact ((Below.refl _ _).alloc (Nat.le_refl _) _).alloc (by simp) _
  have g0 : w2.heap[w.heap.size]? = some (.cells #[.slice A1 xs.length c1, .slice A2 ys.length c2] 31 (0, 0)) := by
    rw [hw2]; exact (Below.heap_alloc _ _ _ (by simp)).trans (heap_alloc_new w _)
  have g1 : w2.heap[w.heap.size + 1]? = some (.cells #[.bool q] 4 (0, 0)) := by
    rw [hw2]
    simpa using heap_alloc_new (w.alloc (.cells #[.slice A1 xs.length c1, .slice A2 ys.length c2] 31)) (.cells #[.bool q] 4)
  have hch : Checks 27 #[.pointer (some ⟨w.heap.size, 0, none⟩), .pointer (some ⟨w.heap.size + 1, 0, none⟩)] w2.heap.size w2 (!(allValid xs && allValid ys)) := by
    intro W hb hbase
    have hbW : Below w2.heap.size w2 (W.alloc (.cells #[.slice none 0 0] 93)) := hb.alloc hbase _
    have hbw : Below w.heap.size w (W.alloc (.cells #[.slice none 0 0] 93)) := hb2.trans (hbW.mono hb2.size)
    refine (permitted1_any W.heap.size w.heap.size q A1 A2 c1 c2 xs ys 0 false _ (VR.fresh W) (by omega) ((hbW.block _ (by omega)).trans g0) ((hbW.block _ (by omega)).trans g1) (reads_below hr1 hbw) (reads_below hr2 hbw) hx hy).mono fun e w' ⟨he, hv⟩ => ⟨he, _, hv.close (Nat.le_refl _) (by simp)⟩
  have HF := Lib.hid (fine_any _ _ _ w2 (fun r W => by simp [go_sem]) hch)
  have HB := Lib.hid hb2
  clear hch hs2 hb2 g0 g1
  go_enter Try.func12, Try.ntmps12
  go_wp2_with fail
  rw [← hw2]
  refine HF.out.mono ?_
  rintro e w1 ⟨rfl, hb⟩
  clear hw2
  go_wp2
  go_ret
  exact ⟨by simp, HB.out.trans (hb.mono HB.out.size)⟩
end Go.Proofs.Ytnbihmagbedfmaa
