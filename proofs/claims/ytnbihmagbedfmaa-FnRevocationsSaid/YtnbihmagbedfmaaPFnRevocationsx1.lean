-- PRINTED BY print.sh 35421559b90ae4d0a3588c463048766b98c2df88dd9212a6774a882060cdf62d: not written by this session
import Derived.Test.YtnbihmagbedfmaaPFnRevocationsx0
namespace Go.Proofs.Ytnbihmagbedfmaa.PFnRevocations
open Go.RowKit Go.Proofs.YtnbihmagbedfmaaW.PrintWords Go.Proofs.YtnbihmagbedfmaaW.PrintLast Go.Proofs.YtnbihmagbedfmaaW.PrintMore
attribute [local go_sem] max2_int min2_int max_two min_two max_three min_three max_four min_four   -- for this text's walks alone
set_option linter.unusedVariables false
set_option linter.unusedSimpArgs false

-- NOT PRINTED: function 24 (impl_quietly)

-- NOT PRINTED: function 21 (impl_fine)

-- NOT PRINTED: function 9 (impl_Valid)

-- NOT PRINTED: function 8 (laws_works)

/-! ### laws_zzFits5: function 29 -/
def laws_zzFits5.f (a0_0 : Int) (a0_1 : ByteArray) (a0_2 : Int) : Option (Bool) := if (a0_1.size : Int) > 2147483647 then (some false) else (some true)
set_option maxHeartbeats 8000000 in
set_option maxRecDepth 100000 in
theorem laws_zzFits5.calls (a0_0 : Int) (a0_1 : ByteArray) (a0_2 : Int) (r : Bool) (w : World) (h : laws_zzFits5.f a0_0 a0_1 a0_2 = some r) :
    Calls Try.prog 29 #[.agg #[.int .i64 a0_0, .string a0_1, .int .i64 a0_2]] w fun e w' => e = .returned (.bool r) ∧ Below w.heap.size w w' := by
  have hu38 := Try.underlying38
  have HB := Aside0.mk (Below.refl w.heap.size w)
  have H : (if (a0_1.size : Int) > 2147483647 then (some false) else (some true)) = some r := h
  clear h
  by_cases c2 : (a0_1.size : Int) > 2147483647
  · rw [if_pos c2] at H
    have c2b0 : decide (2147483647 < (a0_1.size : Int)) = true := decide_eq_true c2
    have c2b1 : decide (2147483647 < a0_1.size) = true := decide_eq_true (by omega)
    clear c2
    obtain rfl := Option.some.inj H
    go_enter Try.func29, Try.ntmps29
    go_wp2_with (first | ((with_reducible refine gate_dst (N := 1) rfl ?_); refine box_event ?hg (N := 1) ?hd (cs := #[.int .i64 a0_0, .string a0_1, .int .i64 a0_2]) (t := 38) ?hr ?_; (case hd => rfl); (case hg => rfl); (case hr => first | (go_simp; done) | (go_simp; rfl)); intro gb101 hg w3 hbox hb; have n0_ := Aside0.mk (below_step (by repeat (first | (with_reducible first | exact HB.out | apply below_alloc | apply pw_below_drewN | apply below_drew1) | exact HB.out)) hb); have n1_ := Aside0.mk (hbox); have n2_ := Aside0.mk ((by rw [hg]; exact (below_size (by repeat (first | (with_reducible first | exact HB.out | apply below_alloc | apply pw_below_drewN | apply below_drew1) | exact HB.out))) : w.heap.size ≤ gb101)); have n3_ := Aside0.mk ((by rw [hg]; exact (below_size (by repeat (first | (with_reducible first | exact HB.out | apply below_alloc | apply pw_below_drewN | apply below_drew1) | exact HB.out))) : w.heap.size ≤ gb101)); clear HB; have HB := n0_; have BK101 := n1_; have GW101 := n2_; have GE101 := n3_; clear n0_ n1_ n2_ n3_; clear hb hbox hg; have hcz4_0 : w3.cell? ⟨gb101, 0, none⟩ = some (.int .i64 a0_0) := (blk_cell BK101.out 0).trans rfl; have hcz4_1 : w3.cell? ⟨gb101, 1, none⟩ = some (.string a0_1) := (blk_cell BK101.out 1).trans rfl; have hcz4_2 : w3.cell? ⟨gb101, 2, none⟩ = some (.int .i64 a0_2) := (blk_cell BK101.out 2).trans rfl; have hfz4_0 := blk_frozen BK101.out 0; have hfz4_1 := blk_frozen BK101.out 1; have hfz4_2 := blk_frozen BK101.out 2))
    go_ret
    exact ⟨by first | rfl | (simp [errW_none, errW_some] <;> rfl) | (simp [*, errW_none, errW_some] <;> rfl), by repeat (first | (with_reducible first | exact HB.out | apply below_alloc | apply pw_below_drewN | apply below_drew1 | refine below_set ?_ GE101.out) | exact HB.out)⟩
  · rw [if_neg c2] at H
    have c2b0 : decide (2147483647 < (a0_1.size : Int)) = false := decide_eq_false c2
    have c2b1 : decide (2147483647 < a0_1.size) = false := decide_eq_false (by omega)
    clear c2
    obtain rfl := Option.some.inj H
    go_enter Try.func29, Try.ntmps29
    go_wp2_with (first | ((with_reducible refine gate_dst (N := 1) rfl ?_); refine box_event ?hg (N := 1) ?hd (cs := #[.int .i64 a0_0, .string a0_1, .int .i64 a0_2]) (t := 38) ?hr ?_; (case hd => rfl); (case hg => rfl); (case hr => first | (go_simp; done) | (go_simp; rfl)); intro gb101 hg w5 hbox hb; have n0_ := Aside0.mk (below_step (by repeat (first | (with_reducible first | exact HB.out | apply below_alloc | apply pw_below_drewN | apply below_drew1) | exact HB.out)) hb); have n1_ := Aside0.mk (hbox); have n2_ := Aside0.mk ((by rw [hg]; exact (below_size (by repeat (first | (with_reducible first | exact HB.out | apply below_alloc | apply pw_below_drewN | apply below_drew1) | exact HB.out))) : w.heap.size ≤ gb101)); have n3_ := Aside0.mk ((by rw [hg]; exact (below_size (by repeat (first | (with_reducible first | exact HB.out | apply below_alloc | apply pw_below_drewN | apply below_drew1) | exact HB.out))) : w.heap.size ≤ gb101)); clear HB; have HB := n0_; have BK101 := n1_; have GW101 := n2_; have GE101 := n3_; clear n0_ n1_ n2_ n3_; clear hb hbox hg; have hcz6_0 : w5.cell? ⟨gb101, 0, none⟩ = some (.int .i64 a0_0) := (blk_cell BK101.out 0).trans rfl; have hcz6_1 : w5.cell? ⟨gb101, 1, none⟩ = some (.string a0_1) := (blk_cell BK101.out 1).trans rfl; have hcz6_2 : w5.cell? ⟨gb101, 2, none⟩ = some (.int .i64 a0_2) := (blk_cell BK101.out 2).trans rfl; have hfz6_0 := blk_frozen BK101.out 0; have hfz6_1 := blk_frozen BK101.out 1; have hfz6_2 := blk_frozen BK101.out 2))
    go_ret
    exact ⟨by first | rfl | (simp [errW_none, errW_some] <;> rfl) | (simp [*, errW_none, errW_some] <;> rfl), by repeat (first | (with_reducible first | exact HB.out | apply below_alloc | apply pw_below_drewN | apply below_drew1 | refine below_set ?_ GE101.out) | exact HB.out)⟩

/-! ### laws_zzFits4: function 13 -/
def laws_zzFits4.l0 : Nat → List (S38) → Int → Int → Option (Bool)
  | 0, _, _, _ => none
  | k + 1, x8, x9, x10 => if x10 < x9 then (if 0 ≤ x10 then (if x10 < (x8.length : Int) then ((laws_zzFits5.f ((rd_T38 x8 x10).f0) ((rd_T38 x8 x10).f1) ((rd_T38 x8 x10).f2)).bind fun t104 => (if t104 = true then (laws_zzFits4.l0 k x8 x9 (wrap64 (x10 + 1))) else (some false))) else (none)) else (none)) else (some true)
def laws_zzFits4.f (k : Nat) (l0 : List (S38)) : Option (Bool) := if (l0.length : Int) > 2147483647 then (some false) else (laws_zzFits4.l0 k l0 (l0.length : Int) 0)
theorem laws_zzFits4.mono_l : ∀ k, (∀ y0 y1 y2, LeO (laws_zzFits4.l0 k y0 y1 y2) (laws_zzFits4.l0 (k + 1) y0 y1 y2))
  | 0 => fun _ _ _ r h => by simp [laws_zzFits4.l0] at h
  | k + 1 => by
    have ih0 := laws_zzFits4.mono_l k
    · intro y0 y1 y2
      unfold laws_zzFits4.l0
      repeat' first
      | (with_reducible exact ih0 _ _ _)
      | (with_reducible exact LeO.refl _)
      | (with_reducible exact LeO.none _)
      | (with_reducible refine LeO.ite ?_ ?_)
      | (with_reducible refine LeO.bind ?_ (fun _ => ?_))
      | exact ih0 _ _ _
      | exact LeO.none _
      | refine LeO.ite ?_ ?_
      | refine LeO.bind ?_ (fun _ => ?_)
theorem laws_zzFits4.mono : ∀ a0 k, LeO (laws_zzFits4.f k a0) (laws_zzFits4.f (k + 1) a0) := by
  intro a0 k
  have ih0 := laws_zzFits4.mono_l k
  unfold laws_zzFits4.f
  repeat' first
      | (with_reducible exact ih0 _ _ _)
      | (with_reducible exact LeO.refl _)
      | (with_reducible exact LeO.none _)
      | (with_reducible refine LeO.ite ?_ ?_)
      | (with_reducible refine LeO.bind ?_ (fun _ => ?_))
      | exact ih0 _ _ _
      | exact LeO.none _
      | refine LeO.ite ?_ ?_
      | refine LeO.bind ?_ (fun _ => ?_)
set_option maxHeartbeats 8000000 in
set_option maxRecDepth 100000 in
theorem laws_zzFits4.calls (k : Nat) (A0 : Option Addr) (c0 : Nat) (l0 : List (S38)) (r : Bool) (w : World) (hr0 : Kd.C k38 w A0 l0.length l0) (hc0 : l0.length ≤ c0) (h : laws_zzFits4.f k l0 = some r) :
    Calls Try.prog 13 #[.slice A0 l0.length c0] w fun e w' => e = .returned (.bool r) ∧ Below w.heap.size w w' := by
  have hu38 := Try.underlying38
  have HR0 := Aside0.mk hr0
  have HC0 := Aside0.mk hc0
  clear hr0 hc0
  have HB := Aside0.mk (Below.refl w.heap.size w)
  have H : (if (l0.length : Int) > 2147483647 then (some false) else (laws_zzFits4.l0 k l0 (l0.length : Int) 0)) = some r := h
  clear h
  by_cases c2 : (l0.length : Int) > 2147483647
  · rw [if_pos c2] at H
    have c2b0 : decide (2147483647 < (l0.length : Int)) = true := decide_eq_true c2
    have c2b1 : decide (2147483647 < l0.length) = true := decide_eq_true (by omega)
    clear c2
    obtain rfl := Option.some.inj H
    go_enter Try.func13, Try.ntmps13
    go_wp2
    go_ret
    exact ⟨by first | rfl | (simp [errW_none, errW_some] <;> rfl) | (simp [*, errW_none, errW_some] <;> rfl), by repeat (first | (with_reducible first | exact HB.out | apply below_alloc | apply pw_below_drewN | apply below_drew1) | exact HB.out)⟩
  · rw [if_neg c2] at H
    have c2b0 : decide (2147483647 < (l0.length : Int)) = false := decide_eq_false c2
    have c2b1 : decide (2147483647 < l0.length) = false := decide_eq_false (by omega)
    clear c2
    have H' := Aside0.mk H
    clear H
    go_enter Try.func13, Try.ntmps13
    go_wp2
    go_loopg [10] k (fun kq v10 w' => ∃ (x10_1 : Int), v10 = .int .i64 x10_1 ∧ Aside0 (laws_zzFits4.l0 kq l0 (l0.length : Int) x10_1 = some r) ∧ Aside0 (kq ≤ k) ∧ Aside0 (Below w.heap.size w w'))
    case atStart => exact ⟨(0), (by first | rfl | (simp; done) | (simp [*]; done)), H', ⟨Nat.le_refl _⟩, ⟨by repeat (first | (with_reducible first | exact HB.out | apply below_alloc | apply pw_below_drewN | apply below_drew1) | exact HB.out)⟩⟩
    case round =>
      clear H'
      try clear c1
      try clear c2
      try clear c2b0
      try clear c2b1
      try clear p2
      obtain ⟨x10_1, rfl, HA, HK1, HB⟩ := hrel
      cases gk with
      | zero => exact absurd HA.out (by simp [laws_zzFits4.l0])
      | succ k1 =>
        have H := HA.out
        clear HA
        simp only [laws_zzFits4.l0] at H
        by_cases c3 : x10_1 < (l0.length : Int)
        · rw [if_pos c3] at H
          have c3b0 : decide (x10_1 < (l0.length : Int)) = true := decide_eq_true c3
          clear c3
          by_cases c4 : 0 ≤ x10_1
          · rw [if_pos c4] at H
            have c4b0 : decide (0 ≤ x10_1) = true := decide_eq_true c4
            clear c4
            by_cases c5 : x10_1 < (l0.length : Int)
            · rw [if_pos c5] at H
              have c5b0 : decide (x10_1 < (l0.length : Int)) = true := decide_eq_true c5
              clear c5
              replace H := Option.bind_eq_some_iff.mp H
              obtain ⟨t104, A60, H⟩ := H
              replace H : (if t104 = true then (laws_zzFits4.l0 k1 l0 (l0.length : Int) (wrap64 (x10_1 + 1))) else (some false)) = some r := H
              have A6 := Aside0.mk A60
              clear A60
              by_cases c7 : t104 = true
              · subst c7
                have H1 : (laws_zzFits4.l0 k1 l0 (l0.length : Int) (wrap64 (x10_1 + 1))) = some r := by rw [if_pos rfl] at H; exact H
                clear H
                have H := H1
                clear H1
                have H' := Aside0.mk H
                clear H
                have p102 : 0 ≤ (x10_1 : Int) := of_decide_eq_true (by first | (with_reducible assumption) | assumption)
                have q102 : x10_1 < (l0.length : Int) := of_decide_eq_true (by first | (with_reducible assumption) | assumption)
                obtain ⟨ad102, e102, hx102_0, hx102_1, hx102_2⟩ := at_T38 HR0.out x10_1 p102 q102
                cases e102
                replace hx102_0 := (HB.out.cell (World.block_lt_of_cell? w _ hx102_0)).trans hx102_0
                replace hx102_1 := (HB.out.cell (World.block_lt_of_cell? w _ hx102_1)).trans hx102_1
                replace hx102_2 := (HB.out.cell (World.block_lt_of_cell? w _ hx102_2)).trans hx102_2
                replace p102 := eq_true p102
                replace q102 := eq_true q102
                go_wp2_with (first | ((with_reducible refine gate_dst (N := 4) rfl ?_); refine box_event ?hg (N := 4) ?hd (cs := #[.int .i64 0, .string (⟨#[]⟩ : ByteArray), .int .i64 0]) (t := 38) ?hr ?_; (case hd => rfl); (case hg => rfl); (case hr => first | (go_simp; done) | (go_simp; rfl)); intro gb103 hg w8 hbox hb; have n0_ := Aside0.mk (below_step (by repeat (first | (with_reducible first | exact HB.out | apply below_alloc | apply pw_below_drewN | apply below_drew1) | exact HB.out)) hb); have n1_ := Aside0.mk (hbox); have n2_ := Aside0.mk ((by rw [hg]; exact (below_size (by repeat (first | (with_reducible first | exact HB.out | apply below_alloc | apply pw_below_drewN | apply below_drew1) | exact HB.out))) : w.heap.size ≤ gb103)); have n3_ := Aside0.mk ((by rw [hg]; exact (below_size (by repeat (first | (with_reducible first | exact HB.out | apply below_alloc | apply pw_below_drewN | apply below_drew1) | exact HB.out))) : w.heap.size ≤ gb103)); clear HB; have HB := n0_; have BK103 := n1_; have GW103 := n2_; have GE103 := n3_; clear n0_ n1_ n2_ n3_; clear hb hbox hg; have hcz9_0 : w8.cell? ⟨gb103, 0, none⟩ = some (.int .i64 0) := (blk_cell BK103.out 0).trans rfl; have hcz9_1 : w8.cell? ⟨gb103, 1, none⟩ = some (.string (⟨#[]⟩ : ByteArray)) := (blk_cell BK103.out 1).trans rfl; have hcz9_2 : w8.cell? ⟨gb103, 2, none⟩ = some (.int .i64 0) := (blk_cell BK103.out 2).trans rfl; have hfz9_0 := blk_frozen BK103.out 0; have hfz9_1 := blk_frozen BK103.out 1; have hfz9_2 := blk_frozen BK103.out 2) | ((with_reducible refine gate_callee (f := 29) rfl ?_); refine goesL_ (some 15) rfl rfl Try.func29 (by kernel_rfl) rfl #[.agg #[.int .i64 ((rd_T38 l0 x10_1).f0), .string ((rd_T38 l0 x10_1).f1), .int .i64 ((rd_T38 l0 x10_1).f2)]] rfl (by (try simp only [List.map_toArray, List.map_cons, List.map_nil]); first | done | rfl | (simp only [List.length_drop, List.length_take]; rfl)) ?_; (with_reducible refine (laws_zzFits5.calls ((rd_T38 l0 x10_1).f0) ((rd_T38 l0 x10_1).f1) ((rd_T38 l0 x10_1).f2) true _ A6.out).mono ?_); rintro e w10 ⟨rfl, hb⟩; refine ⟨_, rfl, ?_⟩; have n0_ := Aside0.mk (blk_below (g := gb103) (o := .cells #[.int .i64 ((rd_T38 l0 x10_1).f0), .string ((rd_T38 l0 x10_1).f1), .int .i64 ((rd_T38 l0 x10_1).f2)] 38 (0, 0)) (by (with_reducible repeat (first | refine blk_drewN ?_ _ | refine blk_drew ?_ | refine blk_alloc ?_ _)); refine blk_put (cs := #[.int .i64 ((rd_T38 l0 x10_1).f0), .string ((rd_T38 l0 x10_1).f1), .int .i64 0]) ?_ 2 _ rfl; (with_reducible repeat (first | refine blk_drewN ?_ _ | refine blk_drew ?_ | refine blk_alloc ?_ _)); refine blk_put (cs := #[.int .i64 ((rd_T38 l0 x10_1).f0), .string (⟨#[]⟩ : ByteArray), .int .i64 0]) ?_ 1 _ rfl; (with_reducible repeat (first | refine blk_drewN ?_ _ | refine blk_drew ?_ | refine blk_alloc ?_ _)); refine blk_put (cs := #[.int .i64 0, .string (⟨#[]⟩ : ByteArray), .int .i64 0]) ?_ 0 _ rfl; (with_reducible repeat (first | refine blk_drewN ?_ _ | refine blk_drew ?_ | refine blk_alloc ?_ _)); exact BK103.out) hb); have n1_ := Aside0.mk (below_step (by repeat (first | (with_reducible first | exact HB.out | apply below_alloc | apply pw_below_drewN | apply below_drew1 | refine below_set ?_ GE103.out) | exact HB.out)) hb); clear BK103; clear HB; have BK103 := n0_; have HB := n1_; clear n0_ n1_; (try clear hb); (try clear hb2); (try clear hk); (try clear hi)))
                go_roundg k1
                case measure => have := HK1.out; omega
                case rel => exact ⟨(wrap64 (x10_1 + 1)), (by first | rfl | (simp; done) | (simp [*]; done)), H', ⟨by have := HK1.out; omega⟩, ⟨by repeat (first | (with_reducible first | exact HB.out | apply below_alloc | apply pw_below_drewN | apply below_drew1 | refine below_set ?_ GE103.out) | exact HB.out)⟩⟩
              · replace c7 := Bool.eq_false_iff.mpr c7
                subst c7
                have H1 : (some false) = some r := by rw [if_neg (show ¬ (false = true) by decide)] at H; exact H
                clear H
                have H := H1
                clear H1
                obtain rfl := Option.some.inj H
                have p102 : 0 ≤ (x10_1 : Int) := of_decide_eq_true (by first | (with_reducible assumption) | assumption)
                have q102 : x10_1 < (l0.length : Int) := of_decide_eq_true (by first | (with_reducible assumption) | assumption)
                obtain ⟨ad102, e102, hx102_0, hx102_1, hx102_2⟩ := at_T38 HR0.out x10_1 p102 q102
                cases e102
                replace hx102_0 := (HB.out.cell (World.block_lt_of_cell? w _ hx102_0)).trans hx102_0
                replace hx102_1 := (HB.out.cell (World.block_lt_of_cell? w _ hx102_1)).trans hx102_1
                replace hx102_2 := (HB.out.cell (World.block_lt_of_cell? w _ hx102_2)).trans hx102_2
                replace p102 := eq_true p102
                replace q102 := eq_true q102
                go_wp2_with (first | ((with_reducible refine gate_dst (N := 4) rfl ?_); refine box_event ?hg (N := 4) ?hd (cs := #[.int .i64 0, .string (⟨#[]⟩ : ByteArray), .int .i64 0]) (t := 38) ?hr ?_; (case hd => rfl); (case hg => rfl); (case hr => first | (go_simp; done) | (go_simp; rfl)); intro gb103 hg w11 hbox hb; have n0_ := Aside0.mk (below_step (by repeat (first | (with_reducible first | exact HB.out | apply below_alloc | apply pw_below_drewN | apply below_drew1) | exact HB.out)) hb); have n1_ := Aside0.mk (hbox); have n2_ := Aside0.mk ((by rw [hg]; exact (below_size (by repeat (first | (with_reducible first | exact HB.out | apply below_alloc | apply pw_below_drewN | apply below_drew1) | exact HB.out))) : w.heap.size ≤ gb103)); have n3_ := Aside0.mk ((by rw [hg]; exact (below_size (by repeat (first | (with_reducible first | exact HB.out | apply below_alloc | apply pw_below_drewN | apply below_drew1) | exact HB.out))) : w.heap.size ≤ gb103)); clear HB; have HB := n0_; have BK103 := n1_; have GW103 := n2_; have GE103 := n3_; clear n0_ n1_ n2_ n3_; clear hb hbox hg; have hcz12_0 : w11.cell? ⟨gb103, 0, none⟩ = some (.int .i64 0) := (blk_cell BK103.out 0).trans rfl; have hcz12_1 : w11.cell? ⟨gb103, 1, none⟩ = some (.string (⟨#[]⟩ : ByteArray)) := (blk_cell BK103.out 1).trans rfl; have hcz12_2 : w11.cell? ⟨gb103, 2, none⟩ = some (.int .i64 0) := (blk_cell BK103.out 2).trans rfl; have hfz12_0 := blk_frozen BK103.out 0; have hfz12_1 := blk_frozen BK103.out 1; have hfz12_2 := blk_frozen BK103.out 2) | ((with_reducible refine gate_callee (f := 29) rfl ?_); refine goesL_ (some 15) rfl rfl Try.func29 (by kernel_rfl) rfl #[.agg #[.int .i64 ((rd_T38 l0 x10_1).f0), .string ((rd_T38 l0 x10_1).f1), .int .i64 ((rd_T38 l0 x10_1).f2)]] rfl (by (try simp only [List.map_toArray, List.map_cons, List.map_nil]); first | done | rfl | (simp only [List.length_drop, List.length_take]; rfl)) ?_; (with_reducible refine (laws_zzFits5.calls ((rd_T38 l0 x10_1).f0) ((rd_T38 l0 x10_1).f1) ((rd_T38 l0 x10_1).f2) false _ A6.out).mono ?_); rintro e w13 ⟨rfl, hb⟩; refine ⟨_, rfl, ?_⟩; have n0_ := Aside0.mk (blk_below (g := gb103) (o := .cells #[.int .i64 ((rd_T38 l0 x10_1).f0), .string ((rd_T38 l0 x10_1).f1), .int .i64 ((rd_T38 l0 x10_1).f2)] 38 (0, 0)) (by (with_reducible repeat (first | refine blk_drewN ?_ _ | refine blk_drew ?_ | refine blk_alloc ?_ _)); refine blk_put (cs := #[.int .i64 ((rd_T38 l0 x10_1).f0), .string ((rd_T38 l0 x10_1).f1), .int .i64 0]) ?_ 2 _ rfl; (with_reducible repeat (first | refine blk_drewN ?_ _ | refine blk_drew ?_ | refine blk_alloc ?_ _)); refine blk_put (cs := #[.int .i64 ((rd_T38 l0 x10_1).f0), .string (⟨#[]⟩ : ByteArray), .int .i64 0]) ?_ 1 _ rfl; (with_reducible repeat (first | refine blk_drewN ?_ _ | refine blk_drew ?_ | refine blk_alloc ?_ _)); refine blk_put (cs := #[.int .i64 0, .string (⟨#[]⟩ : ByteArray), .int .i64 0]) ?_ 0 _ rfl; (with_reducible repeat (first | refine blk_drewN ?_ _ | refine blk_drew ?_ | refine blk_alloc ?_ _)); exact BK103.out) hb); have n1_ := Aside0.mk (below_step (by repeat (first | (with_reducible first | exact HB.out | apply below_alloc | apply pw_below_drewN | apply below_drew1 | refine below_set ?_ GE103.out) | exact HB.out)) hb); clear BK103; clear HB; have BK103 := n0_; have HB := n1_; clear n0_ n1_; (try clear hb); (try clear hb2); (try clear hk); (try clear hi)))
                go_ret
                exact ⟨by first | rfl | (simp [errW_none, errW_some] <;> rfl) | (simp [*, errW_none, errW_some] <;> rfl), by repeat (first | (with_reducible first | exact HB.out | apply below_alloc | apply pw_below_drewN | apply below_drew1 | refine below_set ?_ GE103.out) | exact HB.out)⟩
            · rw [if_neg c5] at H
              exact absurd H (by simp)
          · rw [if_neg c4] at H
            exact absurd H (by simp)
        · rw [if_neg c3] at H
          have c3b0 : decide (x10_1 < (l0.length : Int)) = false := decide_eq_false c3
          clear c3
          obtain rfl := Option.some.inj H
          go_wp2
          go_ret
          exact ⟨by first | rfl | (simp [errW_none, errW_some] <;> rfl) | (simp [*, errW_none, errW_some] <;> rfl), by repeat (first | (with_reducible first | exact HB.out | apply below_alloc | apply pw_below_drewN | apply below_drew1) | exact HB.out)⟩

/-! ### spec_Words: function 14 -/
mutual
def spec_Words.l0 : Nat → List ByteArray → List ByteArray → Int → Int → Option (Bool)
  | 0, _, _, _, _ => none
  | k + 1, x0, x7, x8, x9 => if x9 < x8 then (if 0 ≤ x9 then (if x9 < (x7.length : Int) then (spec_Words.l1 k x0 (rdOf ByteArray.empty x7 x9) x7 x8 x9 ((rdOf ByteArray.empty x7 x9).size : Int) 0) else (none)) else (none)) else (some (decide ((x0.length : Int) ≤ 20)))
def spec_Words.l1 : Nat → List ByteArray → ByteArray → List ByteArray → Int → Int → Int → Int → Option (Bool)
  | 0, _, _, _, _, _, _, _ => none
  | k + 1, x0, x4, x7, x8, x9, x14, x15 => if x15 < x14 then (if 0 ≤ x15 then (if x15 < (x4.size : Int) then (if (bt x4 x15) < 97 then (if (bt x4 x15) < 65 then (if (bt x4 x15) < 48 then (some false) else (if (bt x4 x15) > 57 then (some false) else (spec_Words.l1 k x0 x4 x7 x8 x9 x14 (wrap64 (x15 + 1))))) else (if (bt x4 x15) > 90 then (if (bt x4 x15) < 48 then (some false) else (if (bt x4 x15) > 57 then (some false) else (spec_Words.l1 k x0 x4 x7 x8 x9 x14 (wrap64 (x15 + 1))))) else (spec_Words.l1 k x0 x4 x7 x8 x9 x14 (wrap64 (x15 + 1))))) else (if (bt x4 x15) > 122 then (if (bt x4 x15) < 65 then (if (bt x4 x15) < 48 then (some false) else (if (bt x4 x15) > 57 then (some false) else (spec_Words.l1 k x0 x4 x7 x8 x9 x14 (wrap64 (x15 + 1))))) else (if (bt x4 x15) > 90 then (if (bt x4 x15) < 48 then (some false) else (if (bt x4 x15) > 57 then (some false) else (spec_Words.l1 k x0 x4 x7 x8 x9 x14 (wrap64 (x15 + 1))))) else (spec_Words.l1 k x0 x4 x7 x8 x9 x14 (wrap64 (x15 + 1))))) else (spec_Words.l1 k x0 x4 x7 x8 x9 x14 (wrap64 (x15 + 1))))) else (none)) else (none)) else (if (x4.size : Int) < 1 then (some false) else (if (x4.size : Int) > 20 then (some false) else (spec_Words.l0 k x0 x7 x8 (wrap64 (x9 + 1)))))
end
def spec_Words.f (k : Nat) (l0 : List ByteArray) : Option (Bool) := spec_Words.l0 k l0 l0 (l0.length : Int) 0
theorem spec_Words.mono_l : ∀ k, (∀ y0 y1 y2 y3, LeO (spec_Words.l0 k y0 y1 y2 y3) (spec_Words.l0 (k + 1) y0 y1 y2 y3)) ∧ (∀ y0 y1 y2 y3 y4 y5 y6, LeO (spec_Words.l1 k y0 y1 y2 y3 y4 y5 y6) (spec_Words.l1 (k + 1) y0 y1 y2 y3 y4 y5 y6))
  | 0 => ⟨fun _ _ _ _ r h => by simp [spec_Words.l0] at h, fun _ _ _ _ _ _ _ r h => by simp [spec_Words.l1] at h⟩
  | k + 1 => by
    obtain ⟨ih0, ih1⟩ := spec_Words.mono_l k
    refine ⟨?_, ?_⟩
    · intro y0 y1 y2 y3
      unfold spec_Words.l0
      repeat' first
      | (with_reducible exact ih0 _ _ _ _)
      | (with_reducible exact ih1 _ _ _ _ _ _ _)
      | (with_reducible exact LeO.refl _)
      | (with_reducible exact LeO.none _)
      | (with_reducible refine LeO.ite ?_ ?_)
      | (with_reducible refine LeO.bind ?_ (fun _ => ?_))
      | exact ih0 _ _ _ _
      | exact ih1 _ _ _ _ _ _ _
      | exact LeO.none _
      | refine LeO.ite ?_ ?_
      | refine LeO.bind ?_ (fun _ => ?_)
    · intro y0 y1 y2 y3 y4 y5 y6
      unfold spec_Words.l1
      repeat' first
      | (with_reducible exact ih0 _ _ _ _)
      | (with_reducible exact ih1 _ _ _ _ _ _ _)
      | (with_reducible exact LeO.refl _)
      | (with_reducible exact LeO.none _)
      | (with_reducible refine LeO.ite ?_ ?_)
      | (with_reducible refine LeO.bind ?_ (fun _ => ?_))
      | exact ih0 _ _ _ _
      | exact ih1 _ _ _ _ _ _ _
      | exact LeO.none _
      | refine LeO.ite ?_ ?_
      | refine LeO.bind ?_ (fun _ => ?_)
theorem spec_Words.mono : ∀ a0 k, LeO (spec_Words.f k a0) (spec_Words.f (k + 1) a0) := by
  intro a0 k
  obtain ⟨ih0, ih1⟩ := spec_Words.mono_l k
  unfold spec_Words.f
  repeat' first
      | (with_reducible exact ih0 _ _ _ _)
      | (with_reducible exact ih1 _ _ _ _ _ _ _)
      | (with_reducible exact LeO.refl _)
      | (with_reducible exact LeO.none _)
      | (with_reducible refine LeO.ite ?_ ?_)
      | (with_reducible refine LeO.bind ?_ (fun _ => ?_))
      | exact ih0 _ _ _ _
      | exact ih1 _ _ _ _ _ _ _
      | exact LeO.none _
      | refine LeO.ite ?_ ?_
      | refine LeO.bind ?_ (fun _ => ?_)
set_option maxHeartbeats 8000000 in
set_option maxRecDepth 100000 in
theorem spec_Words.calls (k : Nat) (A0 : Option Addr) (c0 : Nat) (l0 : List ByteArray) (r : Bool) (w : World) (hr0 : Kd.C Kd.string w A0 l0.length l0) (hc0 : l0.length ≤ c0) (h : spec_Words.f k l0 = some r) :
    Calls Try.prog 14 #[.slice A0 l0.length c0] w fun e w' => e = .returned (.bool r) ∧ Drawn0 w w' := by
  have HR0 := Aside0.mk hr0
  have HC0 := Aside0.mk hc0
  clear hr0 hc0
  have H : (spec_Words.l0 k l0 l0 (l0.length : Int) 0) = some r := h
  clear h
  have H' := Aside0.mk H
  clear H
  go_enter Try.func14, Try.ntmps14
  go_wp2
  go_loopg [9] k (fun kq v9 w' => ∃ (x9_1 : Int), v9 = .int .i64 x9_1 ∧ Aside0 (spec_Words.l0 kq l0 l0 (l0.length : Int) x9_1 = some r) ∧ Aside0 (kq ≤ k) ∧ Drawn0 w w')
  case atStart => exact ⟨(0), (by first | rfl | (simp; done) | (simp [*]; done)), H', ⟨Nat.le_refl _⟩, by repeat (first | exact Drawn0.refl _ | apply Drawn0.step)⟩
  case round =>
    clear H'
    try clear c1
    obtain ⟨x9_1, rfl, HA, HK1, ⟨m1, rfl⟩⟩ := hrel
    cases gk with
    | zero => exact absurd HA.out (by simp [spec_Words.l0])
    | succ k1 =>
      have H := HA.out
      clear HA
      simp only [spec_Words.l0] at H
      by_cases c2 : x9_1 < (l0.length : Int)
      · rw [if_pos c2] at H
        have c2b0 : decide (x9_1 < (l0.length : Int)) = true := decide_eq_true c2
        clear c2
        by_cases c3 : 0 ≤ x9_1
        · rw [if_pos c3] at H
          have c3b0 : decide (0 ≤ x9_1) = true := decide_eq_true c3
          clear c3
          by_cases c4 : x9_1 < (l0.length : Int)
          · rw [if_pos c4] at H
            have c4b0 : decide (x9_1 < (l0.length : Int)) = true := decide_eq_true c4
            clear c4
            have H' := Aside0.mk H
            clear H
            have p105 : 0 ≤ (x9_1 : Int) := of_decide_eq_true (by first | (with_reducible assumption) | assumption)
            have q105 : x9_1 < (l0.length : Int) := of_decide_eq_true (by first | (with_reducible assumption) | assumption)
            obtain ⟨ad105, e105, hx105_0⟩ := Kd.at_string HR0.out x9_1 p105 q105
            cases e105
            replace p105 := eq_true p105
            replace q105 := eq_true q105
            go_wp2
            go_loopg [15] k1 (fun kq v15 w' => ∃ (x15_2 : Int), v15 = .int .i64 x15_2 ∧ Aside0 (spec_Words.l1 kq l0 (rdOf ByteArray.empty l0 x9_1) l0 (l0.length : Int) x9_1 ((rdOf ByteArray.empty l0 x9_1).size : Int) x15_2 = some r) ∧ Aside0 (kq ≤ k1) ∧ Drawn0 w w')
            case atStart => exact ⟨(0), (by first | rfl | (simp; done) | (simp [*]; done)), H', ⟨Nat.le_refl _⟩, by repeat (first | exact Drawn0.refl _ | apply Drawn0.step)⟩
            case round =>
              clear H'
              try clear c1
              try clear p1
              try clear q1
              try clear hx1
              try clear c2
              try clear c2b0
              try clear p2
              try clear c3
              try clear c3b0
              try clear c4
              try clear c4b0
              try clear hx105_0
              try clear p105
              try clear q105
              obtain ⟨x15_2, rfl, HA, HK2, ⟨m2, rfl⟩⟩ := hrel
              cases gk with
              | zero => exact absurd HA.out (by simp [spec_Words.l1])
              | succ k2 =>
                have H := HA.out
                clear HA
                simp only [spec_Words.l1] at H
                by_cases c5 : x15_2 < ((rdOf ByteArray.empty l0 x9_1).size : Int)
                · rw [if_pos c5] at H
                  have c5b0 : decide (x15_2 < ((rdOf ByteArray.empty l0 x9_1).size : Int)) = true := decide_eq_true c5
                  clear c5
                  by_cases c6 : 0 ≤ x15_2
                  · rw [if_pos c6] at H
                    have c6b0 : decide (0 ≤ x15_2) = true := decide_eq_true c6
                    clear c6
                    by_cases c7 : x15_2 < ((rdOf ByteArray.empty l0 x9_1).size : Int)
                    · rw [if_pos c7] at H
                      have c7b0 : decide (x15_2 < ((rdOf ByteArray.empty l0 x9_1).size : Int)) = true := decide_eq_true c7
                      clear c7
                      by_cases c9 : (bt (rdOf ByteArray.empty l0 x9_1) x15_2) < 97
                      · rw [if_pos c9] at H
                        have c9b0 : decide ((bt (rdOf ByteArray.empty l0 x9_1) x15_2) < 97) = true := decide_eq_true c9
                        clear c9
                        by_cases c10 : (bt (rdOf ByteArray.empty l0 x9_1) x15_2) < 65
                        · rw [if_pos c10] at H
                          have c10b0 : decide ((bt (rdOf ByteArray.empty l0 x9_1) x15_2) < 65) = true := decide_eq_true c10
                          clear c10
                          by_cases c11 : (bt (rdOf ByteArray.empty l0 x9_1) x15_2) < 48
                          · rw [if_pos c11] at H
                            have c11b0 : decide ((bt (rdOf ByteArray.empty l0 x9_1) x15_2) < 48) = true := decide_eq_true c11
                            clear c11
                            obtain rfl := Option.some.inj H
                            have p8 : 0 ≤ (x15_2 : Int) := of_decide_eq_true (by first | (with_reducible assumption) | assumption)
                            have q8 : x15_2 < ((rdOf ByteArray.empty l0 x9_1).size : Int) := of_decide_eq_true (by first | (with_reducible assumption) | assumption)
                            have hx8 := bt_at (rdOf ByteArray.empty l0 x9_1) x15_2
                            replace p8 := eq_true p8
                            replace q8 := eq_true q8
                            go_wp2
                            go_ret
                            exact ⟨by first | rfl | (simp; done) | (simp [*]; done), by repeat (first | exact Drawn0.refl _ | apply Drawn0.step)⟩
                          · rw [if_neg c11] at H
                            have c11b0 : decide ((bt (rdOf ByteArray.empty l0 x9_1) x15_2) < 48) = false := decide_eq_false c11
                            clear c11
                            by_cases c12 : (bt (rdOf ByteArray.empty l0 x9_1) x15_2) > 57
                            · rw [if_pos c12] at H
                              have c12b0 : decide (57 < (bt (rdOf ByteArray.empty l0 x9_1) x15_2)) = true := decide_eq_true c12
                              clear c12
                              obtain rfl := Option.some.inj H
                              have p8 : 0 ≤ (x15_2 : Int) := of_decide_eq_true (by first | (with_reducible assumption) | assumption)
                              have q8 : x15_2 < ((rdOf ByteArray.empty l0 x9_1).size : Int) := of_decide_eq_true (by first | (with_reducible assumption) | assumption)
                              have hx8 := bt_at (rdOf ByteArray.empty l0 x9_1) x15_2
                              replace p8 := eq_true p8
                              replace q8 := eq_true q8
                              go_wp2
                              go_ret
                              exact ⟨by first | rfl | (simp; done) | (simp [*]; done), by repeat (first | exact Drawn0.refl _ | apply Drawn0.step)⟩
                            · rw [if_neg c12] at H
                              have c12b0 : decide (57 < (bt (rdOf ByteArray.empty l0 x9_1) x15_2)) = false := decide_eq_false c12
                              clear c12
                              have H' := Aside0.mk H
                              clear H
                              have p8 : 0 ≤ (x15_2 : Int) := of_decide_eq_true (by first | (with_reducible assumption) | assumption)
                              have q8 : x15_2 < ((rdOf ByteArray.empty l0 x9_1).size : Int) := of_decide_eq_true (by first | (with_reducible assumption) | assumption)
                              have hx8 := bt_at (rdOf ByteArray.empty l0 x9_1) x15_2
                              replace p8 := eq_true p8
                              replace q8 := eq_true q8
                              go_wp2
                              go_roundg k2
                              case measure => have := HK1.out; have := HK2.out; omega
                              case rel => exact ⟨(wrap64 (x15_2 + 1)), (by first | rfl | (simp; done) | (simp [*]; done)), H', ⟨by have := HK1.out; have := HK2.out; omega⟩, by repeat (first | exact Drawn0.refl _ | apply Drawn0.step)⟩
                        · rw [if_neg c10] at H
                          have c10b0 : decide ((bt (rdOf ByteArray.empty l0 x9_1) x15_2) < 65) = false := decide_eq_false c10
                          clear c10
                          by_cases c13 : (bt (rdOf ByteArray.empty l0 x9_1) x15_2) > 90
                          · rw [if_pos c13] at H
                            have c13b0 : decide (90 < (bt (rdOf ByteArray.empty l0 x9_1) x15_2)) = true := decide_eq_true c13
                            clear c13
                            by_cases c14 : (bt (rdOf ByteArray.empty l0 x9_1) x15_2) < 48
                            · rw [if_pos c14] at H
                              have c14b0 : decide ((bt (rdOf ByteArray.empty l0 x9_1) x15_2) < 48) = true := decide_eq_true c14
                              clear c14
                              obtain rfl := Option.some.inj H
                              have p8 : 0 ≤ (x15_2 : Int) := of_decide_eq_true (by first | (with_reducible assumption) | assumption)
                              have q8 : x15_2 < ((rdOf ByteArray.empty l0 x9_1).size : Int) := of_decide_eq_true (by first | (with_reducible assumption) | assumption)
                              have hx8 := bt_at (rdOf ByteArray.empty l0 x9_1) x15_2
                              replace p8 := eq_true p8
                              replace q8 := eq_true q8
                              go_wp2
                              go_ret
                              exact ⟨by first | rfl | (simp; done) | (simp [*]; done), by repeat (first | exact Drawn0.refl _ | apply Drawn0.step)⟩
                            · rw [if_neg c14] at H
                              have c14b0 : decide ((bt (rdOf ByteArray.empty l0 x9_1) x15_2) < 48) = false := decide_eq_false c14
                              clear c14
                              by_cases c15 : (bt (rdOf ByteArray.empty l0 x9_1) x15_2) > 57
                              · rw [if_pos c15] at H
                                have c15b0 : decide (57 < (bt (rdOf ByteArray.empty l0 x9_1) x15_2)) = true := decide_eq_true c15
                                clear c15
                                obtain rfl := Option.some.inj H
                                have p8 : 0 ≤ (x15_2 : Int) := of_decide_eq_true (by first | (with_reducible assumption) | assumption)
                                have q8 : x15_2 < ((rdOf ByteArray.empty l0 x9_1).size : Int) := of_decide_eq_true (by first | (with_reducible assumption) | assumption)
                                have hx8 := bt_at (rdOf ByteArray.empty l0 x9_1) x15_2
                                replace p8 := eq_true p8
                                replace q8 := eq_true q8
                                go_wp2
                                go_ret
                                exact ⟨by first | rfl | (simp; done) | (simp [*]; done), by repeat (first | exact Drawn0.refl _ | apply Drawn0.step)⟩
                              · rw [if_neg c15] at H
                                have c15b0 : decide (57 < (bt (rdOf ByteArray.empty l0 x9_1) x15_2)) = false := decide_eq_false c15
                                clear c15
                                have H' := Aside0.mk H
                                clear H
                                have p8 : 0 ≤ (x15_2 : Int) := of_decide_eq_true (by first | (with_reducible assumption) | assumption)
                                have q8 : x15_2 < ((rdOf ByteArray.empty l0 x9_1).size : Int) := of_decide_eq_true (by first | (with_reducible assumption) | assumption)
                                have hx8 := bt_at (rdOf ByteArray.empty l0 x9_1) x15_2
                                replace p8 := eq_true p8
                                replace q8 := eq_true q8
                                go_wp2
                                go_roundg k2
                                case measure => have := HK1.out; have := HK2.out; omega
                                case rel => exact ⟨(wrap64 (x15_2 + 1)), (by first | rfl | (simp; done) | (simp [*]; done)), H', ⟨by have := HK1.out; have := HK2.out; omega⟩, by repeat (first | exact Drawn0.refl _ | apply Drawn0.step)⟩
                          · rw [if_neg c13] at H
                            have c13b0 : decide (90 < (bt (rdOf ByteArray.empty l0 x9_1) x15_2)) = false := decide_eq_false c13
                            clear c13
                            have H' := Aside0.mk H
                            clear H
                            have p8 : 0 ≤ (x15_2 : Int) := of_decide_eq_true (by first | (with_reducible assumption) | assumption)
                            have q8 : x15_2 < ((rdOf ByteArray.empty l0 x9_1).size : Int) := of_decide_eq_true (by first | (with_reducible assumption) | assumption)
                            have hx8 := bt_at (rdOf ByteArray.empty l0 x9_1) x15_2
                            replace p8 := eq_true p8
                            replace q8 := eq_true q8
                            go_wp2
                            go_roundg k2
                            case measure => have := HK1.out; have := HK2.out; omega
                            case rel => exact ⟨(wrap64 (x15_2 + 1)), (by first | rfl | (simp; done) | (simp [*]; done)), H', ⟨by have := HK1.out; have := HK2.out; omega⟩, by repeat (first | exact Drawn0.refl _ | apply Drawn0.step)⟩
                      · rw [if_neg c9] at H
                        have c9b0 : decide ((bt (rdOf ByteArray.empty l0 x9_1) x15_2) < 97) = false := decide_eq_false c9
                        clear c9
                        by_cases c16 : (bt (rdOf ByteArray.empty l0 x9_1) x15_2) > 122
                        · rw [if_pos c16] at H
                          have c16b0 : decide (122 < (bt (rdOf ByteArray.empty l0 x9_1) x15_2)) = true := decide_eq_true c16
                          clear c16
                          by_cases c17 : (bt (rdOf ByteArray.empty l0 x9_1) x15_2) < 65
                          · rw [if_pos c17] at H
                            have c17b0 : decide ((bt (rdOf ByteArray.empty l0 x9_1) x15_2) < 65) = true := decide_eq_true c17
                            clear c17
                            by_cases c18 : (bt (rdOf ByteArray.empty l0 x9_1) x15_2) < 48
                            · rw [if_pos c18] at H
                              have c18b0 : decide ((bt (rdOf ByteArray.empty l0 x9_1) x15_2) < 48) = true := decide_eq_true c18
                              clear c18
                              obtain rfl := Option.some.inj H
                              have p8 : 0 ≤ (x15_2 : Int) := of_decide_eq_true (by first | (with_reducible assumption) | assumption)
                              have q8 : x15_2 < ((rdOf ByteArray.empty l0 x9_1).size : Int) := of_decide_eq_true (by first | (with_reducible assumption) | assumption)
                              have hx8 := bt_at (rdOf ByteArray.empty l0 x9_1) x15_2
                              replace p8 := eq_true p8
                              replace q8 := eq_true q8
                              go_wp2
                              go_ret
                              exact ⟨by first | rfl | (simp; done) | (simp [*]; done), by repeat (first | exact Drawn0.refl _ | apply Drawn0.step)⟩
                            · rw [if_neg c18] at H
                              have c18b0 : decide ((bt (rdOf ByteArray.empty l0 x9_1) x15_2) < 48) = false := decide_eq_false c18
                              clear c18
                              by_cases c19 : (bt (rdOf ByteArray.empty l0 x9_1) x15_2) > 57
                              · rw [if_pos c19] at H
                                have c19b0 : decide (57 < (bt (rdOf ByteArray.empty l0 x9_1) x15_2)) = true := decide_eq_true c19
                                clear c19
                                obtain rfl := Option.some.inj H
                                have p8 : 0 ≤ (x15_2 : Int) := of_decide_eq_true (by first | (with_reducible assumption) | assumption)
                                have q8 : x15_2 < ((rdOf ByteArray.empty l0 x9_1).size : Int) := of_decide_eq_true (by first | (with_reducible assumption) | assumption)
                                have hx8 := bt_at (rdOf ByteArray.empty l0 x9_1) x15_2
                                replace p8 := eq_true p8
                                replace q8 := eq_true q8
                                go_wp2
                                go_ret
                                exact ⟨by first | rfl | (simp; done) | (simp [*]; done), by repeat (first | exact Drawn0.refl _ | apply Drawn0.step)⟩
                              · rw [if_neg c19] at H
                                have c19b0 : decide (57 < (bt (rdOf ByteArray.empty l0 x9_1) x15_2)) = false := decide_eq_false c19
                                clear c19
                                have H' := Aside0.mk H
                                clear H
                                have p8 : 0 ≤ (x15_2 : Int) := of_decide_eq_true (by first | (with_reducible assumption) | assumption)
                                have q8 : x15_2 < ((rdOf ByteArray.empty l0 x9_1).size : Int) := of_decide_eq_true (by first | (with_reducible assumption) | assumption)
                                have hx8 := bt_at (rdOf ByteArray.empty l0 x9_1) x15_2
                                replace p8 := eq_true p8
                                replace q8 := eq_true q8
                                go_wp2
                                go_roundg k2
                                case measure => have := HK1.out; have := HK2.out; omega
                                case rel => exact ⟨(wrap64 (x15_2 + 1)), (by first | rfl | (simp; done) | (simp [*]; done)), H', ⟨by have := HK1.out; have := HK2.out; omega⟩, by repeat (first | exact Drawn0.refl _ | apply Drawn0.step)⟩
                          · rw [if_neg c17] at H
                            have c17b0 : decide ((bt (rdOf ByteArray.empty l0 x9_1) x15_2) < 65) = false := decide_eq_false c17
                            clear c17
                            by_cases c20 : (bt (rdOf ByteArray.empty l0 x9_1) x15_2) > 90
                            · rw [if_pos c20] at H
                              have c20b0 : decide (90 < (bt (rdOf ByteArray.empty l0 x9_1) x15_2)) = true := decide_eq_true c20
                              clear c20
                              by_cases c21 : (bt (rdOf ByteArray.empty l0 x9_1) x15_2) < 48
                              · rw [if_pos c21] at H
                                have c21b0 : decide ((bt (rdOf ByteArray.empty l0 x9_1) x15_2) < 48) = true := decide_eq_true c21
                                clear c21
                                obtain rfl := Option.some.inj H
                                have p8 : 0 ≤ (x15_2 : Int) := of_decide_eq_true (by first | (with_reducible assumption) | assumption)
                                have q8 : x15_2 < ((rdOf ByteArray.empty l0 x9_1).size : Int) := of_decide_eq_true (by first | (with_reducible assumption) | assumption)
                                have hx8 := bt_at (rdOf ByteArray.empty l0 x9_1) x15_2
                                replace p8 := eq_true p8
                                replace q8 := eq_true q8
                                go_wp2
                                go_ret
                                exact ⟨by first | rfl | (simp; done) | (simp [*]; done), by repeat (first | exact Drawn0.refl _ | apply Drawn0.step)⟩
                              · rw [if_neg c21] at H
                                have c21b0 : decide ((bt (rdOf ByteArray.empty l0 x9_1) x15_2) < 48) = false := decide_eq_false c21
                                clear c21
                                by_cases c22 : (bt (rdOf ByteArray.empty l0 x9_1) x15_2) > 57
                                · rw [if_pos c22] at H
                                  have c22b0 : decide (57 < (bt (rdOf ByteArray.empty l0 x9_1) x15_2)) = true := decide_eq_true c22
                                  clear c22
                                  obtain rfl := Option.some.inj H
                                  have p8 : 0 ≤ (x15_2 : Int) := of_decide_eq_true (by first | (with_reducible assumption) | assumption)
                                  have q8 : x15_2 < ((rdOf ByteArray.empty l0 x9_1).size : Int) := of_decide_eq_true (by first | (with_reducible assumption) | assumption)
                                  have hx8 := bt_at (rdOf ByteArray.empty l0 x9_1) x15_2
                                  replace p8 := eq_true p8
                                  replace q8 := eq_true q8
                                  go_wp2
                                  go_ret
                                  exact ⟨by first | rfl | (simp; done) | (simp [*]; done), by repeat (first | exact Drawn0.refl _ | apply Drawn0.step)⟩
                                · rw [if_neg c22] at H
                                  have c22b0 : decide (57 < (bt (rdOf ByteArray.empty l0 x9_1) x15_2)) = false := decide_eq_false c22
                                  clear c22
                                  have H' := Aside0.mk H
                                  clear H
                                  have p8 : 0 ≤ (x15_2 : Int) := of_decide_eq_true (by first | (with_reducible assumption) | assumption)
                                  have q8 : x15_2 < ((rdOf ByteArray.empty l0 x9_1).size : Int) := of_decide_eq_true (by first | (with_reducible assumption) | assumption)
                                  have hx8 := bt_at (rdOf ByteArray.empty l0 x9_1) x15_2
                                  replace p8 := eq_true p8
                                  replace q8 := eq_true q8
                                  go_wp2
                                  go_roundg k2
                                  case measure => have := HK1.out; have := HK2.out; omega
                                  case rel => exact ⟨(wrap64 (x15_2 + 1)), (by first | rfl | (simp; done) | (simp [*]; done)), H', ⟨by have := HK1.out; have := HK2.out; omega⟩, by repeat (first | exact Drawn0.refl _ | apply Drawn0.step)⟩
                            · rw [if_neg c20] at H
                              have c20b0 : decide (90 < (bt (rdOf ByteArray.empty l0 x9_1) x15_2)) = false := decide_eq_false c20
                              clear c20
                              have H' := Aside0.mk H
                              clear H
                              have p8 : 0 ≤ (x15_2 : Int) := of_decide_eq_true (by first | (with_reducible assumption) | assumption)
                              have q8 : x15_2 < ((rdOf ByteArray.empty l0 x9_1).size : Int) := of_decide_eq_true (by first | (with_reducible assumption) | assumption)
                              have hx8 := bt_at (rdOf ByteArray.empty l0 x9_1) x15_2
                              replace p8 := eq_true p8
                              replace q8 := eq_true q8
                              go_wp2
                              go_roundg k2
                              case measure => have := HK1.out; have := HK2.out; omega
                              case rel => exact ⟨(wrap64 (x15_2 + 1)), (by first | rfl | (simp; done) | (simp [*]; done)), H', ⟨by have := HK1.out; have := HK2.out; omega⟩, by repeat (first | exact Drawn0.refl _ | apply Drawn0.step)⟩
                        · rw [if_neg c16] at H
                          have c16b0 : decide (122 < (bt (rdOf ByteArray.empty l0 x9_1) x15_2)) = false := decide_eq_false c16
                          clear c16
                          have H' := Aside0.mk H
                          clear H
                          have p8 : 0 ≤ (x15_2 : Int) := of_decide_eq_true (by first | (with_reducible assumption) | assumption)
                          have q8 : x15_2 < ((rdOf ByteArray.empty l0 x9_1).size : Int) := of_decide_eq_true (by first | (with_reducible assumption) | assumption)
                          have hx8 := bt_at (rdOf ByteArray.empty l0 x9_1) x15_2
                          replace p8 := eq_true p8
                          replace q8 := eq_true q8
                          go_wp2
                          go_roundg k2
                          case measure => have := HK1.out; have := HK2.out; omega
                          case rel => exact ⟨(wrap64 (x15_2 + 1)), (by first | rfl | (simp; done) | (simp [*]; done)), H', ⟨by have := HK1.out; have := HK2.out; omega⟩, by repeat (first | exact Drawn0.refl _ | apply Drawn0.step)⟩
                    · rw [if_neg c7] at H
                      exact absurd H (by simp)
                  · rw [if_neg c6] at H
                    exact absurd H (by simp)
                · rw [if_neg c5] at H
                  have c5b0 : decide (x15_2 < ((rdOf ByteArray.empty l0 x9_1).size : Int)) = false := decide_eq_false c5
                  clear c5
                  by_cases c23 : ((rdOf ByteArray.empty l0 x9_1).size : Int) < 1
                  · rw [if_pos c23] at H
                    have c23b0 : decide (((rdOf ByteArray.empty l0 x9_1).size : Int) < 1) = true := decide_eq_true c23
                    have c23b1 : decide ((rdOf ByteArray.empty l0 x9_1).size < 1) = true := decide_eq_true (by omega)
                    clear c23
                    obtain rfl := Option.some.inj H
                    go_wp2
                    go_ret
                    exact ⟨by first | rfl | (simp; done) | (simp [*]; done), by repeat (first | exact Drawn0.refl _ | apply Drawn0.step)⟩
                  · rw [if_neg c23] at H
                    have c23b0 : decide (((rdOf ByteArray.empty l0 x9_1).size : Int) < 1) = false := decide_eq_false c23
                    have c23b1 : decide ((rdOf ByteArray.empty l0 x9_1).size < 1) = false := decide_eq_false (by omega)
                    clear c23
                    by_cases c24 : ((rdOf ByteArray.empty l0 x9_1).size : Int) > 20
                    · rw [if_pos c24] at H
                      have c24b0 : decide (20 < ((rdOf ByteArray.empty l0 x9_1).size : Int)) = true := decide_eq_true c24
                      have c24b1 : decide (20 < (rdOf ByteArray.empty l0 x9_1).size) = true := decide_eq_true (by omega)
                      clear c24
                      obtain rfl := Option.some.inj H
                      go_wp2
                      go_ret
                      exact ⟨by first | rfl | (simp; done) | (simp [*]; done), by repeat (first | exact Drawn0.refl _ | apply Drawn0.step)⟩
                    · rw [if_neg c24] at H
                      have c24b0 : decide (20 < ((rdOf ByteArray.empty l0 x9_1).size : Int)) = false := decide_eq_false c24
                      have c24b1 : decide (20 < (rdOf ByteArray.empty l0 x9_1).size) = false := decide_eq_false (by omega)
                      clear c24
                      have H' := Aside0.mk H
                      clear H
                      go_wp2
                      go_roundg k2
                      case measure => have := HK1.out; have := HK2.out; omega
                      case rel => exact ⟨(wrap64 (x9_1 + 1)), (by first | rfl | (simp; done) | (simp [*]; done)), H', ⟨by have := HK1.out; have := HK2.out; omega⟩, by repeat (first | exact Drawn0.refl _ | apply Drawn0.step)⟩
          · rw [if_neg c4] at H
            exact absurd H (by simp)
        · rw [if_neg c3] at H
          exact absurd H (by simp)
      · rw [if_neg c2] at H
        have c2b0 : decide (x9_1 < (l0.length : Int)) = false := decide_eq_false c2
        clear c2
        obtain rfl := Option.some.inj H
        go_wp2
        go_ret
        exact ⟨by first | rfl | (simp; done) | (simp [*]; done), by repeat (first | exact Drawn0.refl _ | apply Drawn0.step)⟩

-- NOT PRINTED: function 15 (spec_Revoked)

/-! ### spec_Cleared: function 16 -/
def spec_Cleared.l0 : Nat → ByteArray → List (S47) → List (S47) → Int → Int → Option ((List (S47)))
  | 0, _, _, _, _, _ => none
  | k + 1, x1, x5, x8, x9, x10 => if x10 < x9 then (if 0 ≤ x10 then (if x10 < (x8.length : Int) then (if ((rd_T47 x8 x10).f0).toList = x1.toList then (spec_Cleared.l0 k x1 x5 x8 x9 (wrap64 (x10 + 1))) else (if x5.length < 5864062014805 then (spec_Cleared.l0 k x1 (x5 ++ [(⟨(rd_T47 x8 x10).f0, (rd_T47 x8 x10).f1⟩ : S47)]) x8 x9 (wrap64 (x10 + 1))) else (none))) else (none)) else (none)) else (some x5)
def spec_Cleared.f (k : Nat) (l0 : List (S47)) (a1 : ByteArray) : Option ((List (S47))) := spec_Cleared.l0 k a1 ([] : List (S47)) l0 (l0.length : Int) 0
theorem spec_Cleared.mono_l : ∀ k, (∀ y0 y1 y2 y3 y4, LeO (spec_Cleared.l0 k y0 y1 y2 y3 y4) (spec_Cleared.l0 (k + 1) y0 y1 y2 y3 y4))
  | 0 => fun _ _ _ _ _ r h => by simp [spec_Cleared.l0] at h
  | k + 1 => by
    have ih0 := spec_Cleared.mono_l k
    · intro y0 y1 y2 y3 y4
      unfold spec_Cleared.l0
      repeat' first
      | (with_reducible exact ih0 _ _ _ _ _)
      | (with_reducible exact LeO.refl _)
      | (with_reducible exact LeO.none _)
      | (with_reducible refine LeO.ite ?_ ?_)
      | (with_reducible refine LeO.bind ?_ (fun _ => ?_))
      | exact ih0 _ _ _ _ _
      | exact LeO.none _
      | refine LeO.ite ?_ ?_
      | refine LeO.bind ?_ (fun _ => ?_)
theorem spec_Cleared.mono : ∀ a0 a1 k, LeO (spec_Cleared.f k a0 a1) (spec_Cleared.f (k + 1) a0 a1) := by
  intro a0 a1 k
  have ih0 := spec_Cleared.mono_l k
  unfold spec_Cleared.f
  repeat' first
      | (with_reducible exact ih0 _ _ _ _ _)
      | (with_reducible exact LeO.refl _)
      | (with_reducible exact LeO.none _)
      | (with_reducible refine LeO.ite ?_ ?_)
      | (with_reducible refine LeO.bind ?_ (fun _ => ?_))
      | exact ih0 _ _ _ _ _
      | exact LeO.none _
      | refine LeO.ite ?_ ?_
      | refine LeO.bind ?_ (fun _ => ?_)
set_option maxHeartbeats 8000000 in
set_option maxRecDepth 100000 in
theorem spec_Cleared.calls (k : Nat) (A0 : Option Addr) (c0 : Nat) (l0 : List (S47)) (a1 : ByteArray) (r : List (S47)) (w : World) (hr0 : Kd.C k47 w A0 l0.length l0) (hc0 : l0.length ≤ c0) (h : spec_Cleared.f k l0 a1 = some r) :
    Calls Try.prog 16 #[.slice A0 l0.length c0, .string a1] w fun e w' => ∃ v0_ : Value, e = .returned (v0_) ∧ Kd.R k47 47 w' w.heap.size (fun _ => True) v0_ r ∧ Below w.heap.size w w' := by
  have hu47 := Try.underlying47
  have HR0 := Aside0.mk hr0
  have HC0 := Aside0.mk hc0
  clear hr0 hc0
  have HB := Aside0.mk (Below.refl w.heap.size w)
  have H : (spec_Cleared.l0 k a1 ([] : List (S47)) l0 (l0.length : Int) 0) = some r := h
  clear h
  have H' := Aside0.mk H
  clear H
  go_enter Try.func16, Try.ntmps16
  go_wp2
  go_loopg [5, 10] k (fun kq v5 v10 w' => ∃ (x5_1 : List (S47)) (x10_1 : Int), v10 = .int .i64 x10_1 ∧ Aside0 (spec_Cleared.l0 kq a1 x5_1 l0 (l0.length : Int) x10_1 = some r) ∧ Aside0 (kq ≤ k) ∧ Aside0 (Kd.R k47 47 w' w.heap.size (fun _ => True) v5 x5_1) ∧ Aside0 (Below w.heap.size w w'))
  case atStart => exact ⟨(([] : List (S47))), (0), (by first | rfl | (simp; done) | (simp [*]; done)), H', ⟨Nat.le_refl _⟩, ⟨by first | exact Kd.R_nil _ _ _ _ _ | exact Kd.N_nil _ _ _ _ _ | exact Kd.V_nil _ _ _ _ _ | exact Kd.Q_nil _ _ _ _ _ | exact Kd.S_nil _ _ _ _ _⟩, ⟨by repeat (first | (with_reducible first | exact HB.out | apply below_alloc | apply pw_below_drewN | apply below_drew1) | exact HB.out)⟩⟩
  case round =>
    clear H'
    try clear c1
    try clear p2
    obtain ⟨x5_1, x10_1, rfl, HA, HK1, HO_5, HB⟩ := hrel
    cases gk with
    | zero => exact absurd HA.out (by simp [spec_Cleared.l0])
    | succ k1 =>
      have H := HA.out
      clear HA
      simp only [spec_Cleared.l0] at H
      by_cases c3 : x10_1 < (l0.length : Int)
      · rw [if_pos c3] at H
        have c3b0 : decide (x10_1 < (l0.length : Int)) = true := decide_eq_true c3
        clear c3
        by_cases c4 : 0 ≤ x10_1
        · rw [if_pos c4] at H
          have c4b0 : decide (0 ≤ x10_1) = true := decide_eq_true c4
          clear c4
          by_cases c5 : x10_1 < (l0.length : Int)
          · rw [if_pos c5] at H
            have c5b0 : decide (x10_1 < (l0.length : Int)) = true := decide_eq_true c5
            clear c5
            by_cases c6 : ((rd_T47 l0 x10_1).f0).toList = a1.toList
            · rw [if_pos c6] at H
              have c6b0 : (((rd_T47 l0 x10_1).f0).toList == a1.toList) = true := beq_iff_eq.mpr c6
              have c6b1 : (((rd_T47 l0 x10_1).f0).toList != a1.toList) = false := bne_eq_false_iff_eq.mpr c6
              clear c6
              have H' := Aside0.mk H
              clear H
              have p110 : 0 ≤ (x10_1 : Int) := of_decide_eq_true (by first | (with_reducible assumption) | assumption)
              have q110 : x10_1 < (l0.length : Int) := of_decide_eq_true (by first | (with_reducible assumption) | assumption)
              obtain ⟨ad110, e110, hx110_0, hx110_1⟩ := at_T47 HR0.out x10_1 p110 q110
              cases e110
              replace hx110_0 := (HB.out.cell (World.block_lt_of_cell? w _ hx110_0)).trans hx110_0
              replace hx110_1 := (HB.out.cell (World.block_lt_of_cell? w _ hx110_1)).trans hx110_1
              replace p110 := eq_true p110
              replace q110 := eq_true q110
              go_wp2_with (first | ((with_reducible refine gate_dst (N := 7) rfl ?_); refine box_event ?hg (N := 7) ?hd (cs := #[.string (⟨#[]⟩ : ByteArray), .int .i64 0]) (t := 47) ?hr ?_; (case hd => rfl); (case hg => rfl); (case hr => first | (go_simp; done) | (go_simp; rfl)); intro gb111 hg w7 hbox hb; have n0_ := Aside0.mk (Kd.R_below (Kd.R_elderB (by (with_reducible repeat (first | apply Kd.R_alloc | apply Kd.R_drewN | apply Kd.R_drew)); exact HO_5.out) gb111 (Nat.le_of_eq hg.symm)) hb); have n1_ := Aside0.mk (below_step (by repeat (first | (with_reducible first | exact HB.out | apply below_alloc | apply pw_below_drewN | apply below_drew1) | exact HB.out)) hb); have n2_ := Aside0.mk (hbox); have n3_ := Aside0.mk ((by rw [hg]; exact (below_size (by repeat (first | (with_reducible first | exact HB.out | apply below_alloc | apply pw_below_drewN | apply below_drew1) | exact HB.out))) : w.heap.size ≤ gb111)); have n4_ := Aside0.mk ((by rw [hg]; exact (below_size (by repeat (first | (with_reducible first | exact HB.out | apply below_alloc | apply pw_below_drewN | apply below_drew1) | exact HB.out))) : w.heap.size ≤ gb111)); clear HO_5; clear HB; have HO_5 := n0_; have HB := n1_; have BK111 := n2_; have GW111 := n3_; have GE111 := n4_; clear n0_ n1_ n2_ n3_ n4_; clear hb hbox hg; have hcz8_0 : w7.cell? ⟨gb111, 0, none⟩ = some (.string (⟨#[]⟩ : ByteArray)) := (blk_cell BK111.out 0).trans rfl; have hcz8_1 : w7.cell? ⟨gb111, 1, none⟩ = some (.int .i64 0) := (blk_cell BK111.out 1).trans rfl; have hfz8_0 := blk_frozen BK111.out 0; have hfz8_1 := blk_frozen BK111.out 1))
              go_roundg k1
              case measure => have := HK1.out; omega
              case rel => exact ⟨(x5_1), (wrap64 (x10_1 + 1)), (by first | rfl | (simp; done) | (simp [*]; done)), H', ⟨by have := HK1.out; omega⟩, ⟨by (with_reducible repeat (first | apply Kd.R_alloc | apply Kd.R_drewN | apply Kd.R_drew)); exact Kd.R_mono (Kd.R_far (p := ⟨gb111, 1, none⟩) (Kd.R_far (p := ⟨gb111, 0, none⟩) (Kd.R_mono HO_5.out (fun k_ hk => (⟨hk, hk.2⟩ : _ ∧ k_ ≠ gb111))) (fun _ hk => hk.2) (.string ((rd_T47 l0 x10_1).f0))) (fun _ hk => hk.2) (.int .i64 ((rd_T47 l0 x10_1).f1))) (fun _ hk => trivial)⟩, ⟨by repeat (first | (with_reducible first | exact HB.out | apply below_alloc | apply pw_below_drewN | apply below_drew1 | refine below_set ?_ GE111.out) | exact HB.out)⟩⟩
            · rw [if_neg c6] at H
              have c6b0 : (((rd_T47 l0 x10_1).f0).toList == a1.toList) = false := beq_eq_false_iff_ne.mpr c6
              have c6b1 : (((rd_T47 l0 x10_1).f0).toList != a1.toList) = true := bne_iff_ne.mpr c6
              by_cases c9 : x5_1.length < 5864062014805
              · rw [if_pos c9] at H
                have LMc9 := Aside0.mk c9
                clear c9
                obtain ⟨y112, hy112⟩ : ∃ y_ : List (S47), y_ = (x5_1 ++ [(⟨(rd_T47 l0 x10_1).f0, (rd_T47 l0 x10_1).f1⟩ : S47)]) := ⟨_, rfl⟩
                replace H : (spec_Cleared.l0 k1 a1 y112 l0 (l0.length : Int) (wrap64 (x10_1 + 1))) = some r := by first | (rw [hy112]; with_reducible exact H) | (have H2_ := (Option.bind_some _ _).symm.trans H; rw [hy112]; with_reducible exact H2_) | (have H2_ := (Option.bind_some _ _).symm.trans H; with_reducible exact H2_) | with_reducible exact H | (rw [hy112]; exact H) | exact H
                have Ny112 := Aside0.mk hy112
                clear hy112
                have H' := Aside0.mk H
                clear H
                have p110 : 0 ≤ (x10_1 : Int) := of_decide_eq_true (by first | (with_reducible assumption) | assumption)
                have q110 : x10_1 < (l0.length : Int) := of_decide_eq_true (by first | (with_reducible assumption) | assumption)
                obtain ⟨ad110, e110, hx110_0, hx110_1⟩ := at_T47 HR0.out x10_1 p110 q110
                cases e110
                replace hx110_0 := (HB.out.cell (World.block_lt_of_cell? w _ hx110_0)).trans hx110_0
                replace hx110_1 := (HB.out.cell (World.block_lt_of_cell? w _ hx110_1)).trans hx110_1
                replace p110 := eq_true p110
                replace q110 := eq_true q110
                go_wp2_with (first | ((with_reducible refine gate_dst (N := 7) rfl ?_); refine box_event ?hg (N := 7) ?hd (cs := #[.string (⟨#[]⟩ : ByteArray), .int .i64 0]) (t := 47) ?hr ?_; (case hd => rfl); (case hg => rfl); (case hr => first | (go_simp; done) | (go_simp; rfl)); intro gb111 hg w10 hbox hb; have n0_ := Aside0.mk (Kd.R_below (Kd.R_elderB (by (with_reducible repeat (first | apply Kd.R_alloc | apply Kd.R_drewN | apply Kd.R_drew)); exact HO_5.out) gb111 (Nat.le_of_eq hg.symm)) hb); have n1_ := Aside0.mk (below_step (by repeat (first | (with_reducible first | exact HB.out | apply below_alloc | apply pw_below_drewN | apply below_drew1) | exact HB.out)) hb); have n2_ := Aside0.mk (hbox); have n3_ := Aside0.mk ((by rw [hg]; exact (below_size (by repeat (first | (with_reducible first | exact HB.out | apply below_alloc | apply pw_below_drewN | apply below_drew1) | exact HB.out))) : w.heap.size ≤ gb111)); have n4_ := Aside0.mk ((by rw [hg]; exact (below_size (by repeat (first | (with_reducible first | exact HB.out | apply below_alloc | apply pw_below_drewN | apply below_drew1) | exact HB.out))) : w.heap.size ≤ gb111)); clear HO_5; clear HB; have HO_5 := n0_; have HB := n1_; have BK111 := n2_; have GW111 := n3_; have GE111 := n4_; clear n0_ n1_ n2_ n3_ n4_; clear hb hbox hg; have hcz11_0 : w10.cell? ⟨gb111, 0, none⟩ = some (.string (⟨#[]⟩ : ByteArray)) := (blk_cell BK111.out 0).trans rfl; have hcz11_1 : w10.cell? ⟨gb111, 1, none⟩ = some (.int .i64 0) := (blk_cell BK111.out 1).trans rfl; have hfz11_0 := blk_frozen BK111.out 0; have hfz11_1 := blk_frozen BK111.out 1) | ((with_reducible refine gate_builtin (b := .append) (xs := #[.tmp 18, .tmp 20]) rfl ?_); at_builtin; refine Kd.R_append k47 (w0 := w) w.heap.size rfl (.tmp 18) (.tmp 20) 35 47 (.agg #[(.string ⟨#[]⟩), (.int .i64 0)]) 24 rfl Try.underlying35 info47 rfl (by decide) (by omega) u5 x5_1 (⟨(rd_T47 l0 x10_1).f0, (rd_T47 l0 x10_1).f1⟩ : S47) [.string ((rd_T47 l0 x10_1).f0), .int .i64 ((rd_T47 l0 x10_1).f1)] (fun k_ => k_ ≠ gb111) (fun _ => False) rfl (by first | (go_simp; done) | (go_simp; rfl)) ?aP (fun _ hk => hk.elim) ?aF ?aO ?aB ?aS ?aL ?_; (case aP => exact k47_mkM _ _ _ (⟨(rd_T47 l0 x10_1).f0, (rd_T47 l0 x10_1).f1⟩ : S47)); (case aB => exact (by repeat (first | (with_reducible first | exact HB.out | apply below_alloc | apply pw_below_drewN | apply below_drew1 | refine below_set ?_ GE111.out) | exact HB.out))); (case aF => exact (fun k_ hk => Kd.freshB (g := gb111) (o := .cells #[.string ((rd_T47 l0 x10_1).f0), .int .i64 ((rd_T47 l0 x10_1).f1)] 47 (0, 0)) (by (with_reducible repeat (first | refine blk_drewN ?_ _ | refine blk_drew ?_ | refine blk_alloc ?_ _)); refine blk_put (cs := #[.string ((rd_T47 l0 x10_1).f0), .int .i64 0]) ?_ 1 _ rfl; (with_reducible repeat (first | refine blk_drewN ?_ _ | refine blk_drew ?_ | refine blk_alloc ?_ _)); refine blk_put (cs := #[.string (⟨#[]⟩ : ByteArray), .int .i64 0]) ?_ 0 _ rfl; (with_reducible repeat (first | refine blk_drewN ?_ _ | refine blk_drew ?_ | refine blk_alloc ?_ _)); exact BK111.out) k_ hk)); (case aO => exact (by (with_reducible repeat (first | apply Kd.R_alloc | apply Kd.R_drewN | apply Kd.R_drew)); exact Kd.R_mono (Kd.R_far (p := ⟨gb111, 1, none⟩) (Kd.R_far (p := ⟨gb111, 0, none⟩) (Kd.R_mono HO_5.out (fun k_ hk => (⟨hk, hk.2⟩ : _ ∧ k_ ≠ gb111))) (fun _ hk => hk.2) (.string ((rd_T47 l0 x10_1).f0))) (fun _ hk => hk.2) (.int .i64 ((rd_T47 l0 x10_1).f1))) (fun _ hk => hk.1.2))); (case aS => exact (below_size (by repeat (first | (with_reducible first | exact HB.out | apply below_alloc | apply pw_below_drewN | apply below_drew1 | refine below_set ?_ GE111.out) | exact HB.out)))); (case aL => have := LMc9.out; omega); intro v113 w12 ho hb hg hat; rw [← Ny112.out] at ho; have n0_ := Aside0.mk (blk_grown (g := gb111) (o := .cells #[.string ((rd_T47 l0 x10_1).f0), .int .i64 ((rd_T47 l0 x10_1).f1)] 47 (0, 0)) (by (with_reducible repeat (first | refine blk_drewN ?_ _ | refine blk_drew ?_ | refine blk_alloc ?_ _)); refine blk_put (cs := #[.string ((rd_T47 l0 x10_1).f0), .int .i64 0]) ?_ 1 _ rfl; (with_reducible repeat (first | refine blk_drewN ?_ _ | refine blk_drew ?_ | refine blk_alloc ?_ _)); refine blk_put (cs := #[.string (⟨#[]⟩ : ByteArray), .int .i64 0]) ?_ 0 _ rfl; (with_reducible repeat (first | refine blk_drewN ?_ _ | refine blk_drew ?_ | refine blk_alloc ?_ _)); exact BK111.out) hg (Kd.R_away HO_5.out (fun _ hk => hk.2))); have n1_ := Aside0.mk (hb); have n2_ := Aside0.mk (ho); clear BK111; clear HB; clear HO_5; have BK111 := n0_; have HB := n1_; have HO114 := n2_; clear n0_ n1_ n2_; clear ho hb hg hat))
                go_roundg k1
                case measure => have := HK1.out; omega
                case rel => exact ⟨(y112), (wrap64 (x10_1 + 1)), (by first | rfl | (simp; done) | (simp [*]; done)), H', ⟨by have := HK1.out; omega⟩, ⟨by (with_reducible repeat (first | apply Kd.R_alloc | apply Kd.R_drewN | apply Kd.R_drew)); exact Kd.R_mono HO114.out (fun _ hk => trivial)⟩, ⟨by repeat (first | (with_reducible first | exact HB.out | apply below_alloc | apply pw_below_drewN | apply below_drew1 | refine below_set ?_ GE111.out) | exact HB.out)⟩⟩
              · rw [if_neg c9] at H
                exact absurd H (by simp)
          · rw [if_neg c5] at H
            exact absurd H (by simp)
        · rw [if_neg c4] at H
          exact absurd H (by simp)
      · rw [if_neg c3] at H
        have c3b0 : decide (x10_1 < (l0.length : Int)) = false := decide_eq_false c3
        clear c3
        obtain rfl := Option.some.inj H
        go_wp2
        go_ret
        exact ⟨_, by first | rfl | (simp [errW_none, errW_some] <;> rfl) | (simp [*, errW_none, errW_some] <;> rfl), by (with_reducible repeat (first | apply Kd.R_alloc | apply Kd.R_drewN | apply Kd.R_drew)); exact HO_5.out, by repeat (first | (with_reducible first | exact HB.out | apply below_alloc | apply pw_below_drewN | apply below_drew1) | exact HB.out)⟩

end Go.Proofs.Ytnbihmagbedfmaa.PFnRevocations
