/- Cut by wip/tools/cutx2.py out of what print.sh wrote for FnRevocations. -/
import Derived.Test.YtnbihmagbedfmaaPFnRevocationsx0
namespace Go.Proofs.Ytnbihmagbedfmaa.PFnRevocations
open Go.RowKit Go.Proofs.YtnbihmagbedfmaaW.PrintWords Go.Proofs.YtnbihmagbedfmaaW.PrintLast Go.Proofs.YtnbihmagbedfmaaW.PrintMore
attribute [local go_sem] max2_int min2_int max_two min_two max_three min_three max_four min_four   -- for this text's walks alone
set_option linter.unusedVariables false
set_option linter.unusedSimpArgs false

/-! ### spec_Is: function 17 -/
def spec_Is.l0 : Nat → ByteArray → Int → List (S47) → Int → Int → Option (Bool)
  | 0, _, _, _, _, _ => none
  | k + 1, x1, x2, x9, x10, x11 => if x11 < x10 then (if 0 ≤ x11 then (if x11 < (x9.length : Int) then (if ((rd_T47 x9 x11).f0).toList = x1.toList then (if ((rd_T47 x9 x11).f1) ≥ x2 then (some true) else (spec_Is.l0 k x1 x2 x9 x10 (wrap64 (x11 + 1)))) else (if ((rd_T47 x9 x11).f0).toList = ([42] : List UInt8) then (if ((rd_T47 x9 x11).f1) ≥ x2 then (some true) else (spec_Is.l0 k x1 x2 x9 x10 (wrap64 (x11 + 1)))) else (spec_Is.l0 k x1 x2 x9 x10 (wrap64 (x11 + 1))))) else (none)) else (none)) else (some false)
def spec_Is.f (k : Nat) (l0 : List (S47)) (a1 : ByteArray) (a2 : Int) : Option (Bool) := spec_Is.l0 k a1 a2 l0 (l0.length : Int) 0
theorem spec_Is.mono_l : ∀ k, (∀ y0 y1 y2 y3 y4, LeO (spec_Is.l0 k y0 y1 y2 y3 y4) (spec_Is.l0 (k + 1) y0 y1 y2 y3 y4))
  | 0 => fun _ _ _ _ _ r h => by simp [spec_Is.l0] at h
  | k + 1 => by
    have ih0 := spec_Is.mono_l k
    · intro y0 y1 y2 y3 y4
      unfold spec_Is.l0
      repeat' first
      | (with_reducible exact ih0 _ _ _ _ _)
      | (with_reducible exact LeO.refl _)
      | (with_reducible exact LeO.none _)
      | (with_reducible refine LeO.ite ?_ ?_)
      | (with_reducible refine LeO.bind ?_ (fun _ => ?_))
      | exact ih0 _ _ _ _ _
      | exact LeO.none _
      | refine LeO.ite ?_ ?_
      | refine LeO.bind ?_ (fun _ => ?_)
theorem spec_Is.mono : ∀ a0 a1 a2 k, LeO (spec_Is.f k a0 a1 a2) (spec_Is.f (k + 1) a0 a1 a2) := by
  intro a0 a1 a2 k
  have ih0 := spec_Is.mono_l k
  unfold spec_Is.f
  repeat' first
      | (with_reducible exact ih0 _ _ _ _ _)
      | (with_reducible exact LeO.refl _)
      | (with_reducible exact LeO.none _)
      | (with_reducible refine LeO.ite ?_ ?_)
      | (with_reducible refine LeO.bind ?_ (fun _ => ?_))
      | exact ih0 _ _ _ _ _
      | exact LeO.none _
      | refine LeO.ite ?_ ?_
      | refine LeO.bind ?_ (fun _ => ?_)
set_option maxHeartbeats 8000000 in
set_option maxRecDepth 100000 in
theorem spec_Is.calls (k : Nat) (A0 : Option Addr) (c0 : Nat) (l0 : List (S47)) (a1 : ByteArray) (a2 : Int) (r : Bool) (w : World) (hr0 : Kd.C k47 w A0 l0.length l0) (hc0 : l0.length ≤ c0) (h : spec_Is.f k l0 a1 a2 = some r) :
    Calls Try.prog 17 #[.slice A0 l0.length c0, .string a1, .int .i64 a2] w fun e w' => e = .returned (.bool r) ∧ Below w.heap.size w w' := by
  have hu47 := Try.underlying47
  have HR0 := Aside0.mk hr0
  have HC0 := Aside0.mk hc0
  clear hr0 hc0
  have HB := Aside0.mk (Below.refl w.heap.size w)
  have H : (spec_Is.l0 k a1 a2 l0 (l0.length : Int) 0) = some r := h
  clear h
  have H' := Aside0.mk H
  clear H
  go_enter Try.func17, Try.ntmps17
  go_wp2
  go_loopg [11] k (fun kq v11 w' => ∃ (x11_1 : Int), v11 = .int .i64 x11_1 ∧ Aside0 (spec_Is.l0 kq a1 a2 l0 (l0.length : Int) x11_1 = some r) ∧ Aside0 (kq ≤ k) ∧ Aside0 (Below w.heap.size w w'))
  case atStart => exact ⟨(0), (by first | rfl | (simp; done) | (simp [*]; done)), H', ⟨Nat.le_refl _⟩, ⟨by repeat (first | (with_reducible first | exact HB.out | apply below_alloc | apply pw_below_drewN | apply below_drew1) | exact HB.out)⟩⟩
  case round =>
    clear H'
    try clear c1
    try clear p2
    obtain ⟨x11_1, rfl, HA, HK1, HB⟩ := hrel
    cases gk with
    | zero => exact absurd HA.out (by simp [spec_Is.l0])
    | succ k1 =>
      have H := HA.out
      clear HA
      simp only [spec_Is.l0] at H
      by_cases c4 : x11_1 < (l0.length : Int)
      · rw [if_pos c4] at H
        have c4b0 : decide (x11_1 < (l0.length : Int)) = true := decide_eq_true c4
        clear c4
        by_cases c5 : 0 ≤ x11_1
        · rw [if_pos c5] at H
          have c5b0 : decide (0 ≤ x11_1) = true := decide_eq_true c5
          clear c5
          by_cases c6 : x11_1 < (l0.length : Int)
          · rw [if_pos c6] at H
            have c6b0 : decide (x11_1 < (l0.length : Int)) = true := decide_eq_true c6
            clear c6
            by_cases c7 : ((rd_T47 l0 x11_1).f0).toList = a1.toList
            · rw [if_pos c7] at H
              have c7b0 : (((rd_T47 l0 x11_1).f0).toList == a1.toList) = true := beq_iff_eq.mpr c7
              have c7b1 : (((rd_T47 l0 x11_1).f0).toList != a1.toList) = false := bne_eq_false_iff_eq.mpr c7
              clear c7
              by_cases c8 : ((rd_T47 l0 x11_1).f1) ≥ a2
              · rw [if_pos c8] at H
                have c8b0 : decide (a2 ≤ ((rd_T47 l0 x11_1).f1)) = true := decide_eq_true c8
                clear c8
                obtain rfl := Option.some.inj H
                have p115 : 0 ≤ (x11_1 : Int) := of_decide_eq_true (by first | (with_reducible assumption) | assumption)
                have q115 : x11_1 < (l0.length : Int) := of_decide_eq_true (by first | (with_reducible assumption) | assumption)
                obtain ⟨ad115, e115, hx115_0, hx115_1⟩ := at_T47 HR0.out x11_1 p115 q115
                cases e115
                replace hx115_0 := (HB.out.cell (World.block_lt_of_cell? w _ hx115_0)).trans hx115_0
                replace hx115_1 := (HB.out.cell (World.block_lt_of_cell? w _ hx115_1)).trans hx115_1
                replace p115 := eq_true p115
                replace q115 := eq_true q115
                go_wp2_with (first | ((with_reducible refine gate_dst (N := 8) rfl ?_); refine box_event ?hg (N := 8) ?hd (cs := #[.string (⟨#[]⟩ : ByteArray), .int .i64 0]) (t := 47) ?hr ?_; (case hd => rfl); (case hg => rfl); (case hr => first | (go_simp; done) | (go_simp; rfl)); intro gb116 hg w9 hbox hb; have n0_ := Aside0.mk (below_step (by repeat (first | (with_reducible first | exact HB.out | apply below_alloc | apply pw_below_drewN | apply below_drew1) | exact HB.out)) hb); have n1_ := Aside0.mk (hbox); have n2_ := Aside0.mk ((by rw [hg]; exact (below_size (by repeat (first | (with_reducible first | exact HB.out | apply below_alloc | apply pw_below_drewN | apply below_drew1) | exact HB.out))) : w.heap.size ≤ gb116)); have n3_ := Aside0.mk ((by rw [hg]; exact (below_size (by repeat (first | (with_reducible first | exact HB.out | apply below_alloc | apply pw_below_drewN | apply below_drew1) | exact HB.out))) : w.heap.size ≤ gb116)); clear HB; have HB := n0_; have BK116 := n1_; have GW116 := n2_; have GE116 := n3_; clear n0_ n1_ n2_ n3_; clear hb hbox hg; have hcz10_0 : w9.cell? ⟨gb116, 0, none⟩ = some (.string (⟨#[]⟩ : ByteArray)) := (blk_cell BK116.out 0).trans rfl; have hcz10_1 : w9.cell? ⟨gb116, 1, none⟩ = some (.int .i64 0) := (blk_cell BK116.out 1).trans rfl; have hfz10_0 := blk_frozen BK116.out 0; have hfz10_1 := blk_frozen BK116.out 1))
                go_ret
                exact ⟨by first | rfl | (simp [errW_none, errW_some] <;> rfl) | (simp [*, errW_none, errW_some] <;> rfl), by repeat (first | (with_reducible first | exact HB.out | apply below_alloc | apply pw_below_drewN | apply below_drew1 | refine below_set ?_ GE116.out) | exact HB.out)⟩
              · rw [if_neg c8] at H
                have c8b0 : decide (a2 ≤ ((rd_T47 l0 x11_1).f1)) = false := decide_eq_false c8
                clear c8
                have H' := Aside0.mk H
                clear H
                have p115 : 0 ≤ (x11_1 : Int) := of_decide_eq_true (by first | (with_reducible assumption) | assumption)
                have q115 : x11_1 < (l0.length : Int) := of_decide_eq_true (by first | (with_reducible assumption) | assumption)
                obtain ⟨ad115, e115, hx115_0, hx115_1⟩ := at_T47 HR0.out x11_1 p115 q115
                cases e115
                replace hx115_0 := (HB.out.cell (World.block_lt_of_cell? w _ hx115_0)).trans hx115_0
                replace hx115_1 := (HB.out.cell (World.block_lt_of_cell? w _ hx115_1)).trans hx115_1
                replace p115 := eq_true p115
                replace q115 := eq_true q115
                go_wp2_with (first | ((with_reducible refine gate_dst (N := 8) rfl ?_); refine box_event ?hg (N := 8) ?hd (cs := #[.string (⟨#[]⟩ : ByteArray), .int .i64 0]) (t := 47) ?hr ?_; (case hd => rfl); (case hg => rfl); (case hr => first | (go_simp; done) | (go_simp; rfl)); intro gb116 hg w11 hbox hb; have n0_ := Aside0.mk (below_step (by repeat (first | (with_reducible first | exact HB.out | apply below_alloc | apply pw_below_drewN | apply below_drew1) | exact HB.out)) hb); have n1_ := Aside0.mk (hbox); have n2_ := Aside0.mk ((by rw [hg]; exact (below_size (by repeat (first | (with_reducible first | exact HB.out | apply below_alloc | apply pw_below_drewN | apply below_drew1) | exact HB.out))) : w.heap.size ≤ gb116)); have n3_ := Aside0.mk ((by rw [hg]; exact (below_size (by repeat (first | (with_reducible first | exact HB.out | apply below_alloc | apply pw_below_drewN | apply below_drew1) | exact HB.out))) : w.heap.size ≤ gb116)); clear HB; have HB := n0_; have BK116 := n1_; have GW116 := n2_; have GE116 := n3_; clear n0_ n1_ n2_ n3_; clear hb hbox hg; have hcz12_0 : w11.cell? ⟨gb116, 0, none⟩ = some (.string (⟨#[]⟩ : ByteArray)) := (blk_cell BK116.out 0).trans rfl; have hcz12_1 : w11.cell? ⟨gb116, 1, none⟩ = some (.int .i64 0) := (blk_cell BK116.out 1).trans rfl; have hfz12_0 := blk_frozen BK116.out 0; have hfz12_1 := blk_frozen BK116.out 1))
                go_roundg k1
                case measure => have := HK1.out; omega
                case rel => exact ⟨(wrap64 (x11_1 + 1)), (by first | rfl | (simp; done) | (simp [*]; done)), H', ⟨by have := HK1.out; omega⟩, ⟨by repeat (first | (with_reducible first | exact HB.out | apply below_alloc | apply pw_below_drewN | apply below_drew1 | refine below_set ?_ GE116.out) | exact HB.out)⟩⟩
            · rw [if_neg c7] at H
              have c7b0 : (((rd_T47 l0 x11_1).f0).toList == a1.toList) = false := beq_eq_false_iff_ne.mpr c7
              have c7b1 : (((rd_T47 l0 x11_1).f0).toList != a1.toList) = true := bne_iff_ne.mpr c7
              by_cases c13 : ((rd_T47 l0 x11_1).f0).toList = ([42] : List UInt8)
              · rw [if_pos c13] at H
                have c13b0 : (((rd_T47 l0 x11_1).f0).toList == ([42] : List UInt8)) = true := beq_iff_eq.mpr c13
                have c13b1 : (((rd_T47 l0 x11_1).f0).toList != ([42] : List UInt8)) = false := bne_eq_false_iff_eq.mpr c13
                clear c13
                by_cases c14 : ((rd_T47 l0 x11_1).f1) ≥ a2
                · rw [if_pos c14] at H
                  have c14b0 : decide (a2 ≤ ((rd_T47 l0 x11_1).f1)) = true := decide_eq_true c14
                  clear c14
                  obtain rfl := Option.some.inj H
                  have p115 : 0 ≤ (x11_1 : Int) := of_decide_eq_true (by first | (with_reducible assumption) | assumption)
                  have q115 : x11_1 < (l0.length : Int) := of_decide_eq_true (by first | (with_reducible assumption) | assumption)
                  obtain ⟨ad115, e115, hx115_0, hx115_1⟩ := at_T47 HR0.out x11_1 p115 q115
                  cases e115
                  replace hx115_0 := (HB.out.cell (World.block_lt_of_cell? w _ hx115_0)).trans hx115_0
                  replace hx115_1 := (HB.out.cell (World.block_lt_of_cell? w _ hx115_1)).trans hx115_1
                  replace p115 := eq_true p115
                  replace q115 := eq_true q115
                  go_wp2_with (first | ((with_reducible refine gate_dst (N := 8) rfl ?_); refine box_event ?hg (N := 8) ?hd (cs := #[.string (⟨#[]⟩ : ByteArray), .int .i64 0]) (t := 47) ?hr ?_; (case hd => rfl); (case hg => rfl); (case hr => first | (go_simp; done) | (go_simp; rfl)); intro gb116 hg w15 hbox hb; have n0_ := Aside0.mk (below_step (by repeat (first | (with_reducible first | exact HB.out | apply below_alloc | apply pw_below_drewN | apply below_drew1) | exact HB.out)) hb); have n1_ := Aside0.mk (hbox); have n2_ := Aside0.mk ((by rw [hg]; exact (below_size (by repeat (first | (with_reducible first | exact HB.out | apply below_alloc | apply pw_below_drewN | apply below_drew1) | exact HB.out))) : w.heap.size ≤ gb116)); have n3_ := Aside0.mk ((by rw [hg]; exact (below_size (by repeat (first | (with_reducible first | exact HB.out | apply below_alloc | apply pw_below_drewN | apply below_drew1) | exact HB.out))) : w.heap.size ≤ gb116)); clear HB; have HB := n0_; have BK116 := n1_; have GW116 := n2_; have GE116 := n3_; clear n0_ n1_ n2_ n3_; clear hb hbox hg; have hcz16_0 : w15.cell? ⟨gb116, 0, none⟩ = some (.string (⟨#[]⟩ : ByteArray)) := (blk_cell BK116.out 0).trans rfl; have hcz16_1 : w15.cell? ⟨gb116, 1, none⟩ = some (.int .i64 0) := (blk_cell BK116.out 1).trans rfl; have hfz16_0 := blk_frozen BK116.out 0; have hfz16_1 := blk_frozen BK116.out 1))
                  go_ret
                  exact ⟨by first | rfl | (simp [errW_none, errW_some] <;> rfl) | (simp [*, errW_none, errW_some] <;> rfl), by repeat (first | (with_reducible first | exact HB.out | apply below_alloc | apply pw_below_drewN | apply below_drew1 | refine below_set ?_ GE116.out) | exact HB.out)⟩
                · rw [if_neg c14] at H
                  have c14b0 : decide (a2 ≤ ((rd_T47 l0 x11_1).f1)) = false := decide_eq_false c14
                  clear c14
                  have H' := Aside0.mk H
                  clear H
                  have p115 : 0 ≤ (x11_1 : Int) := of_decide_eq_true (by first | (with_reducible assumption) | assumption)
                  have q115 : x11_1 < (l0.length : Int) := of_decide_eq_true (by first | (with_reducible assumption) | assumption)
                  obtain ⟨ad115, e115, hx115_0, hx115_1⟩ := at_T47 HR0.out x11_1 p115 q115
                  cases e115
                  replace hx115_0 := (HB.out.cell (World.block_lt_of_cell? w _ hx115_0)).trans hx115_0
                  replace hx115_1 := (HB.out.cell (World.block_lt_of_cell? w _ hx115_1)).trans hx115_1
                  replace p115 := eq_true p115
                  replace q115 := eq_true q115
                  go_wp2_with (first | ((with_reducible refine gate_dst (N := 8) rfl ?_); refine box_event ?hg (N := 8) ?hd (cs := #[.string (⟨#[]⟩ : ByteArray), .int .i64 0]) (t := 47) ?hr ?_; (case hd => rfl); (case hg => rfl); (case hr => first | (go_simp; done) | (go_simp; rfl)); intro gb116 hg w17 hbox hb; have n0_ := Aside0.mk (below_step (by repeat (first | (with_reducible first | exact HB.out | apply below_alloc | apply pw_below_drewN | apply below_drew1) | exact HB.out)) hb); have n1_ := Aside0.mk (hbox); have n2_ := Aside0.mk ((by rw [hg]; exact (below_size (by repeat (first | (with_reducible first | exact HB.out | apply below_alloc | apply pw_below_drewN | apply below_drew1) | exact HB.out))) : w.heap.size ≤ gb116)); have n3_ := Aside0.mk ((by rw [hg]; exact (below_size (by repeat (first | (with_reducible first | exact HB.out | apply below_alloc | apply pw_below_drewN | apply below_drew1) | exact HB.out))) : w.heap.size ≤ gb116)); clear HB; have HB := n0_; have BK116 := n1_; have GW116 := n2_; have GE116 := n3_; clear n0_ n1_ n2_ n3_; clear hb hbox hg; have hcz18_0 : w17.cell? ⟨gb116, 0, none⟩ = some (.string (⟨#[]⟩ : ByteArray)) := (blk_cell BK116.out 0).trans rfl; have hcz18_1 : w17.cell? ⟨gb116, 1, none⟩ = some (.int .i64 0) := (blk_cell BK116.out 1).trans rfl; have hfz18_0 := blk_frozen BK116.out 0; have hfz18_1 := blk_frozen BK116.out 1))
                  go_roundg k1
                  case measure => have := HK1.out; omega
                  case rel => exact ⟨(wrap64 (x11_1 + 1)), (by first | rfl | (simp; done) | (simp [*]; done)), H', ⟨by have := HK1.out; omega⟩, ⟨by repeat (first | (with_reducible first | exact HB.out | apply below_alloc | apply pw_below_drewN | apply below_drew1 | refine below_set ?_ GE116.out) | exact HB.out)⟩⟩
              · rw [if_neg c13] at H
                have c13b0 : (((rd_T47 l0 x11_1).f0).toList == ([42] : List UInt8)) = false := beq_eq_false_iff_ne.mpr c13
                have c13b1 : (((rd_T47 l0 x11_1).f0).toList != ([42] : List UInt8)) = true := bne_iff_ne.mpr c13
                have H' := Aside0.mk H
                clear H
                have p115 : 0 ≤ (x11_1 : Int) := of_decide_eq_true (by first | (with_reducible assumption) | assumption)
                have q115 : x11_1 < (l0.length : Int) := of_decide_eq_true (by first | (with_reducible assumption) | assumption)
                obtain ⟨ad115, e115, hx115_0, hx115_1⟩ := at_T47 HR0.out x11_1 p115 q115
                cases e115
                replace hx115_0 := (HB.out.cell (World.block_lt_of_cell? w _ hx115_0)).trans hx115_0
                replace hx115_1 := (HB.out.cell (World.block_lt_of_cell? w _ hx115_1)).trans hx115_1
                replace p115 := eq_true p115
                replace q115 := eq_true q115
                go_wp2_with (first | ((with_reducible refine gate_dst (N := 8) rfl ?_); refine box_event ?hg (N := 8) ?hd (cs := #[.string (⟨#[]⟩ : ByteArray), .int .i64 0]) (t := 47) ?hr ?_; (case hd => rfl); (case hg => rfl); (case hr => first | (go_simp; done) | (go_simp; rfl)); intro gb116 hg w19 hbox hb; have n0_ := Aside0.mk (below_step (by repeat (first | (with_reducible first | exact HB.out | apply below_alloc | apply pw_below_drewN | apply below_drew1) | exact HB.out)) hb); have n1_ := Aside0.mk (hbox); have n2_ := Aside0.mk ((by rw [hg]; exact (below_size (by repeat (first | (with_reducible first | exact HB.out | apply below_alloc | apply pw_below_drewN | apply below_drew1) | exact HB.out))) : w.heap.size ≤ gb116)); have n3_ := Aside0.mk ((by rw [hg]; exact (below_size (by repeat (first | (with_reducible first | exact HB.out | apply below_alloc | apply pw_below_drewN | apply below_drew1) | exact HB.out))) : w.heap.size ≤ gb116)); clear HB; have HB := n0_; have BK116 := n1_; have GW116 := n2_; have GE116 := n3_; clear n0_ n1_ n2_ n3_; clear hb hbox hg; have hcz20_0 : w19.cell? ⟨gb116, 0, none⟩ = some (.string (⟨#[]⟩ : ByteArray)) := (blk_cell BK116.out 0).trans rfl; have hcz20_1 : w19.cell? ⟨gb116, 1, none⟩ = some (.int .i64 0) := (blk_cell BK116.out 1).trans rfl; have hfz20_0 := blk_frozen BK116.out 0; have hfz20_1 := blk_frozen BK116.out 1))
                go_roundg k1
                case measure => have := HK1.out; omega
                case rel => exact ⟨(wrap64 (x11_1 + 1)), (by first | rfl | (simp; done) | (simp [*]; done)), H', ⟨by have := HK1.out; omega⟩, ⟨by repeat (first | (with_reducible first | exact HB.out | apply below_alloc | apply pw_below_drewN | apply below_drew1 | refine below_set ?_ GE116.out) | exact HB.out)⟩⟩
          · rw [if_neg c6] at H
            exact absurd H (by simp)
        · rw [if_neg c5] at H
          exact absurd H (by simp)
      · rw [if_neg c4] at H
        have c4b0 : decide (x11_1 < (l0.length : Int)) = false := decide_eq_false c4
        clear c4
        obtain rfl := Option.some.inj H
        go_wp2
        go_ret
        exact ⟨by first | rfl | (simp [errW_none, errW_some] <;> rfl) | (simp [*, errW_none, errW_some] <;> rfl), by repeat (first | (with_reducible first | exact HB.out | apply below_alloc | apply pw_below_drewN | apply below_drew1) | exact HB.out)⟩

/-! ### spec_Compact: function 18 -/
mutual
def spec_Compact.l0 : Nat → List (S47) → Int → Bool → List (S47) → Int → Int → Option ((List (S47)))
  | 0, _, _, _, _, _, _ => none
  | k + 1, x0, x3, x4, x10, x11, x12 => if x12 < x11 then (if 0 ≤ x12 then (if x12 < (x10.length : Int) then (if ((rd_T47 x10 x12).f0).toList = ([42] : List UInt8) then (spec_Compact.l0 k x0 ((rd_T47 x10 x12).f1) true x10 x11 (wrap64 (x12 + 1))) else (spec_Compact.l0 k x0 x3 x4 x10 x11 (wrap64 (x12 + 1)))) else (none)) else (none)) else (spec_Compact.l1 k x3 x4 ([] : List (S47)) x0 (x0.length : Int) 0)
def spec_Compact.l1 : Nat → Int → Bool → List (S47) → List (S47) → Int → Int → Option ((List (S47)))
  | 0, _, _, _, _, _, _ => none
  | k + 1, x3, x4, x7, x22, x23, x24 => if x24 < x23 then (if 0 ≤ x24 then (if x24 < (x22.length : Int) then (if ((rd_T47 x22 x24).f0).toList = ([42] : List UInt8) then (if x7.length < 5864062014805 then (spec_Compact.l1 k x3 x4 (x7 ++ [(⟨(rd_T47 x22 x24).f0, (rd_T47 x22 x24).f1⟩ : S47)]) x22 x23 (wrap64 (x24 + 1))) else (none)) else (if x4 = true then (if ((rd_T47 x22 x24).f1) > x3 then (if x7.length < 5864062014805 then (spec_Compact.l1 k x3 x4 (x7 ++ [(⟨(rd_T47 x22 x24).f0, (rd_T47 x22 x24).f1⟩ : S47)]) x22 x23 (wrap64 (x24 + 1))) else (none)) else (spec_Compact.l1 k x3 x4 x7 x22 x23 (wrap64 (x24 + 1)))) else (if x7.length < 5864062014805 then (spec_Compact.l1 k x3 x4 (x7 ++ [(⟨(rd_T47 x22 x24).f0, (rd_T47 x22 x24).f1⟩ : S47)]) x22 x23 (wrap64 (x24 + 1))) else (none)))) else (none)) else (none)) else (some x7)
end
def spec_Compact.f (k : Nat) (l0 : List (S47)) : Option ((List (S47))) := spec_Compact.l0 k l0 0 false l0 (l0.length : Int) 0
theorem spec_Compact.mono_l : ∀ k, (∀ y0 y1 y2 y3 y4 y5, LeO (spec_Compact.l0 k y0 y1 y2 y3 y4 y5) (spec_Compact.l0 (k + 1) y0 y1 y2 y3 y4 y5)) ∧ (∀ y0 y1 y2 y3 y4 y5, LeO (spec_Compact.l1 k y0 y1 y2 y3 y4 y5) (spec_Compact.l1 (k + 1) y0 y1 y2 y3 y4 y5))
  | 0 => ⟨fun _ _ _ _ _ _ r h => by simp [spec_Compact.l0] at h, fun _ _ _ _ _ _ r h => by simp [spec_Compact.l1] at h⟩
  | k + 1 => by
    obtain ⟨ih0, ih1⟩ := spec_Compact.mono_l k
    refine ⟨?_, ?_⟩
    · intro y0 y1 y2 y3 y4 y5
      unfold spec_Compact.l0
      repeat' first
      | (with_reducible exact ih0 _ _ _ _ _ _)
      | (with_reducible exact ih1 _ _ _ _ _ _)
      | (with_reducible exact LeO.refl _)
      | (with_reducible exact LeO.none _)
      | (with_reducible refine LeO.ite ?_ ?_)
      | (with_reducible refine LeO.bind ?_ (fun _ => ?_))
      | exact ih0 _ _ _ _ _ _
      | exact ih1 _ _ _ _ _ _
      | exact LeO.none _
      | refine LeO.ite ?_ ?_
      | refine LeO.bind ?_ (fun _ => ?_)
    · intro y0 y1 y2 y3 y4 y5
      unfold spec_Compact.l1
      repeat' first
      | (with_reducible exact ih0 _ _ _ _ _ _)
      | (with_reducible exact ih1 _ _ _ _ _ _)
      | (with_reducible exact LeO.refl _)
      | (with_reducible exact LeO.none _)
      | (with_reducible refine LeO.ite ?_ ?_)
      | (with_reducible refine LeO.bind ?_ (fun _ => ?_))
      | exact ih0 _ _ _ _ _ _
      | exact ih1 _ _ _ _ _ _
      | exact LeO.none _
      | refine LeO.ite ?_ ?_
      | refine LeO.bind ?_ (fun _ => ?_)
theorem spec_Compact.mono : ∀ a0 k, LeO (spec_Compact.f k a0) (spec_Compact.f (k + 1) a0) := by
  intro a0 k
  obtain ⟨ih0, ih1⟩ := spec_Compact.mono_l k
  unfold spec_Compact.f
  repeat' first
      | (with_reducible exact ih0 _ _ _ _ _ _)
      | (with_reducible exact ih1 _ _ _ _ _ _)
      | (with_reducible exact LeO.refl _)
      | (with_reducible exact LeO.none _)
      | (with_reducible refine LeO.ite ?_ ?_)
      | (with_reducible refine LeO.bind ?_ (fun _ => ?_))
      | exact ih0 _ _ _ _ _ _
      | exact ih1 _ _ _ _ _ _
      | exact LeO.none _
      | refine LeO.ite ?_ ?_
      | refine LeO.bind ?_ (fun _ => ?_)
set_option maxHeartbeats 8000000 in
set_option maxRecDepth 100000 in
theorem spec_Compact.calls (k : Nat) (A0 : Option Addr) (c0 : Nat) (l0 : List (S47)) (r : List (S47)) (w : World) (hr0 : Kd.C k47 w A0 l0.length l0) (hc0 : l0.length ≤ c0) (h : spec_Compact.f k l0 = some r) :
    Calls Try.prog 18 #[.slice A0 l0.length c0] w fun e w' => ∃ v0_ : Value, e = .returned (v0_) ∧ Kd.R k47 47 w' w.heap.size (fun _ => True) v0_ r ∧ Below w.heap.size w w' := by
  have hu47 := Try.underlying47
  have HR0 := Aside0.mk hr0
  have HC0 := Aside0.mk hc0
  clear hr0 hc0
  have HB := Aside0.mk (Below.refl w.heap.size w)
  have H : (spec_Compact.l0 k l0 0 false l0 (l0.length : Int) 0) = some r := h
  clear h
  have H' := Aside0.mk H
  clear H
  go_enter Try.func18, Try.ntmps18
  go_wp2
  go_loopg [3, 4, 12] k (fun kq v3 v4 v12 w' => ∃ (x3_1 : Int) (x4_1 : Bool) (x12_1 : Int), v3 = .int .i64 x3_1 ∧ v4 = .bool x4_1 ∧ v12 = .int .i64 x12_1 ∧ Aside0 (spec_Compact.l0 kq l0 x3_1 x4_1 l0 (l0.length : Int) x12_1 = some r) ∧ Aside0 (kq ≤ k) ∧ Aside0 (Below w.heap.size w w'))
  case atStart => exact ⟨(0), (false), (0), (by first | rfl | (simp; done) | (simp [*]; done)), (by first | rfl | (simp; done) | (simp [*]; done)), (by first | rfl | (simp; done) | (simp [*]; done)), H', ⟨Nat.le_refl _⟩, ⟨by repeat (first | (with_reducible first | exact HB.out | apply below_alloc | apply pw_below_drewN | apply below_drew1) | exact HB.out)⟩⟩
  case round =>
    clear H'
    try clear c1
    obtain ⟨x3_1, x4_1, x12_1, rfl, rfl, rfl, HA, HK1, HB⟩ := hrel
    cases gk with
    | zero => exact absurd HA.out (by simp [spec_Compact.l0])
    | succ k1 =>
      have H := HA.out
      clear HA
      simp only [spec_Compact.l0] at H
      by_cases c2 : x12_1 < (l0.length : Int)
      · rw [if_pos c2] at H
        have c2b0 : decide (x12_1 < (l0.length : Int)) = true := decide_eq_true c2
        clear c2
        by_cases c3 : 0 ≤ x12_1
        · rw [if_pos c3] at H
          have c3b0 : decide (0 ≤ x12_1) = true := decide_eq_true c3
          clear c3
          by_cases c4 : x12_1 < (l0.length : Int)
          · rw [if_pos c4] at H
            have c4b0 : decide (x12_1 < (l0.length : Int)) = true := decide_eq_true c4
            clear c4
            by_cases c5 : ((rd_T47 l0 x12_1).f0).toList = ([42] : List UInt8)
            · rw [if_pos c5] at H
              have c5b0 : (((rd_T47 l0 x12_1).f0).toList == ([42] : List UInt8)) = true := beq_iff_eq.mpr c5
              have c5b1 : (((rd_T47 l0 x12_1).f0).toList != ([42] : List UInt8)) = false := bne_eq_false_iff_eq.mpr c5
              clear c5
              have H' := Aside0.mk H
              clear H
              have p117 : 0 ≤ (x12_1 : Int) := of_decide_eq_true (by first | (with_reducible assumption) | assumption)
              have q117 : x12_1 < (l0.length : Int) := of_decide_eq_true (by first | (with_reducible assumption) | assumption)
              obtain ⟨ad117, e117, hx117_0, hx117_1⟩ := at_T47 HR0.out x12_1 p117 q117
              cases e117
              replace hx117_0 := (HB.out.cell (World.block_lt_of_cell? w _ hx117_0)).trans hx117_0
              replace hx117_1 := (HB.out.cell (World.block_lt_of_cell? w _ hx117_1)).trans hx117_1
              replace p117 := eq_true p117
              replace q117 := eq_true q117
              go_wp2_with (first | ((with_reducible refine gate_dst (N := 6) rfl ?_); refine box_event ?hg (N := 6) ?hd (cs := #[.string (⟨#[]⟩ : ByteArray), .int .i64 0]) (t := 47) ?hr ?_; (case hd => rfl); (case hg => rfl); (case hr => first | (go_simp; done) | (go_simp; rfl)); intro gb118 hg w6 hbox hb; have n0_ := Aside0.mk (below_step (by repeat (first | (with_reducible first | exact HB.out | apply below_alloc | apply pw_below_drewN | apply below_drew1) | exact HB.out)) hb); have n1_ := Aside0.mk (hbox); have n2_ := Aside0.mk ((by rw [hg]; exact (below_size (by repeat (first | (with_reducible first | exact HB.out | apply below_alloc | apply pw_below_drewN | apply below_drew1) | exact HB.out))) : w.heap.size ≤ gb118)); have n3_ := Aside0.mk ((by rw [hg]; exact (below_size (by repeat (first | (with_reducible first | exact HB.out | apply below_alloc | apply pw_below_drewN | apply below_drew1) | exact HB.out))) : w.heap.size ≤ gb118)); clear HB; have HB := n0_; have BK118 := n1_; have GW118 := n2_; have GE118 := n3_; clear n0_ n1_ n2_ n3_; clear hb hbox hg; have hcz7_0 : w6.cell? ⟨gb118, 0, none⟩ = some (.string (⟨#[]⟩ : ByteArray)) := (blk_cell BK118.out 0).trans rfl; have hcz7_1 : w6.cell? ⟨gb118, 1, none⟩ = some (.int .i64 0) := (blk_cell BK118.out 1).trans rfl; have hfz7_0 := blk_frozen BK118.out 0; have hfz7_1 := blk_frozen BK118.out 1))
              go_roundg k1
              case measure => have := HK1.out; omega
              case rel => exact ⟨((rd_T47 l0 x12_1).f1), (true), (wrap64 (x12_1 + 1)), (by first | rfl | (simp; done) | (simp [*]; done)), (by first | rfl | (simp; done) | (simp [*]; done)), (by first | rfl | (simp; done) | (simp [*]; done)), H', ⟨by have := HK1.out; omega⟩, ⟨by repeat (first | (with_reducible first | exact HB.out | apply below_alloc | apply pw_below_drewN | apply below_drew1 | refine below_set ?_ GE118.out) | exact HB.out)⟩⟩
            · rw [if_neg c5] at H
              have c5b0 : (((rd_T47 l0 x12_1).f0).toList == ([42] : List UInt8)) = false := beq_eq_false_iff_ne.mpr c5
              have c5b1 : (((rd_T47 l0 x12_1).f0).toList != ([42] : List UInt8)) = true := bne_iff_ne.mpr c5
              have H' := Aside0.mk H
              clear H
              have p117 : 0 ≤ (x12_1 : Int) := of_decide_eq_true (by first | (with_reducible assumption) | assumption)
              have q117 : x12_1 < (l0.length : Int) := of_decide_eq_true (by first | (with_reducible assumption) | assumption)
              obtain ⟨ad117, e117, hx117_0, hx117_1⟩ := at_T47 HR0.out x12_1 p117 q117
              cases e117
              replace hx117_0 := (HB.out.cell (World.block_lt_of_cell? w _ hx117_0)).trans hx117_0
              replace hx117_1 := (HB.out.cell (World.block_lt_of_cell? w _ hx117_1)).trans hx117_1
              replace p117 := eq_true p117
              replace q117 := eq_true q117
              go_wp2_with (first | ((with_reducible refine gate_dst (N := 6) rfl ?_); refine box_event ?hg (N := 6) ?hd (cs := #[.string (⟨#[]⟩ : ByteArray), .int .i64 0]) (t := 47) ?hr ?_; (case hd => rfl); (case hg => rfl); (case hr => first | (go_simp; done) | (go_simp; rfl)); intro gb118 hg w8 hbox hb; have n0_ := Aside0.mk (below_step (by repeat (first | (with_reducible first | exact HB.out | apply below_alloc | apply pw_below_drewN | apply below_drew1) | exact HB.out)) hb); have n1_ := Aside0.mk (hbox); have n2_ := Aside0.mk ((by rw [hg]; exact (below_size (by repeat (first | (with_reducible first | exact HB.out | apply below_alloc | apply pw_below_drewN | apply below_drew1) | exact HB.out))) : w.heap.size ≤ gb118)); have n3_ := Aside0.mk ((by rw [hg]; exact (below_size (by repeat (first | (with_reducible first | exact HB.out | apply below_alloc | apply pw_below_drewN | apply below_drew1) | exact HB.out))) : w.heap.size ≤ gb118)); clear HB; have HB := n0_; have BK118 := n1_; have GW118 := n2_; have GE118 := n3_; clear n0_ n1_ n2_ n3_; clear hb hbox hg; have hcz9_0 : w8.cell? ⟨gb118, 0, none⟩ = some (.string (⟨#[]⟩ : ByteArray)) := (blk_cell BK118.out 0).trans rfl; have hcz9_1 : w8.cell? ⟨gb118, 1, none⟩ = some (.int .i64 0) := (blk_cell BK118.out 1).trans rfl; have hfz9_0 := blk_frozen BK118.out 0; have hfz9_1 := blk_frozen BK118.out 1))
              go_roundg k1
              case measure => have := HK1.out; omega
              case rel => exact ⟨(x3_1), (x4_1), (wrap64 (x12_1 + 1)), (by first | rfl | (simp; done) | (simp [*]; done)), (by first | rfl | (simp; done) | (simp [*]; done)), (by first | rfl | (simp; done) | (simp [*]; done)), H', ⟨by have := HK1.out; omega⟩, ⟨by repeat (first | (with_reducible first | exact HB.out | apply below_alloc | apply pw_below_drewN | apply below_drew1 | refine below_set ?_ GE118.out) | exact HB.out)⟩⟩
          · rw [if_neg c4] at H
            exact absurd H (by simp)
        · rw [if_neg c3] at H
          exact absurd H (by simp)
      · rw [if_neg c2] at H
        have c2b0 : decide (x12_1 < (l0.length : Int)) = false := decide_eq_false c2
        clear c2
        have H' := Aside0.mk H
        clear H
        go_wp2
        go_loopg [7, 24] k1 (fun kq v7 v24 w' => ∃ (x7_2 : List (S47)) (x24_2 : Int), v24 = .int .i64 x24_2 ∧ Aside0 (spec_Compact.l1 kq x3_1 x4_1 x7_2 l0 (l0.length : Int) x24_2 = some r) ∧ Aside0 (kq ≤ k1) ∧ Aside0 (Kd.R k47 47 w' w.heap.size (fun _ => True) v7 x7_2) ∧ Aside0 (Below w.heap.size w w'))
        case atStart => exact ⟨(([] : List (S47))), (0), (by first | rfl | (simp; done) | (simp [*]; done)), H', ⟨Nat.le_refl _⟩, ⟨by first | exact Kd.R_nil _ _ _ _ _ | exact Kd.N_nil _ _ _ _ _ | exact Kd.V_nil _ _ _ _ _ | exact Kd.Q_nil _ _ _ _ _ | exact Kd.S_nil _ _ _ _ _⟩, ⟨by repeat (first | (with_reducible first | exact HB.out | apply below_alloc | apply pw_below_drewN | apply below_drew1) | exact HB.out)⟩⟩
        case round =>
          clear H'
          try clear c1
          try clear p1
          try clear q1
          try clear hx1
          try clear c2
          try clear c2b0
          try clear p2
          try clear c3
          try clear c3b0
          try clear c4
          try clear c4b0
          try clear c5
          try clear c5b0
          try clear c5b1
          try clear p6
          try clear hcz7_0
          try clear hcz7_1
          try clear hcz9_0
          try clear hcz9_1
          try clear hfz7_0
          try clear hfz7_1
          try clear hfz9_0
          try clear hfz9_1
          try clear hx117_0
          try clear hx117_1
          try clear p117
          try clear q117
          obtain ⟨x7_2, x24_2, rfl, HA, HK2, HO_7, HB⟩ := hrel
          cases gk with
          | zero => exact absurd HA.out (by simp [spec_Compact.l1])
          | succ k2 =>
            have H := HA.out
            clear HA
            simp only [spec_Compact.l1] at H
            by_cases c10 : x24_2 < (l0.length : Int)
            · rw [if_pos c10] at H
              have c10b0 : decide (x24_2 < (l0.length : Int)) = true := decide_eq_true c10
              clear c10
              by_cases c11 : 0 ≤ x24_2
              · rw [if_pos c11] at H
                have c11b0 : decide (0 ≤ x24_2) = true := decide_eq_true c11
                clear c11
                by_cases c12 : x24_2 < (l0.length : Int)
                · rw [if_pos c12] at H
                  have c12b0 : decide (x24_2 < (l0.length : Int)) = true := decide_eq_true c12
                  clear c12
                  by_cases c13 : ((rd_T47 l0 x24_2).f0).toList = ([42] : List UInt8)
                  · rw [if_pos c13] at H
                    have c13b0 : (((rd_T47 l0 x24_2).f0).toList == ([42] : List UInt8)) = true := beq_iff_eq.mpr c13
                    have c13b1 : (((rd_T47 l0 x24_2).f0).toList != ([42] : List UInt8)) = false := bne_eq_false_iff_eq.mpr c13
                    clear c13
                    by_cases c14 : x7_2.length < 5864062014805
                    · rw [if_pos c14] at H
                      have LMc14 := Aside0.mk c14
                      clear c14
                      obtain ⟨y121, hy121⟩ : ∃ y_ : List (S47), y_ = (x7_2 ++ [(⟨(rd_T47 l0 x24_2).f0, (rd_T47 l0 x24_2).f1⟩ : S47)]) := ⟨_, rfl⟩
                      replace H : (spec_Compact.l1 k2 x3_1 x4_1 y121 l0 (l0.length : Int) (wrap64 (x24_2 + 1))) = some r := by first | (rw [hy121]; with_reducible exact H) | (have H2_ := (Option.bind_some _ _).symm.trans H; rw [hy121]; with_reducible exact H2_) | (have H2_ := (Option.bind_some _ _).symm.trans H; with_reducible exact H2_) | with_reducible exact H | (rw [hy121]; exact H) | exact H
                      have Ny121 := Aside0.mk hy121
                      clear hy121
                      have H' := Aside0.mk H
                      clear H
                      have p119 : 0 ≤ (x24_2 : Int) := of_decide_eq_true (by first | (with_reducible assumption) | assumption)
                      have q119 : x24_2 < (l0.length : Int) := of_decide_eq_true (by first | (with_reducible assumption) | assumption)
                      obtain ⟨ad119, e119, hx119_0, hx119_1⟩ := at_T47 HR0.out x24_2 p119 q119
                      cases e119
                      replace hx119_0 := (HB.out.cell (World.block_lt_of_cell? w _ hx119_0)).trans hx119_0
                      replace hx119_1 := (HB.out.cell (World.block_lt_of_cell? w _ hx119_1)).trans hx119_1
                      replace p119 := eq_true p119
                      replace q119 := eq_true q119
                      go_wp2_with (first | ((with_reducible refine gate_dst (N := 9) rfl ?_); refine box_event ?hg (N := 9) ?hd (cs := #[.string (⟨#[]⟩ : ByteArray), .int .i64 0]) (t := 47) ?hr ?_; (case hd => rfl); (case hg => rfl); (case hr => first | (go_simp; done) | (go_simp; rfl)); intro gb120 hg w15 hbox hb; have n0_ := Aside0.mk (Kd.R_below (Kd.R_elderB (by (with_reducible repeat (first | apply Kd.R_alloc | apply Kd.R_drewN | apply Kd.R_drew)); exact HO_7.out) gb120 (Nat.le_of_eq hg.symm)) hb); have n1_ := Aside0.mk (below_step (by repeat (first | (with_reducible first | exact HB.out | apply below_alloc | apply pw_below_drewN | apply below_drew1) | exact HB.out)) hb); have n2_ := Aside0.mk (hbox); have n3_ := Aside0.mk ((by rw [hg]; exact (below_size (by repeat (first | (with_reducible first | exact HB.out | apply below_alloc | apply pw_below_drewN | apply below_drew1) | exact HB.out))) : w.heap.size ≤ gb120)); have n4_ := Aside0.mk ((by rw [hg]; exact (below_size (by repeat (first | (with_reducible first | exact HB.out | apply below_alloc | apply pw_below_drewN | apply below_drew1) | exact HB.out))) : w.heap.size ≤ gb120)); clear HO_7; clear HB; have HO_7 := n0_; have HB := n1_; have BK120 := n2_; have GW120 := n3_; have GE120 := n4_; clear n0_ n1_ n2_ n3_ n4_; clear hb hbox hg; have hcz16_0 : w15.cell? ⟨gb120, 0, none⟩ = some (.string (⟨#[]⟩ : ByteArray)) := (blk_cell BK120.out 0).trans rfl; have hcz16_1 : w15.cell? ⟨gb120, 1, none⟩ = some (.int .i64 0) := (blk_cell BK120.out 1).trans rfl; have hfz16_0 := blk_frozen BK120.out 0; have hfz16_1 := blk_frozen BK120.out 1) | ((with_reducible refine gate_builtin (b := .append) (xs := #[.tmp 41, .tmp 43]) rfl ?_); at_builtin; refine Kd.R_append k47 (w0 := w) w.heap.size rfl (.tmp 41) (.tmp 43) 35 47 (.agg #[(.string ⟨#[]⟩), (.int .i64 0)]) 24 rfl Try.underlying35 info47 rfl (by decide) (by omega) u7 x7_2 (⟨(rd_T47 l0 x24_2).f0, (rd_T47 l0 x24_2).f1⟩ : S47) [.string ((rd_T47 l0 x24_2).f0), .int .i64 ((rd_T47 l0 x24_2).f1)] (fun k_ => k_ ≠ gb120) (fun _ => False) rfl (by first | (go_simp; done) | (go_simp; rfl)) ?aP (fun _ hk => hk.elim) ?aF ?aO ?aB ?aS ?aL ?_; (case aP => exact k47_mkM _ _ _ (⟨(rd_T47 l0 x24_2).f0, (rd_T47 l0 x24_2).f1⟩ : S47)); (case aB => exact (by repeat (first | (with_reducible first | exact HB.out | apply below_alloc | apply pw_below_drewN | apply below_drew1 | refine below_set ?_ GE120.out) | exact HB.out))); (case aF => exact (fun k_ hk => Kd.freshB (g := gb120) (o := .cells #[.string ((rd_T47 l0 x24_2).f0), .int .i64 ((rd_T47 l0 x24_2).f1)] 47 (0, 0)) (by (with_reducible repeat (first | refine blk_drewN ?_ _ | refine blk_drew ?_ | refine blk_alloc ?_ _)); refine blk_put (cs := #[.string ((rd_T47 l0 x24_2).f0), .int .i64 0]) ?_ 1 _ rfl; (with_reducible repeat (first | refine blk_drewN ?_ _ | refine blk_drew ?_ | refine blk_alloc ?_ _)); refine blk_put (cs := #[.string (⟨#[]⟩ : ByteArray), .int .i64 0]) ?_ 0 _ rfl; (with_reducible repeat (first | refine blk_drewN ?_ _ | refine blk_drew ?_ | refine blk_alloc ?_ _)); exact BK120.out) k_ hk)); (case aO => exact (by (with_reducible repeat (first | apply Kd.R_alloc | apply Kd.R_drewN | apply Kd.R_drew)); exact Kd.R_mono (Kd.R_far (p := ⟨gb120, 1, none⟩) (Kd.R_far (p := ⟨gb120, 0, none⟩) (Kd.R_mono HO_7.out (fun k_ hk => (⟨hk, hk.2⟩ : _ ∧ k_ ≠ gb120))) (fun _ hk => hk.2) (.string ((rd_T47 l0 x24_2).f0))) (fun _ hk => hk.2) (.int .i64 ((rd_T47 l0 x24_2).f1))) (fun _ hk => hk.1.2))); (case aS => exact (below_size (by repeat (first | (with_reducible first | exact HB.out | apply below_alloc | apply pw_below_drewN | apply below_drew1 | refine below_set ?_ GE120.out) | exact HB.out)))); (case aL => have := LMc14.out; omega); intro v122 w17 ho hb hg hat; rw [← Ny121.out] at ho; have n0_ := Aside0.mk (blk_grown (g := gb120) (o := .cells #[.string ((rd_T47 l0 x24_2).f0), .int .i64 ((rd_T47 l0 x24_2).f1)] 47 (0, 0)) (by (with_reducible repeat (first | refine blk_drewN ?_ _ | refine blk_drew ?_ | refine blk_alloc ?_ _)); refine blk_put (cs := #[.string ((rd_T47 l0 x24_2).f0), .int .i64 0]) ?_ 1 _ rfl; (with_reducible repeat (first | refine blk_drewN ?_ _ | refine blk_drew ?_ | refine blk_alloc ?_ _)); refine blk_put (cs := #[.string (⟨#[]⟩ : ByteArray), .int .i64 0]) ?_ 0 _ rfl; (with_reducible repeat (first | refine blk_drewN ?_ _ | refine blk_drew ?_ | refine blk_alloc ?_ _)); exact BK120.out) hg (Kd.R_away HO_7.out (fun _ hk => hk.2))); have n1_ := Aside0.mk (hb); have n2_ := Aside0.mk (ho); clear BK120; clear HB; clear HO_7; have BK120 := n0_; have HB := n1_; have HO123 := n2_; clear n0_ n1_ n2_; clear ho hb hg hat))
                      go_roundg k2
                      case measure => have := HK1.out; have := HK2.out; omega
                      case rel => exact ⟨(y121), (wrap64 (x24_2 + 1)), (by first | rfl | (simp; done) | (simp [*]; done)), H', ⟨by have := HK1.out; have := HK2.out; omega⟩, ⟨by (with_reducible repeat (first | apply Kd.R_alloc | apply Kd.R_drewN | apply Kd.R_drew)); exact Kd.R_mono HO123.out (fun _ hk => trivial)⟩, ⟨by repeat (first | (with_reducible first | exact HB.out | apply below_alloc | apply pw_below_drewN | apply below_drew1 | refine below_set ?_ GE120.out) | exact HB.out)⟩⟩
                    · rw [if_neg c14] at H
                      exact absurd H (by simp)
                  · rw [if_neg c13] at H
                    have c13b0 : (((rd_T47 l0 x24_2).f0).toList == ([42] : List UInt8)) = false := beq_eq_false_iff_ne.mpr c13
                    have c13b1 : (((rd_T47 l0 x24_2).f0).toList != ([42] : List UInt8)) = true := bne_iff_ne.mpr c13
                    by_cases c18 : x4_1 = true
                    · subst c18
                      have H1 : (if ((rd_T47 l0 x24_2).f1) > x3_1 then (if x7_2.length < 5864062014805 then (spec_Compact.l1 k2 x3_1 true (x7_2 ++ [(⟨(rd_T47 l0 x24_2).f0, (rd_T47 l0 x24_2).f1⟩ : S47)]) l0 (l0.length : Int) (wrap64 (x24_2 + 1))) else (none)) else (spec_Compact.l1 k2 x3_1 true x7_2 l0 (l0.length : Int) (wrap64 (x24_2 + 1)))) = some r := by rw [if_pos rfl] at H; exact H
                      clear H
                      have H := H1
                      clear H1
                      by_cases c19 : ((rd_T47 l0 x24_2).f1) > x3_1
                      · rw [if_pos c19] at H
                        have c19b0 : decide (x3_1 < ((rd_T47 l0 x24_2).f1)) = true := decide_eq_true c19
                        clear c19
                        by_cases c20 : x7_2.length < 5864062014805
                        · rw [if_pos c20] at H
                          have LMc20 := Aside0.mk c20
                          clear c20
                          obtain ⟨y124, hy124⟩ : ∃ y_ : List (S47), y_ = (x7_2 ++ [(⟨(rd_T47 l0 x24_2).f0, (rd_T47 l0 x24_2).f1⟩ : S47)]) := ⟨_, rfl⟩
                          replace H : (spec_Compact.l1 k2 x3_1 true y124 l0 (l0.length : Int) (wrap64 (x24_2 + 1))) = some r := by first | (rw [hy124]; with_reducible exact H) | (have H2_ := (Option.bind_some _ _).symm.trans H; rw [hy124]; with_reducible exact H2_) | (have H2_ := (Option.bind_some _ _).symm.trans H; with_reducible exact H2_) | with_reducible exact H | (rw [hy124]; exact H) | exact H
                          have Ny124 := Aside0.mk hy124
                          clear hy124
                          have H' := Aside0.mk H
                          clear H
                          have p119 : 0 ≤ (x24_2 : Int) := of_decide_eq_true (by first | (with_reducible assumption) | assumption)
                          have q119 : x24_2 < (l0.length : Int) := of_decide_eq_true (by first | (with_reducible assumption) | assumption)
                          obtain ⟨ad119, e119, hx119_0, hx119_1⟩ := at_T47 HR0.out x24_2 p119 q119
                          cases e119
                          replace hx119_0 := (HB.out.cell (World.block_lt_of_cell? w _ hx119_0)).trans hx119_0
                          replace hx119_1 := (HB.out.cell (World.block_lt_of_cell? w _ hx119_1)).trans hx119_1
                          replace p119 := eq_true p119
                          replace q119 := eq_true q119
                          go_wp2_with (first | ((with_reducible refine gate_dst (N := 9) rfl ?_); refine box_event ?hg (N := 9) ?hd (cs := #[.string (⟨#[]⟩ : ByteArray), .int .i64 0]) (t := 47) ?hr ?_; (case hd => rfl); (case hg => rfl); (case hr => first | (go_simp; done) | (go_simp; rfl)); intro gb120 hg w21 hbox hb; have n0_ := Aside0.mk (Kd.R_below (Kd.R_elderB (by (with_reducible repeat (first | apply Kd.R_alloc | apply Kd.R_drewN | apply Kd.R_drew)); exact HO_7.out) gb120 (Nat.le_of_eq hg.symm)) hb); have n1_ := Aside0.mk (below_step (by repeat (first | (with_reducible first | exact HB.out | apply below_alloc | apply pw_below_drewN | apply below_drew1) | exact HB.out)) hb); have n2_ := Aside0.mk (hbox); have n3_ := Aside0.mk ((by rw [hg]; exact (below_size (by repeat (first | (with_reducible first | exact HB.out | apply below_alloc | apply pw_below_drewN | apply below_drew1) | exact HB.out))) : w.heap.size ≤ gb120)); have n4_ := Aside0.mk ((by rw [hg]; exact (below_size (by repeat (first | (with_reducible first | exact HB.out | apply below_alloc | apply pw_below_drewN | apply below_drew1) | exact HB.out))) : w.heap.size ≤ gb120)); clear HO_7; clear HB; have HO_7 := n0_; have HB := n1_; have BK120 := n2_; have GW120 := n3_; have GE120 := n4_; clear n0_ n1_ n2_ n3_ n4_; clear hb hbox hg; have hcz22_0 : w21.cell? ⟨gb120, 0, none⟩ = some (.string (⟨#[]⟩ : ByteArray)) := (blk_cell BK120.out 0).trans rfl; have hcz22_1 : w21.cell? ⟨gb120, 1, none⟩ = some (.int .i64 0) := (blk_cell BK120.out 1).trans rfl; have hfz22_0 := blk_frozen BK120.out 0; have hfz22_1 := blk_frozen BK120.out 1) | ((with_reducible refine gate_builtin (b := .append) (xs := #[.tmp 41, .tmp 43]) rfl ?_); at_builtin; refine Kd.R_append k47 (w0 := w) w.heap.size rfl (.tmp 41) (.tmp 43) 35 47 (.agg #[(.string ⟨#[]⟩), (.int .i64 0)]) 24 rfl Try.underlying35 info47 rfl (by decide) (by omega) u7 x7_2 (⟨(rd_T47 l0 x24_2).f0, (rd_T47 l0 x24_2).f1⟩ : S47) [.string ((rd_T47 l0 x24_2).f0), .int .i64 ((rd_T47 l0 x24_2).f1)] (fun k_ => k_ ≠ gb120) (fun _ => False) rfl (by first | (go_simp; done) | (go_simp; rfl)) ?aP (fun _ hk => hk.elim) ?aF ?aO ?aB ?aS ?aL ?_; (case aP => exact k47_mkM _ _ _ (⟨(rd_T47 l0 x24_2).f0, (rd_T47 l0 x24_2).f1⟩ : S47)); (case aB => exact (by repeat (first | (with_reducible first | exact HB.out | apply below_alloc | apply pw_below_drewN | apply below_drew1 | refine below_set ?_ GE120.out) | exact HB.out))); (case aF => exact (fun k_ hk => Kd.freshB (g := gb120) (o := .cells #[.string ((rd_T47 l0 x24_2).f0), .int .i64 ((rd_T47 l0 x24_2).f1)] 47 (0, 0)) (by (with_reducible repeat (first | refine blk_drewN ?_ _ | refine blk_drew ?_ | refine blk_alloc ?_ _)); refine blk_put (cs := #[.string ((rd_T47 l0 x24_2).f0), .int .i64 0]) ?_ 1 _ rfl; (with_reducible repeat (first | refine blk_drewN ?_ _ | refine blk_drew ?_ | refine blk_alloc ?_ _)); refine blk_put (cs := #[.string (⟨#[]⟩ : ByteArray), .int .i64 0]) ?_ 0 _ rfl; (with_reducible repeat (first | refine blk_drewN ?_ _ | refine blk_drew ?_ | refine blk_alloc ?_ _)); exact BK120.out) k_ hk)); (case aO => exact (by (with_reducible repeat (first | apply Kd.R_alloc | apply Kd.R_drewN | apply Kd.R_drew)); exact Kd.R_mono (Kd.R_far (p := ⟨gb120, 1, none⟩) (Kd.R_far (p := ⟨gb120, 0, none⟩) (Kd.R_mono HO_7.out (fun k_ hk => (⟨hk, hk.2⟩ : _ ∧ k_ ≠ gb120))) (fun _ hk => hk.2) (.string ((rd_T47 l0 x24_2).f0))) (fun _ hk => hk.2) (.int .i64 ((rd_T47 l0 x24_2).f1))) (fun _ hk => hk.1.2))); (case aS => exact (below_size (by repeat (first | (with_reducible first | exact HB.out | apply below_alloc | apply pw_below_drewN | apply below_drew1 | refine below_set ?_ GE120.out) | exact HB.out)))); (case aL => have := LMc20.out; omega); intro v125 w23 ho hb hg hat; rw [← Ny124.out] at ho; have n0_ := Aside0.mk (blk_grown (g := gb120) (o := .cells #[.string ((rd_T47 l0 x24_2).f0), .int .i64 ((rd_T47 l0 x24_2).f1)] 47 (0, 0)) (by (with_reducible repeat (first | refine blk_drewN ?_ _ | refine blk_drew ?_ | refine blk_alloc ?_ _)); refine blk_put (cs := #[.string ((rd_T47 l0 x24_2).f0), .int .i64 0]) ?_ 1 _ rfl; (with_reducible repeat (first | refine blk_drewN ?_ _ | refine blk_drew ?_ | refine blk_alloc ?_ _)); refine blk_put (cs := #[.string (⟨#[]⟩ : ByteArray), .int .i64 0]) ?_ 0 _ rfl; (with_reducible repeat (first | refine blk_drewN ?_ _ | refine blk_drew ?_ | refine blk_alloc ?_ _)); exact BK120.out) hg (Kd.R_away HO_7.out (fun _ hk => hk.2))); have n1_ := Aside0.mk (hb); have n2_ := Aside0.mk (ho); clear BK120; clear HB; clear HO_7; have BK120 := n0_; have HB := n1_; have HO126 := n2_; clear n0_ n1_ n2_; clear ho hb hg hat))
                          go_roundg k2
                          case measure => have := HK1.out; have := HK2.out; omega
                          case rel => exact ⟨(y124), (wrap64 (x24_2 + 1)), (by first | rfl | (simp; done) | (simp [*]; done)), H', ⟨by have := HK1.out; have := HK2.out; omega⟩, ⟨by (with_reducible repeat (first | apply Kd.R_alloc | apply Kd.R_drewN | apply Kd.R_drew)); exact Kd.R_mono HO126.out (fun _ hk => trivial)⟩, ⟨by repeat (first | (with_reducible first | exact HB.out | apply below_alloc | apply pw_below_drewN | apply below_drew1 | refine below_set ?_ GE120.out) | exact HB.out)⟩⟩
                        · rw [if_neg c20] at H
                          exact absurd H (by simp)
                      · rw [if_neg c19] at H
                        have c19b0 : decide (x3_1 < ((rd_T47 l0 x24_2).f1)) = false := decide_eq_false c19
                        clear c19
                        have H' := Aside0.mk H
                        clear H
                        have p119 : 0 ≤ (x24_2 : Int) := of_decide_eq_true (by first | (with_reducible assumption) | assumption)
                        have q119 : x24_2 < (l0.length : Int) := of_decide_eq_true (by first | (with_reducible assumption) | assumption)
                        obtain ⟨ad119, e119, hx119_0, hx119_1⟩ := at_T47 HR0.out x24_2 p119 q119
                        cases e119
                        replace hx119_0 := (HB.out.cell (World.block_lt_of_cell? w _ hx119_0)).trans hx119_0
                        replace hx119_1 := (HB.out.cell (World.block_lt_of_cell? w _ hx119_1)).trans hx119_1
                        replace p119 := eq_true p119
                        replace q119 := eq_true q119
                        go_wp2_with (first | ((with_reducible refine gate_dst (N := 9) rfl ?_); refine box_event ?hg (N := 9) ?hd (cs := #[.string (⟨#[]⟩ : ByteArray), .int .i64 0]) (t := 47) ?hr ?_; (case hd => rfl); (case hg => rfl); (case hr => first | (go_simp; done) | (go_simp; rfl)); intro gb120 hg w24 hbox hb; have n0_ := Aside0.mk (Kd.R_below (Kd.R_elderB (by (with_reducible repeat (first | apply Kd.R_alloc | apply Kd.R_drewN | apply Kd.R_drew)); exact HO_7.out) gb120 (Nat.le_of_eq hg.symm)) hb); have n1_ := Aside0.mk (below_step (by repeat (first | (with_reducible first | exact HB.out | apply below_alloc | apply pw_below_drewN | apply below_drew1) | exact HB.out)) hb); have n2_ := Aside0.mk (hbox); have n3_ := Aside0.mk ((by rw [hg]; exact (below_size (by repeat (first | (with_reducible first | exact HB.out | apply below_alloc | apply pw_below_drewN | apply below_drew1) | exact HB.out))) : w.heap.size ≤ gb120)); have n4_ := Aside0.mk ((by rw [hg]; exact (below_size (by repeat (first | (with_reducible first | exact HB.out | apply below_alloc | apply pw_below_drewN | apply below_drew1) | exact HB.out))) : w.heap.size ≤ gb120)); clear HO_7; clear HB; have HO_7 := n0_; have HB := n1_; have BK120 := n2_; have GW120 := n3_; have GE120 := n4_; clear n0_ n1_ n2_ n3_ n4_; clear hb hbox hg; have hcz25_0 : w24.cell? ⟨gb120, 0, none⟩ = some (.string (⟨#[]⟩ : ByteArray)) := (blk_cell BK120.out 0).trans rfl; have hcz25_1 : w24.cell? ⟨gb120, 1, none⟩ = some (.int .i64 0) := (blk_cell BK120.out 1).trans rfl; have hfz25_0 := blk_frozen BK120.out 0; have hfz25_1 := blk_frozen BK120.out 1))
                        go_roundg k2
                        case measure => have := HK1.out; have := HK2.out; omega
                        case rel => exact ⟨(x7_2), (wrap64 (x24_2 + 1)), (by first | rfl | (simp; done) | (simp [*]; done)), H', ⟨by have := HK1.out; have := HK2.out; omega⟩, ⟨by (with_reducible repeat (first | apply Kd.R_alloc | apply Kd.R_drewN | apply Kd.R_drew)); exact Kd.R_mono (Kd.R_far (p := ⟨gb120, 1, none⟩) (Kd.R_far (p := ⟨gb120, 0, none⟩) (Kd.R_mono HO_7.out (fun k_ hk => (⟨hk, hk.2⟩ : _ ∧ k_ ≠ gb120))) (fun _ hk => hk.2) (.string ((rd_T47 l0 x24_2).f0))) (fun _ hk => hk.2) (.int .i64 ((rd_T47 l0 x24_2).f1))) (fun _ hk => trivial)⟩, ⟨by repeat (first | (with_reducible first | exact HB.out | apply below_alloc | apply pw_below_drewN | apply below_drew1 | refine below_set ?_ GE120.out) | exact HB.out)⟩⟩
                    · replace c18 := Bool.eq_false_iff.mpr c18
                      subst c18
                      have H1 : (if x7_2.length < 5864062014805 then (spec_Compact.l1 k2 x3_1 false (x7_2 ++ [(⟨(rd_T47 l0 x24_2).f0, (rd_T47 l0 x24_2).f1⟩ : S47)]) l0 (l0.length : Int) (wrap64 (x24_2 + 1))) else (none)) = some r := by rw [if_neg (show ¬ (false = true) by decide)] at H; exact H
                      clear H
                      have H := H1
                      clear H1
                      by_cases c26 : x7_2.length < 5864062014805
                      · rw [if_pos c26] at H
                        have LMc26 := Aside0.mk c26
                        clear c26
                        obtain ⟨y127, hy127⟩ : ∃ y_ : List (S47), y_ = (x7_2 ++ [(⟨(rd_T47 l0 x24_2).f0, (rd_T47 l0 x24_2).f1⟩ : S47)]) := ⟨_, rfl⟩
                        replace H : (spec_Compact.l1 k2 x3_1 false y127 l0 (l0.length : Int) (wrap64 (x24_2 + 1))) = some r := by first | (rw [hy127]; with_reducible exact H) | (have H2_ := (Option.bind_some _ _).symm.trans H; rw [hy127]; with_reducible exact H2_) | (have H2_ := (Option.bind_some _ _).symm.trans H; with_reducible exact H2_) | with_reducible exact H | (rw [hy127]; exact H) | exact H
                        have Ny127 := Aside0.mk hy127
                        clear hy127
                        have H' := Aside0.mk H
                        clear H
                        have p119 : 0 ≤ (x24_2 : Int) := of_decide_eq_true (by first | (with_reducible assumption) | assumption)
                        have q119 : x24_2 < (l0.length : Int) := of_decide_eq_true (by first | (with_reducible assumption) | assumption)
                        obtain ⟨ad119, e119, hx119_0, hx119_1⟩ := at_T47 HR0.out x24_2 p119 q119
                        cases e119
                        replace hx119_0 := (HB.out.cell (World.block_lt_of_cell? w _ hx119_0)).trans hx119_0
                        replace hx119_1 := (HB.out.cell (World.block_lt_of_cell? w _ hx119_1)).trans hx119_1
                        replace p119 := eq_true p119
                        replace q119 := eq_true q119
                        go_wp2_with (first | ((with_reducible refine gate_dst (N := 9) rfl ?_); refine box_event ?hg (N := 9) ?hd (cs := #[.string (⟨#[]⟩ : ByteArray), .int .i64 0]) (t := 47) ?hr ?_; (case hd => rfl); (case hg => rfl); (case hr => first | (go_simp; done) | (go_simp; rfl)); intro gb120 hg w27 hbox hb; have n0_ := Aside0.mk (Kd.R_below (Kd.R_elderB (by (with_reducible repeat (first | apply Kd.R_alloc | apply Kd.R_drewN | apply Kd.R_drew)); exact HO_7.out) gb120 (Nat.le_of_eq hg.symm)) hb); have n1_ := Aside0.mk (below_step (by repeat (first | (with_reducible first | exact HB.out | apply below_alloc | apply pw_below_drewN | apply below_drew1) | exact HB.out)) hb); have n2_ := Aside0.mk (hbox); have n3_ := Aside0.mk ((by rw [hg]; exact (below_size (by repeat (first | (with_reducible first | exact HB.out | apply below_alloc | apply pw_below_drewN | apply below_drew1) | exact HB.out))) : w.heap.size ≤ gb120)); have n4_ := Aside0.mk ((by rw [hg]; exact (below_size (by repeat (first | (with_reducible first | exact HB.out | apply below_alloc | apply pw_below_drewN | apply below_drew1) | exact HB.out))) : w.heap.size ≤ gb120)); clear HO_7; clear HB; have HO_7 := n0_; have HB := n1_; have BK120 := n2_; have GW120 := n3_; have GE120 := n4_; clear n0_ n1_ n2_ n3_ n4_; clear hb hbox hg; have hcz28_0 : w27.cell? ⟨gb120, 0, none⟩ = some (.string (⟨#[]⟩ : ByteArray)) := (blk_cell BK120.out 0).trans rfl; have hcz28_1 : w27.cell? ⟨gb120, 1, none⟩ = some (.int .i64 0) := (blk_cell BK120.out 1).trans rfl; have hfz28_0 := blk_frozen BK120.out 0; have hfz28_1 := blk_frozen BK120.out 1) | ((with_reducible refine gate_builtin (b := .append) (xs := #[.tmp 41, .tmp 43]) rfl ?_); at_builtin; refine Kd.R_append k47 (w0 := w) w.heap.size rfl (.tmp 41) (.tmp 43) 35 47 (.agg #[(.string ⟨#[]⟩), (.int .i64 0)]) 24 rfl Try.underlying35 info47 rfl (by decide) (by omega) u7 x7_2 (⟨(rd_T47 l0 x24_2).f0, (rd_T47 l0 x24_2).f1⟩ : S47) [.string ((rd_T47 l0 x24_2).f0), .int .i64 ((rd_T47 l0 x24_2).f1)] (fun k_ => k_ ≠ gb120) (fun _ => False) rfl (by first | (go_simp; done) | (go_simp; rfl)) ?aP (fun _ hk => hk.elim) ?aF ?aO ?aB ?aS ?aL ?_; (case aP => exact k47_mkM _ _ _ (⟨(rd_T47 l0 x24_2).f0, (rd_T47 l0 x24_2).f1⟩ : S47)); (case aB => exact (by repeat (first | (with_reducible first | exact HB.out | apply below_alloc | apply pw_below_drewN | apply below_drew1 | refine below_set ?_ GE120.out) | exact HB.out))); (case aF => exact (fun k_ hk => Kd.freshB (g := gb120) (o := .cells #[.string ((rd_T47 l0 x24_2).f0), .int .i64 ((rd_T47 l0 x24_2).f1)] 47 (0, 0)) (by (with_reducible repeat (first | refine blk_drewN ?_ _ | refine blk_drew ?_ | refine blk_alloc ?_ _)); refine blk_put (cs := #[.string ((rd_T47 l0 x24_2).f0), .int .i64 0]) ?_ 1 _ rfl; (with_reducible repeat (first | refine blk_drewN ?_ _ | refine blk_drew ?_ | refine blk_alloc ?_ _)); refine blk_put (cs := #[.string (⟨#[]⟩ : ByteArray), .int .i64 0]) ?_ 0 _ rfl; (with_reducible repeat (first | refine blk_drewN ?_ _ | refine blk_drew ?_ | refine blk_alloc ?_ _)); exact BK120.out) k_ hk)); (case aO => exact (by (with_reducible repeat (first | apply Kd.R_alloc | apply Kd.R_drewN | apply Kd.R_drew)); exact Kd.R_mono (Kd.R_far (p := ⟨gb120, 1, none⟩) (Kd.R_far (p := ⟨gb120, 0, none⟩) (Kd.R_mono HO_7.out (fun k_ hk => (⟨hk, hk.2⟩ : _ ∧ k_ ≠ gb120))) (fun _ hk => hk.2) (.string ((rd_T47 l0 x24_2).f0))) (fun _ hk => hk.2) (.int .i64 ((rd_T47 l0 x24_2).f1))) (fun _ hk => hk.1.2))); (case aS => exact (below_size (by repeat (first | (with_reducible first | exact HB.out | apply below_alloc | apply pw_below_drewN | apply below_drew1 | refine below_set ?_ GE120.out) | exact HB.out)))); (case aL => have := LMc26.out; omega); intro v128 w29 ho hb hg hat; rw [← Ny127.out] at ho; have n0_ := Aside0.mk (blk_grown (g := gb120) (o := .cells #[.string ((rd_T47 l0 x24_2).f0), .int .i64 ((rd_T47 l0 x24_2).f1)] 47 (0, 0)) (by (with_reducible repeat (first | refine blk_drewN ?_ _ | refine blk_drew ?_ | refine blk_alloc ?_ _)); refine blk_put (cs := #[.string ((rd_T47 l0 x24_2).f0), .int .i64 0]) ?_ 1 _ rfl; (with_reducible repeat (first | refine blk_drewN ?_ _ | refine blk_drew ?_ | refine blk_alloc ?_ _)); refine blk_put (cs := #[.string (⟨#[]⟩ : ByteArray), .int .i64 0]) ?_ 0 _ rfl; (with_reducible repeat (first | refine blk_drewN ?_ _ | refine blk_drew ?_ | refine blk_alloc ?_ _)); exact BK120.out) hg (Kd.R_away HO_7.out (fun _ hk => hk.2))); have n1_ := Aside0.mk (hb); have n2_ := Aside0.mk (ho); clear BK120; clear HB; clear HO_7; have BK120 := n0_; have HB := n1_; have HO129 := n2_; clear n0_ n1_ n2_; clear ho hb hg hat))
                        go_roundg k2
                        case measure => have := HK1.out; have := HK2.out; omega
                        case rel => exact ⟨(y127), (wrap64 (x24_2 + 1)), (by first | rfl | (simp; done) | (simp [*]; done)), H', ⟨by have := HK1.out; have := HK2.out; omega⟩, ⟨by (with_reducible repeat (first | apply Kd.R_alloc | apply Kd.R_drewN | apply Kd.R_drew)); exact Kd.R_mono HO129.out (fun _ hk => trivial)⟩, ⟨by repeat (first | (with_reducible first | exact HB.out | apply below_alloc | apply pw_below_drewN | apply below_drew1 | refine below_set ?_ GE120.out) | exact HB.out)⟩⟩
                      · rw [if_neg c26] at H
                        exact absurd H (by simp)
                · rw [if_neg c12] at H
                  exact absurd H (by simp)
              · rw [if_neg c11] at H
                exact absurd H (by simp)
            · rw [if_neg c10] at H
              have c10b0 : decide (x24_2 < (l0.length : Int)) = false := decide_eq_false c10
              clear c10
              obtain rfl := Option.some.inj H
              go_wp2
              go_ret
              exact ⟨_, by first | rfl | (simp [errW_none, errW_some] <;> rfl) | (simp [*, errW_none, errW_some] <;> rfl), by (with_reducible repeat (first | apply Kd.R_alloc | apply Kd.R_drewN | apply Kd.R_drew)); exact HO_7.out, by repeat (first | (with_reducible first | exact HB.out | apply below_alloc | apply pw_below_drewN | apply below_drew1) | exact HB.out)⟩

end Go.Proofs.Ytnbihmagbedfmaa.PFnRevocations
