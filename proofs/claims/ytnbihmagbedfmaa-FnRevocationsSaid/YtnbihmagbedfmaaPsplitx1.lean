-- PRINTED BY print.sh 35421559b90ae4d0a3588c463048766b98c2df88dd9212a6774a882060cdf62d: not written by this session
import Derived.Test.YtnbihmagbedfmaaPsplitx0
namespace Go.Proofs.Ytnbihmagbedfmaa.Psplit
open Go.RowKit Go.Proofs.YtnbihmagbedfmaaW.PrintWords Go.Proofs.YtnbihmagbedfmaaW.PrintLast Go.Proofs.YtnbihmagbedfmaaW.PrintMore
attribute [local go_sem] max2_int min2_int max_two min_two max_three min_three max_four min_four   -- for this text's walks alone
set_option linter.unusedVariables false
set_option linter.unusedSimpArgs false

/-! ### natsjwt_split: function 52 -/
def natsjwt_split.l0 : Nat → ByteArray → ByteArray → List ByteArray → Int → Option (List ByteArray)
  | 0, _, _, _, _ => none
  | k + 1, x0, x1, x5, x6 => if (wrap64 (x6 + (x1.size : Int))) ≤ (x0.size : Int) then (if 0 ≤ x6 then (if x6 ≤ (wrap64 (x6 + (x1.size : Int))) then (if (x0.extract (x6 : Int).toNat ((wrap64 (x6 + (x1.size : Int))) : Int).toNat).toList = x1.toList then (if x6 ≤ (x0.size : Int) then (if x5.length < 8796093022208 then (if 0 ≤ (wrap64 (x6 + (x1.size : Int))) then (natsjwt_split.l0 k (x0.extract ((wrap64 (x6 + (x1.size : Int))) : Int).toNat x0.size) x1 (x5 ++ [x0.extract 0 (x6 : Int).toNat]) 0) else (none)) else (none)) else (none)) else (natsjwt_split.l0 k x0 x1 x5 (wrap64 (x6 + 1)))) else (none)) else (none)) else (if x5.length < 8796093022208 then (some (x5 ++ [x0])) else (none))
def natsjwt_split.f (k : Nat) (a0 : ByteArray) (a1 : ByteArray) : Option (List ByteArray) := natsjwt_split.l0 k a0 a1 ([] : List ByteArray) 0
theorem natsjwt_split.mono_l : ∀ k, (∀ y0 y1 y2 y3, LeO (natsjwt_split.l0 k y0 y1 y2 y3) (natsjwt_split.l0 (k + 1) y0 y1 y2 y3))
  | 0 => fun _ _ _ _ r h => by simp [natsjwt_split.l0] at h
  | k + 1 => by
    have ih0 := natsjwt_split.mono_l k
    · intro y0 y1 y2 y3
      unfold natsjwt_split.l0
      repeat' first
      | (with_reducible exact ih0 _ _ _ _)
      | (with_reducible exact LeO.refl _)
      | (with_reducible exact LeO.none _)
      | (with_reducible refine LeO.ite ?_ ?_)
      | (with_reducible refine LeO.bind ?_ (fun _ => ?_))
      | exact ih0 _ _ _ _
      | exact LeO.none _
      | refine LeO.ite ?_ ?_
      | refine LeO.bind ?_ (fun _ => ?_)
theorem natsjwt_split.mono : ∀ a0 a1 k, LeO (natsjwt_split.f k a0 a1) (natsjwt_split.f (k + 1) a0 a1) := by
  intro a0 a1 k
  have ih0 := natsjwt_split.mono_l k
  unfold natsjwt_split.f
  repeat' first
      | (with_reducible exact ih0 _ _ _ _)
      | (with_reducible exact LeO.refl _)
      | (with_reducible exact LeO.none _)
      | (with_reducible refine LeO.ite ?_ ?_)
      | (with_reducible refine LeO.bind ?_ (fun _ => ?_))
      | exact ih0 _ _ _ _
      | exact LeO.none _
      | refine LeO.ite ?_ ?_
      | refine LeO.bind ?_ (fun _ => ?_)
set_option maxHeartbeats 8000000 in
set_option maxRecDepth 100000 in
theorem natsjwt_split.calls (k : Nat) (a0 : ByteArray) (a1 : ByteArray) (r : List ByteArray) (w : World) (h : natsjwt_split.f k a0 a1 = some r) :
    Calls Try.prog 52 #[.string a0, .string a1] w fun e w' => ∃ v0_ : Value, e = .returned (v0_) ∧ Kd.R Kd.string 9 w' w.heap.size (fun _ => True) v0_ r ∧ Below w.heap.size w w' := by
  have HB := Aside0.mk (Below.refl w.heap.size w)
  have H : (natsjwt_split.l0 k a0 a1 ([] : List ByteArray) 0) = some r := h
  clear h
  have H' := Aside0.mk H
  clear H
  go_enter Try.func52, Try.ntmps52
  go_wp2
  go_loopg [0, 5, 6] k (fun kq v0 v5 v6 w' => ∃ (x0_1 : ByteArray) (x5_1 : List ByteArray) (x6_1 : Int), v0 = .string x0_1 ∧ v6 = .int .i64 x6_1 ∧ Aside0 (natsjwt_split.l0 kq x0_1 a1 x5_1 x6_1 = some r) ∧ Aside0 (kq ≤ k) ∧ Aside0 (Kd.R Kd.string 9 w' w.heap.size (fun _ => True) v5 x5_1) ∧ Aside0 (Below w.heap.size w w'))
  case atStart => exact ⟨(a0), (([] : List ByteArray)), (0), (by first | rfl | (simp; done) | (simp [*]; done)), (by first | rfl | (simp; done) | (simp [*]; done)), H', ⟨Nat.le_refl _⟩, ⟨by first | exact Kd.R_nil _ _ _ _ _ | exact Kd.N_nil _ _ _ _ _ | exact Kd.V_nil _ _ _ _ _ | exact Kd.Q_nil _ _ _ _ _ | exact Kd.S_nil _ _ _ _ _⟩, ⟨by repeat (first | (with_reducible first | exact HB.out | apply below_alloc | apply pw_below_drewN | apply below_drew1) | exact HB.out)⟩⟩
  case round =>
    clear H'
    try clear p2
    obtain ⟨x0_1, x5_1, x6_1, rfl, rfl, HA, HK1, HO_5, HB⟩ := hrel
    cases gk with
    | zero => exact absurd HA.out (by simp [natsjwt_split.l0])
    | succ k1 =>
      have H := HA.out
      clear HA
      simp only [natsjwt_split.l0] at H
      by_cases c3 : (wrap64 (x6_1 + (a1.size : Int))) ≤ (x0_1.size : Int)
      · rw [if_pos c3] at H
        have c3b0 : decide ((wrap64 (x6_1 + (a1.size : Int))) ≤ (x0_1.size : Int)) = true := decide_eq_true c3
        clear c3
        by_cases c4 : 0 ≤ x6_1
        · rw [if_pos c4] at H
          have c4b0 := eq_true c4
          have c4b1 : decide (0 ≤ x6_1) = true := decide_eq_true c4
          clear c4
          by_cases c5 : x6_1 ≤ (wrap64 (x6_1 + (a1.size : Int)))
          · rw [if_pos c5] at H
            have c5b0 := eq_true c5
            have c5b1 : decide (x6_1 ≤ (wrap64 (x6_1 + (a1.size : Int)))) = true := decide_eq_true c5
            have c6b0 := eq_true (of_decide_eq_true (by first | (with_reducible assumption) | assumption) : (wrap64 (x6_1 + (a1.size : Int))) ≤ (x0_1.size : Int))
            by_cases c7 : (x0_1.extract (x6_1 : Int).toNat ((wrap64 (x6_1 + (a1.size : Int))) : Int).toNat).toList = a1.toList
            · rw [if_pos c7] at H
              have c7b0 : ((x0_1.extract (x6_1 : Int).toNat ((wrap64 (x6_1 + (a1.size : Int))) : Int).toNat).toList == a1.toList) = true := beq_iff_eq.mpr c7
              have c7b1 : ((x0_1.extract (x6_1 : Int).toNat ((wrap64 (x6_1 + (a1.size : Int))) : Int).toNat).toList != a1.toList) = false := bne_eq_false_iff_eq.mpr c7
              clear c7
              have c8b0 := eq_true (of_decide_eq_true (by first | (with_reducible assumption) | assumption) : 0 ≤ x6_1)
              by_cases c9 : x6_1 ≤ (x0_1.size : Int)
              · rw [if_pos c9] at H
                have c9b0 := eq_true c9
                have c9b1 : decide (x6_1 ≤ (x0_1.size : Int)) = true := decide_eq_true c9
                clear c9
                by_cases c10 : x5_1.length < 8796093022208
                · rw [if_pos c10] at H
                  have LMc10 := Aside0.mk c10
                  clear c10
                  obtain ⟨y101, hy101⟩ : ∃ y_ : List ByteArray, y_ = (x5_1 ++ [x0_1.extract 0 (x6_1 : Int).toNat]) := ⟨_, rfl⟩
                  replace H : (if 0 ≤ (wrap64 (x6_1 + (a1.size : Int))) then (natsjwt_split.l0 k1 (x0_1.extract ((wrap64 (x6_1 + (a1.size : Int))) : Int).toNat x0_1.size) a1 y101 0) else (none)) = some r := by first | (rw [hy101]; with_reducible exact H) | (have H2_ := (Option.bind_some _ _).symm.trans H; rw [hy101]; with_reducible exact H2_) | (have H2_ := (Option.bind_some _ _).symm.trans H; with_reducible exact H2_) | with_reducible exact H | (rw [hy101]; exact H) | exact H
                  have Ny101 := Aside0.mk hy101
                  clear hy101
                  obtain ⟨ji11, hji11⟩ : ∃ j_ : Int, (wrap64 (x6_1 + (a1.size : Int))) = j_ := ⟨_, rfl⟩
                  replace H : (if 0 ≤ (ji11) then (natsjwt_split.l0 k1 (x0_1.extract ((ji11) : Int).toNat x0_1.size) a1 y101 0) else (none)) = some r := by first | (rw [hji11] at H; exact H) | (simp only [hji11] at H ⊢; exact H)
                  (try rw [hji11] at c3b0)
                  (try rw [hji11] at c5b0)
                  (try rw [hji11] at c5b1)
                  (try rw [hji11] at c5)
                  (try rw [hji11] at c7b0)
                  (try rw [hji11] at c7b1)
                  have hji11w : (IntKind.i64.wrap (x6_1 + (a1.size : Int))) = ji11 := (i64_w _).trans hji11
                  by_cases c12 : 0 ≤ (ji11)
                  · rw [if_pos c12] at H
                    have c12b0 := eq_true c12
                    have c12b1 : decide (0 ≤ (ji11)) = true := decide_eq_true c12
                    clear c12
                    have c13b0 := eq_true (of_decide_eq_true (by first | (with_reducible assumption) | assumption) : (ji11) ≤ (x0_1.size : Int))
                    have H' := Aside0.mk H
                    clear H
                    go_wp2_with (first | ((with_reducible refine gate_builtin (b := .append) (xs := #[.tmp 23, .tmp 27]) rfl ?_); at_builtin; refine Kd.R_append Kd.string (w0 := w) w.heap.size rfl (.tmp 23) (.tmp 27) 26 9 (.string ⟨#[]⟩) 16 rfl Try.underlying26 info9 rfl (by decide) (by omega) u5 x5_1 (x0_1.extract 0 (x6_1 : Int).toNat) [.string (x0_1.extract 0 (x6_1 : Int).toNat)] (fun _ => True) (fun _ => False) rfl rfl ?aP (fun _ hk => hk.elim) ?aF ?aO ?aB ?aS ?aL ?_; (case aP => exact rfl); (case aB => exact (by repeat (first | (with_reducible first | exact HB.out | apply below_alloc | apply pw_below_drewN | apply below_drew1) | exact HB.out))); (case aF => exact (fun _ _ => trivial)); (case aO => exact (by (with_reducible repeat (first | apply Kd.R_alloc | apply Kd.R_drewN | apply Kd.R_drew)); exact HO_5.out)); (case aS => exact (below_size (by repeat (first | (with_reducible first | exact HB.out | apply below_alloc | apply pw_below_drewN | apply below_drew1) | exact HB.out)))); (case aL => have := LMc10.out; omega); intro v102 w14 ho hb hg hat; rw [← Ny101.out] at ho; have n0_ := Aside0.mk (hb); have n1_ := Aside0.mk (ho); clear HB; clear HO_5; have HB := n0_; have HO103 := n1_; clear n0_ n1_; clear ho hb hg hat))
                    go_roundg k1
                    case measure => have := HK1.out; omega
                    case rel => exact ⟨(x0_1.extract ((ji11) : Int).toNat x0_1.size), (y101), (0), (by first | rfl | (simp; done) | (simp only [← hji11] <;> (first | rfl | simp)) | (simp [*]; done)), (by first | rfl | (simp; done) | (simp [*]; done)), H', ⟨by have := HK1.out; omega⟩, ⟨by (with_reducible repeat (first | apply Kd.R_alloc | apply Kd.R_drewN | apply Kd.R_drew)); exact HO103.out⟩, ⟨by repeat (first | (with_reducible first | exact HB.out | apply below_alloc | apply pw_below_drewN | apply below_drew1) | exact HB.out)⟩⟩
                  · rw [if_neg c12] at H
                    exact absurd H (by simp)
                · rw [if_neg c10] at H
                  exact absurd H (by simp)
              · rw [if_neg c9] at H
                exact absurd H (by simp)
            · rw [if_neg c7] at H
              have c7b0 : ((x0_1.extract (x6_1 : Int).toNat ((wrap64 (x6_1 + (a1.size : Int))) : Int).toNat).toList == a1.toList) = false := beq_eq_false_iff_ne.mpr c7
              have c7b1 : ((x0_1.extract (x6_1 : Int).toNat ((wrap64 (x6_1 + (a1.size : Int))) : Int).toNat).toList != a1.toList) = true := bne_iff_ne.mpr c7
              have H' := Aside0.mk H
              clear H
              go_wp2
              go_roundg k1
              case measure => have := HK1.out; omega
              case rel => exact ⟨(x0_1), (x5_1), (wrap64 (x6_1 + 1)), (by first | rfl | (simp; done) | (simp [*]; done)), (by first | rfl | (simp; done) | (simp [*]; done)), H', ⟨by have := HK1.out; omega⟩, ⟨by (with_reducible repeat (first | apply Kd.R_alloc | apply Kd.R_drewN | apply Kd.R_drew)); exact HO_5.out⟩, ⟨by repeat (first | (with_reducible first | exact HB.out | apply below_alloc | apply pw_below_drewN | apply below_drew1) | exact HB.out)⟩⟩
          · rw [if_neg c5] at H
            exact absurd H (by simp)
        · rw [if_neg c4] at H
          exact absurd H (by simp)
      · rw [if_neg c3] at H
        have c3b0 : decide ((wrap64 (x6_1 + (a1.size : Int))) ≤ (x0_1.size : Int)) = false := decide_eq_false c3
        clear c3
        by_cases c15 : x5_1.length < 8796093022208
        · rw [if_pos c15] at H
          have LMc15 := Aside0.mk c15
          clear c15
          obtain ⟨y104, hy104⟩ : ∃ y_ : List ByteArray, y_ = (x5_1 ++ [x0_1]) := ⟨_, rfl⟩
          replace H : (some y104) = some r := by first | (rw [hy104]; with_reducible exact H) | (have H2_ := (Option.bind_some _ _).symm.trans H; rw [hy104]; with_reducible exact H2_) | (have H2_ := (Option.bind_some _ _).symm.trans H; with_reducible exact H2_) | with_reducible exact H | (rw [hy104]; exact H) | exact H
          have Ny104 := Aside0.mk hy104
          clear hy104
          obtain rfl := Option.some.inj H
          go_wp2_with (first | ((with_reducible refine gate_builtin (b := .append) (xs := #[.tmp 37, .tmp 39]) rfl ?_); at_builtin; refine Kd.R_append Kd.string (w0 := w) w.heap.size rfl (.tmp 37) (.tmp 39) 26 9 (.string ⟨#[]⟩) 16 rfl Try.underlying26 info9 rfl (by decide) (by omega) u5 x5_1 x0_1 [.string x0_1] (fun _ => True) (fun _ => False) rfl rfl ?aP (fun _ hk => hk.elim) ?aF ?aO ?aB ?aS ?aL ?_; (case aP => exact rfl); (case aB => exact (by repeat (first | (with_reducible first | exact HB.out | apply below_alloc | apply pw_below_drewN | apply below_drew1) | exact HB.out))); (case aF => exact (fun _ _ => trivial)); (case aO => exact (by (with_reducible repeat (first | apply Kd.R_alloc | apply Kd.R_drewN | apply Kd.R_drew)); exact HO_5.out)); (case aS => exact (below_size (by repeat (first | (with_reducible first | exact HB.out | apply below_alloc | apply pw_below_drewN | apply below_drew1) | exact HB.out)))); (case aL => have := LMc15.out; omega); intro v105 w16 ho hb hg hat; rw [← Ny104.out] at ho; have n0_ := Aside0.mk (hb); have n1_ := Aside0.mk (ho); clear HB; clear HO_5; have HB := n0_; have HO106 := n1_; clear n0_ n1_; clear ho hb hg hat))
          go_ret
          exact ⟨_, by first | rfl | (simp [errW_none, errW_some] <;> rfl) | (simp [*, errW_none, errW_some] <;> rfl), by (with_reducible repeat (first | apply Kd.R_alloc | apply Kd.R_drewN | apply Kd.R_drew)); exact HO106.out, by repeat (first | (with_reducible first | exact HB.out | apply below_alloc | apply pw_below_drewN | apply below_drew1) | exact HB.out)⟩
        · rw [if_neg c15] at H
          exact absurd H (by simp)

end Go.Proofs.Ytnbihmagbedfmaa.Psplit
