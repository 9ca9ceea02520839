-- PRINTED BY print.sh 35421559b90ae4d0a3588c463048766b98c2df88dd9212a6774a882060cdf62d: not written by this session
import Derived.Test.YtnbihmagbedfmaaPPlainx0
import Derived.Test.YtnbihmagbedfmaaPPlainx1
namespace Go.Proofs.Ytnbihmagbedfmaa.PPlain
open Go.RowKit Go.Proofs.YtnbihmagbedfmaaW.PrintWords Go.Proofs.YtnbihmagbedfmaaW.PrintLast Go.Proofs.YtnbihmagbedfmaaW.PrintMore
attribute [local go_sem] max2_int min2_int max_two min_two max_three min_three max_four min_four   -- for this text's walks alone
set_option linter.unusedVariables false
set_option linter.unusedSimpArgs false

/-! ### spec_Plain: function 7 -/
mutual
def spec_Plain.l0 : Nat → ByteArray → List ByteArray → List ByteArray → Int → Int → Option (Bool)
  | 0, _, _, _, _, _ => none
  | k + 1, x0, x3, x10, x11, x12 => if x12 < x11 then (if 0 ≤ x12 then (if x12 < (x10.length : Int) then (if (rdOf ByteArray.empty x10 x12).toList = ([42] : List UInt8) then (spec_Plain.j1 k x0 x3 (rdOf ByteArray.empty x10 x12) x10 x11 x12 true) else (if (rdOf ByteArray.empty x10 x12).toList = ([62] : List UInt8) then (spec_Plain.j1 k x0 x3 (rdOf ByteArray.empty x10 x12) x10 x11 x12 (x12 == (wrap64 ((x3.length : Int) - 1)))) else (spec_Plain.j1 k x0 x3 (rdOf ByteArray.empty x10 x12) x10 x11 x12 false))) else (none)) else (none)) else (some (decide ((x0.size : Int) ≤ 60)))
def spec_Plain.j1 : Nat → ByteArray → List ByteArray → ByteArray → List ByteArray → Int → Int → Bool → Option (Bool)
  | 0, _, _, _, _, _, _, _ => none
  | k + 1, x0, x3, x5, x10, x11, x12, x29 => if x29 = true then (spec_Plain.l0 k x0 x3 x10 x11 (wrap64 (x12 + 1))) else (spec_Plain.l1 k x0 x3 x5 x10 x11 x12 (x5.size : Int) 0)
def spec_Plain.l1 : Nat → ByteArray → List ByteArray → ByteArray → List ByteArray → Int → Int → Int → Int → Option (Bool)
  | 0, _, _, _, _, _, _, _, _ => none
  | k + 1, x0, x3, x5, x10, x11, x12, x31, x32 => if x32 < x31 then (if 0 ≤ x32 then (if x32 < (x5.size : Int) then (if (bt x5 x32) < 97 then (if (bt x5 x32) < 65 then (if (bt x5 x32) < 48 then (if (bt x5 x32) = 95 then (spec_Plain.l1 k x0 x3 x5 x10 x11 x12 x31 (wrap64 (x32 + 1))) else (if (bt x5 x32) = 36 then (spec_Plain.l1 k x0 x3 x5 x10 x11 x12 x31 (wrap64 (x32 + 1))) else (some false))) else (if (bt x5 x32) > 57 then (if (bt x5 x32) = 95 then (spec_Plain.l1 k x0 x3 x5 x10 x11 x12 x31 (wrap64 (x32 + 1))) else (if (bt x5 x32) = 36 then (spec_Plain.l1 k x0 x3 x5 x10 x11 x12 x31 (wrap64 (x32 + 1))) else (some false))) else (spec_Plain.l1 k x0 x3 x5 x10 x11 x12 x31 (wrap64 (x32 + 1))))) else (if (bt x5 x32) > 90 then (if (bt x5 x32) < 48 then (if (bt x5 x32) = 95 then (spec_Plain.l1 k x0 x3 x5 x10 x11 x12 x31 (wrap64 (x32 + 1))) else (if (bt x5 x32) = 36 then (spec_Plain.l1 k x0 x3 x5 x10 x11 x12 x31 (wrap64 (x32 + 1))) else (some false))) else (if (bt x5 x32) > 57 then (if (bt x5 x32) = 95 then (spec_Plain.l1 k x0 x3 x5 x10 x11 x12 x31 (wrap64 (x32 + 1))) else (if (bt x5 x32) = 36 then (spec_Plain.l1 k x0 x3 x5 x10 x11 x12 x31 (wrap64 (x32 + 1))) else (some false))) else (spec_Plain.l1 k x0 x3 x5 x10 x11 x12 x31 (wrap64 (x32 + 1))))) else (spec_Plain.l1 k x0 x3 x5 x10 x11 x12 x31 (wrap64 (x32 + 1))))) else (if (bt x5 x32) > 122 then (if (bt x5 x32) < 65 then (if (bt x5 x32) < 48 then (if (bt x5 x32) = 95 then (spec_Plain.l1 k x0 x3 x5 x10 x11 x12 x31 (wrap64 (x32 + 1))) else (if (bt x5 x32) = 36 then (spec_Plain.l1 k x0 x3 x5 x10 x11 x12 x31 (wrap64 (x32 + 1))) else (some false))) else (if (bt x5 x32) > 57 then (if (bt x5 x32) = 95 then (spec_Plain.l1 k x0 x3 x5 x10 x11 x12 x31 (wrap64 (x32 + 1))) else (if (bt x5 x32) = 36 then (spec_Plain.l1 k x0 x3 x5 x10 x11 x12 x31 (wrap64 (x32 + 1))) else (some false))) else (spec_Plain.l1 k x0 x3 x5 x10 x11 x12 x31 (wrap64 (x32 + 1))))) else (if (bt x5 x32) > 90 then (if (bt x5 x32) < 48 then (if (bt x5 x32) = 95 then (spec_Plain.l1 k x0 x3 x5 x10 x11 x12 x31 (wrap64 (x32 + 1))) else (if (bt x5 x32) = 36 then (spec_Plain.l1 k x0 x3 x5 x10 x11 x12 x31 (wrap64 (x32 + 1))) else (some false))) else (if (bt x5 x32) > 57 then (if (bt x5 x32) = 95 then (spec_Plain.l1 k x0 x3 x5 x10 x11 x12 x31 (wrap64 (x32 + 1))) else (if (bt x5 x32) = 36 then (spec_Plain.l1 k x0 x3 x5 x10 x11 x12 x31 (wrap64 (x32 + 1))) else (some false))) else (spec_Plain.l1 k x0 x3 x5 x10 x11 x12 x31 (wrap64 (x32 + 1))))) else (spec_Plain.l1 k x0 x3 x5 x10 x11 x12 x31 (wrap64 (x32 + 1))))) else (spec_Plain.l1 k x0 x3 x5 x10 x11 x12 x31 (wrap64 (x32 + 1))))) else (none)) else (none)) else (if x5.toList = ([] : List UInt8) then (some false) else (spec_Plain.l0 k x0 x3 x10 x11 (wrap64 (x12 + 1))))
end
def spec_Plain.f (k : Nat) (a0 : ByteArray) : Option (Bool) := (spec_Tokens.f k a0).bind fun t107 => (spec_Plain.l0 k a0 t107 t107 (t107.length : Int) 0)
theorem spec_Plain.mono_l : ∀ k, (∀ y0 y1 y2 y3 y4, LeO (spec_Plain.l0 k y0 y1 y2 y3 y4) (spec_Plain.l0 (k + 1) y0 y1 y2 y3 y4)) ∧ (∀ y0 y1 y2 y3 y4 y5 y6, LeO (spec_Plain.j1 k y0 y1 y2 y3 y4 y5 y6) (spec_Plain.j1 (k + 1) y0 y1 y2 y3 y4 y5 y6)) ∧ (∀ y0 y1 y2 y3 y4 y5 y6 y7, LeO (spec_Plain.l1 k y0 y1 y2 y3 y4 y5 y6 y7) (spec_Plain.l1 (k + 1) y0 y1 y2 y3 y4 y5 y6 y7))
  | 0 => ⟨fun _ _ _ _ _ r h => by simp [spec_Plain.l0] at h, fun _ _ _ _ _ _ _ r h => by simp [spec_Plain.j1] at h, fun _ _ _ _ _ _ _ _ r h => by simp [spec_Plain.l1] at h⟩
  | k + 1 => by
    obtain ⟨ih0, ih1, ih2⟩ := spec_Plain.mono_l k
    refine ⟨?_, ?_, ?_⟩
    · intro y0 y1 y2 y3 y4
      unfold spec_Plain.l0
      repeat' first
      | (with_reducible exact ih0 _ _ _ _ _)
      | (with_reducible exact ih1 _ _ _ _ _ _ _)
      | (with_reducible exact ih2 _ _ _ _ _ _ _ _)
      | (with_reducible exact spec_Tokens.mono _ _)
      | (with_reducible exact LeO.refl _)
      | (with_reducible exact LeO.none _)
      | (with_reducible refine LeO.ite ?_ ?_)
      | (with_reducible refine LeO.bind ?_ (fun _ => ?_))
      | exact ih0 _ _ _ _ _
      | exact ih1 _ _ _ _ _ _ _
      | exact ih2 _ _ _ _ _ _ _ _
      | exact spec_Tokens.mono _ _
      | exact LeO.none _
      | refine LeO.ite ?_ ?_
      | refine LeO.bind ?_ (fun _ => ?_)
    · intro y0 y1 y2 y3 y4 y5 y6
      unfold spec_Plain.j1
      repeat' first
      | (with_reducible exact ih0 _ _ _ _ _)
      | (with_reducible exact ih1 _ _ _ _ _ _ _)
      | (with_reducible exact ih2 _ _ _ _ _ _ _ _)
      | (with_reducible exact spec_Tokens.mono _ _)
      | (with_reducible exact LeO.refl _)
      | (with_reducible exact LeO.none _)
      | (with_reducible refine LeO.ite ?_ ?_)
      | (with_reducible refine LeO.bind ?_ (fun _ => ?_))
      | exact ih0 _ _ _ _ _
      | exact ih1 _ _ _ _ _ _ _
      | exact ih2 _ _ _ _ _ _ _ _
      | exact spec_Tokens.mono _ _
      | exact LeO.none _
      | refine LeO.ite ?_ ?_
      | refine LeO.bind ?_ (fun _ => ?_)
    · intro y0 y1 y2 y3 y4 y5 y6 y7
      unfold spec_Plain.l1
      repeat' first
      | (with_reducible exact ih0 _ _ _ _ _)
      | (with_reducible exact ih1 _ _ _ _ _ _ _)
      | (with_reducible exact ih2 _ _ _ _ _ _ _ _)
      | (with_reducible exact spec_Tokens.mono _ _)
      | (with_reducible exact LeO.refl _)
      | (with_reducible exact LeO.none _)
      | (with_reducible refine LeO.ite ?_ ?_)
      | (with_reducible refine LeO.bind ?_ (fun _ => ?_))
      | exact ih0 _ _ _ _ _
      | exact ih1 _ _ _ _ _ _ _
      | exact ih2 _ _ _ _ _ _ _ _
      | exact spec_Tokens.mono _ _
      | exact LeO.none _
      | refine LeO.ite ?_ ?_
      | refine LeO.bind ?_ (fun _ => ?_)
theorem spec_Plain.mono : ∀ a0 k, LeO (spec_Plain.f k a0) (spec_Plain.f (k + 1) a0) := by
  intro a0 k
  obtain ⟨ih0, ih1, ih2⟩ := spec_Plain.mono_l k
  unfold spec_Plain.f
  repeat' first
      | (with_reducible exact ih0 _ _ _ _ _)
      | (with_reducible exact ih1 _ _ _ _ _ _ _)
      | (with_reducible exact ih2 _ _ _ _ _ _ _ _)
      | (with_reducible exact spec_Tokens.mono _ _)
      | (with_reducible exact LeO.refl _)
      | (with_reducible exact LeO.none _)
      | (with_reducible refine LeO.ite ?_ ?_)
      | (with_reducible refine LeO.bind ?_ (fun _ => ?_))
      | exact ih0 _ _ _ _ _
      | exact ih1 _ _ _ _ _ _ _
      | exact ih2 _ _ _ _ _ _ _ _
      | exact spec_Tokens.mono _ _
      | exact LeO.none _
      | refine LeO.ite ?_ ?_
      | refine LeO.bind ?_ (fun _ => ?_)
set_option maxHeartbeats 8000000 in
set_option maxRecDepth 100000 in
theorem spec_Plain.calls (k : Nat) (a0 : ByteArray) (r : Bool) (w : World) (h : spec_Plain.f k a0 = some r) :
    Calls Try.prog 7 #[.string a0] w fun e w' => e = .returned (.bool r) ∧ Below w.heap.size w w' := by
  have HB := Aside0.mk (Below.refl w.heap.size w)
  have H : ((spec_Tokens.f k a0).bind fun t107 => (spec_Plain.l0 k a0 t107 t107 (t107.length : Int) 0)) = some r := h
  clear h
  replace H := Option.bind_eq_some_iff.mp H
  obtain ⟨t107, A20, H⟩ := H
  replace H : (spec_Plain.l0 k a0 t107 t107 (t107.length : Int) 0) = some r := H
  have A2 := Aside0.mk A20
  clear A20
  have H' := Aside0.mk H
  clear H
  go_enter Try.func7, Try.ntmps7
  go_wp2_with (first | ((with_reducible refine gate_callee (f := 20) rfl ?_); refine goesL_ (some 9) rfl rfl Try.func20 (by kernel_rfl) rfl #[.string a0] rfl (by (try simp only [List.map_toArray, List.map_cons, List.map_nil]); first | done | rfl | (simp only [List.length_drop, List.length_take]; rfl)) ?_; (with_reducible refine (spec_Tokens.calls k a0 t107 _ A2.out).mono ?_); rintro e w3 ⟨v108, rfl, ho0, hb⟩; refine ⟨_, rfl, ?_⟩; have n0_ := Aside0.mk (Kd.R_lower ho0 (below_size (by repeat (first | (with_reducible first | exact HB.out | apply below_alloc | apply pw_below_drewN | apply below_drew1) | exact HB.out)))); have n1_ := Aside0.mk (below_step (by repeat (first | (with_reducible first | exact HB.out | apply below_alloc | apply pw_below_drewN | apply below_drew1) | exact HB.out)) hb); clear HB; have HO109 := n0_; have HB := n1_; clear n0_ n1_; (try clear hb); (try clear hb2); (try clear hk); (try clear hi); (try clear ho0); obtain ⟨Ao4, co4, eo4⟩ := Kd.R_slice HO109.out; subst eo4))
  go_loopg [12] k (fun kq v12 w' => ∃ (x12_1 : Int), v12 = .int .i64 x12_1 ∧ Aside0 (spec_Plain.l0 kq a0 t107 t107 (t107.length : Int) x12_1 = some r) ∧ Aside0 (kq ≤ k) ∧ Aside0 (Kd.R Kd.string 9 w' w.heap.size (fun _ => True) (.slice Ao4 t107.length co4) t107) ∧ Aside0 (Kd.R Kd.string 9 w' w.heap.size (fun _ => True) (.slice Ao4 t107.length co4) t107) ∧ Aside0 (Below w.heap.size w w'))
  case atStart => exact ⟨(0), (by first | rfl | (simp; done) | (simp [*]; done)), H', ⟨Nat.le_refl _⟩, ⟨by (with_reducible repeat (first | apply Kd.R_alloc | apply Kd.R_drewN | apply Kd.R_drew)); exact HO109.out⟩, ⟨by (with_reducible repeat (first | apply Kd.R_alloc | apply Kd.R_drewN | apply Kd.R_drew)); exact HO109.out⟩, ⟨by repeat (first | (with_reducible first | exact HB.out | apply below_alloc | apply pw_below_drewN | apply below_drew1) | exact HB.out)⟩⟩
  case round =>
    clear H'
    try clear c2
    try clear p2
    obtain ⟨x12_1, rfl, HA, HK1, HO_3, HO_10, HB⟩ := hrel
    cases gk with
    | zero => exact absurd HA.out (by simp [spec_Plain.l0])
    | succ k1 =>
      have H := HA.out
      clear HA
      simp only [spec_Plain.l0] at H
      by_cases c5 : x12_1 < (t107.length : Int)
      · rw [if_pos c5] at H
        have c5b0 : decide (x12_1 < (t107.length : Int)) = true := decide_eq_true c5
        clear c5
        by_cases c6 : 0 ≤ x12_1
        · rw [if_pos c6] at H
          have c6b0 : decide (0 ≤ x12_1) = true := decide_eq_true c6
          clear c6
          by_cases c7 : x12_1 < (t107.length : Int)
          · rw [if_pos c7] at H
            have c7b0 : decide (x12_1 < (t107.length : Int)) = true := decide_eq_true c7
            clear c7
            have HC8 := Aside0.mk H
            clear H
            have p110 : 0 ≤ (x12_1 : Int) := of_decide_eq_true (by first | (with_reducible assumption) | assumption)
            have q110 : x12_1 < (t107.length : Int) := of_decide_eq_true (by first | (with_reducible assumption) | assumption)
            obtain ⟨ad110, e110, hx110_0⟩ := Kd.at_string (Kd.R_reads' HO_10.out).2.2 x12_1 p110 q110
            cases e110
            replace p110 := eq_true p110
            replace q110 := eq_true q110
            go_upto_region 5 with (fail)
            go_cut [29] (fun v29 wc => ∃ (kq : Nat) (x29_7 : Bool), v29 = .bool x29_7 ∧ Aside0 (spec_Plain.j1 kq a0 t107 (rdOf ByteArray.empty t107 x12_1) t107 (t107.length : Int) x12_1 x29_7 = some r) ∧ Aside0 (kq ≤ k1) ∧ Aside0 (Kd.R Kd.string 9 wc w.heap.size (fun _ => True) (.slice (some ad110) t107.length co4) t107) ∧ Aside0 (Kd.R Kd.string 9 wc w.heap.size (fun _ => True) (.slice (some ad110) t107.length co4) t107) ∧ Aside0 (Below w.heap.size w wc))
            case first =>
              have H := HC8.out
              clear HC8
              by_cases c9 : (rdOf ByteArray.empty t107 x12_1).toList = ([42] : List UInt8)
              · rw [if_pos c9] at H
                have c9b0 : ((rdOf ByteArray.empty t107 x12_1).toList == ([42] : List UInt8)) = true := beq_iff_eq.mpr c9
                have c9b1 : ((rdOf ByteArray.empty t107 x12_1).toList != ([42] : List UInt8)) = false := bne_eq_false_iff_eq.mpr c9
                clear c9
                (first | rw [c9b0] | (simp only [i64_w, i32_w]; rw [c9b0]) | skip)
                have H' := Aside0.mk H
                clear H
                go_wp2
                go_meet
                case rel => exact ⟨_, (true), (by first | rfl | (simp; done) | (simp [*]; done)), H', ⟨by have := HK1.out; first | omega | exact Nat.le_refl _⟩, ⟨by (with_reducible repeat (first | apply Kd.R_alloc | apply Kd.R_drewN | apply Kd.R_drew)); exact HO_3.out⟩, ⟨by (with_reducible repeat (first | apply Kd.R_alloc | apply Kd.R_drewN | apply Kd.R_drew)); exact HO_10.out⟩, ⟨by repeat (first | (with_reducible first | exact HB.out | apply below_alloc | apply pw_below_drewN | apply below_drew1) | exact HB.out)⟩⟩
              · rw [if_neg c9] at H
                have c9b0 : ((rdOf ByteArray.empty t107 x12_1).toList == ([42] : List UInt8)) = false := beq_eq_false_iff_ne.mpr c9
                have c9b1 : ((rdOf ByteArray.empty t107 x12_1).toList != ([42] : List UInt8)) = true := bne_iff_ne.mpr c9
                (first | rw [c9b0] | (simp only [i64_w, i32_w]; rw [c9b0]) | skip)
                by_cases c10 : (rdOf ByteArray.empty t107 x12_1).toList = ([62] : List UInt8)
                · rw [if_pos c10] at H
                  have c10b0 : ((rdOf ByteArray.empty t107 x12_1).toList == ([62] : List UInt8)) = true := beq_iff_eq.mpr c10
                  have c10b1 : ((rdOf ByteArray.empty t107 x12_1).toList != ([62] : List UInt8)) = false := bne_eq_false_iff_eq.mpr c10
                  clear c10
                  have H' := Aside0.mk H
                  clear H
                  go_wp2
                  go_meet
                  case rel => exact ⟨_, ((x12_1 == (wrap64 ((t107.length : Int) - 1)))), (by first | rfl | (simp; done) | (simp [*]; done)), H', ⟨by have := HK1.out; first | omega | exact Nat.le_refl _⟩, ⟨by (with_reducible repeat (first | apply Kd.R_alloc | apply Kd.R_drewN | apply Kd.R_drew)); exact HO_3.out⟩, ⟨by (with_reducible repeat (first | apply Kd.R_alloc | apply Kd.R_drewN | apply Kd.R_drew)); exact HO_10.out⟩, ⟨by repeat (first | (with_reducible first | exact HB.out | apply below_alloc | apply pw_below_drewN | apply below_drew1) | exact HB.out)⟩⟩
                · rw [if_neg c10] at H
                  have c10b0 : ((rdOf ByteArray.empty t107 x12_1).toList == ([62] : List UInt8)) = false := beq_eq_false_iff_ne.mpr c10
                  have c10b1 : ((rdOf ByteArray.empty t107 x12_1).toList != ([62] : List UInt8)) = true := bne_iff_ne.mpr c10
                  have H' := Aside0.mk H
                  clear H
                  go_wp2
                  go_meet
                  case rel => exact ⟨_, (false), (by first | rfl | (simp; done) | (simp [*]; done)), H', ⟨by have := HK1.out; first | omega | exact Nat.le_refl _⟩, ⟨by (with_reducible repeat (first | apply Kd.R_alloc | apply Kd.R_drewN | apply Kd.R_drew)); exact HO_3.out⟩, ⟨by (with_reducible repeat (first | apply Kd.R_alloc | apply Kd.R_drewN | apply Kd.R_drew)); exact HO_10.out⟩, ⟨by repeat (first | (with_reducible first | exact HB.out | apply below_alloc | apply pw_below_drewN | apply below_drew1) | exact HB.out)⟩⟩
            case rest =>
              clear HC8
              try clear c1
              try clear p1
              try clear q1
              try clear hx1
              try clear c2
              try clear p2
              try clear c5
              try clear c5b0
              try clear c6
              try clear c6b0
              try clear p6
              try clear c7
              try clear c7b0
              try clear c9
              try clear c9b0
              try clear c9b1
              try clear c10
              try clear c10b0
              try clear c10b1
              try clear hx110_0
              try clear p110
              try clear p2
              try clear q110
              obtain ⟨kq, x29_7, rfl, HA, HJ7, HO_3, HO_10, HB⟩ := hcut
              cases kq with
              | zero => exact absurd HA.out (by simp [spec_Plain.j1])
              | succ kj7 =>
                have H := HA.out
                clear HA
                simp only [spec_Plain.j1] at H
                by_cases c11 : x29_7 = true
                · subst c11
                  have H1 : (spec_Plain.l0 kj7 a0 t107 t107 (t107.length : Int) (wrap64 (x12_1 + 1))) = some r := by rw [if_pos rfl] at H; exact H
                  clear H
                  have H := H1
                  clear H1
                  have H' := Aside0.mk H
                  clear H
                  go_wp2
                  go_roundg kj7
                  case measure => have := HK1.out; have := HJ7.out; omega
                  case rel => exact ⟨(wrap64 (x12_1 + 1)), (by first | rfl | (simp; done) | (simp [*]; done)), H', ⟨by have := HK1.out; have := HJ7.out; omega⟩, ⟨by (with_reducible repeat (first | apply Kd.R_alloc | apply Kd.R_drewN | apply Kd.R_drew)); exact HO_3.out⟩, ⟨by (with_reducible repeat (first | apply Kd.R_alloc | apply Kd.R_drewN | apply Kd.R_drew)); exact HO_10.out⟩, ⟨by repeat (first | (with_reducible first | exact HB.out | apply below_alloc | apply pw_below_drewN | apply below_drew1) | exact HB.out)⟩⟩
                · replace c11 := Bool.eq_false_iff.mpr c11
                  subst c11
                  have H1 : (spec_Plain.l1 kj7 a0 t107 (rdOf ByteArray.empty t107 x12_1) t107 (t107.length : Int) x12_1 ((rdOf ByteArray.empty t107 x12_1).size : Int) 0) = some r := by rw [if_neg (show ¬ (false = true) by decide)] at H; exact H
                  clear H
                  have H := H1
                  clear H1
                  have H' := Aside0.mk H
                  clear H
                  go_wp2
                  go_loopg [32] kj7 (fun kq v32 w' => ∃ (x32_3 : Int), v32 = .int .i64 x32_3 ∧ Aside0 (spec_Plain.l1 kq a0 t107 (rdOf ByteArray.empty t107 x12_1) t107 (t107.length : Int) x12_1 ((rdOf ByteArray.empty t107 x12_1).size : Int) x32_3 = some r) ∧ Aside0 (kq ≤ kj7) ∧ Aside0 (Kd.R Kd.string 9 w' w.heap.size (fun _ => True) (.slice (some ad110) t107.length co4) t107) ∧ Aside0 (Kd.R Kd.string 9 w' w.heap.size (fun _ => True) (.slice (some ad110) t107.length co4) t107) ∧ Aside0 (Below w.heap.size w w'))
                  case atStart => exact ⟨(0), (by first | rfl | (simp; done) | (simp [*]; done)), H', ⟨Nat.le_refl _⟩, ⟨by (with_reducible repeat (first | apply Kd.R_alloc | apply Kd.R_drewN | apply Kd.R_drew)); exact HO_3.out⟩, ⟨by (with_reducible repeat (first | apply Kd.R_alloc | apply Kd.R_drewN | apply Kd.R_drew)); exact HO_10.out⟩, ⟨by repeat (first | (with_reducible first | exact HB.out | apply below_alloc | apply pw_below_drewN | apply below_drew1) | exact HB.out)⟩⟩
                  case round =>
                    clear H'
                    try clear c1
                    try clear p1
                    try clear q1
                    try clear hx1
                    try clear c2
                    try clear p2
                    try clear c5
                    try clear c5b0
                    try clear c6
                    try clear c6b0
                    try clear p6
                    try clear c7
                    try clear c7b0
                    try clear c9
                    try clear c9b0
                    try clear c9b1
                    try clear c10
                    try clear c10b0
                    try clear c10b1
                    try clear c11
                    try clear p11
                    try clear q11
                    try clear hx11
                    try clear hx110_0
                    try clear p1
                    try clear p110
                    try clear p2
                    try clear p6
                    try clear q1
                    try clear q110
                    obtain ⟨x32_3, rfl, HA, HK3, HO_3, HO_10, HB⟩ := hrel
                    cases gk with
                    | zero => exact absurd HA.out (by simp [spec_Plain.l1])
                    | succ k3 =>
                      have H := HA.out
                      clear HA
                      simp only [spec_Plain.l1] at H
                      by_cases c12 : x32_3 < ((rdOf ByteArray.empty t107 x12_1).size : Int)
                      · rw [if_pos c12] at H
                        have c12b0 : decide (x32_3 < ((rdOf ByteArray.empty t107 x12_1).size : Int)) = true := decide_eq_true c12
                        clear c12
                        by_cases c13 : 0 ≤ x32_3
                        · rw [if_pos c13] at H
                          have c13b0 : decide (0 ≤ x32_3) = true := decide_eq_true c13
                          clear c13
                          by_cases c14 : x32_3 < ((rdOf ByteArray.empty t107 x12_1).size : Int)
                          · rw [if_pos c14] at H
                            have c14b0 : decide (x32_3 < ((rdOf ByteArray.empty t107 x12_1).size : Int)) = true := decide_eq_true c14
                            clear c14
                            by_cases c16 : (bt (rdOf ByteArray.empty t107 x12_1) x32_3) < 97
                            · rw [if_pos c16] at H
                              have c16b0 : decide ((bt (rdOf ByteArray.empty t107 x12_1) x32_3) < 97) = true := decide_eq_true c16
                              clear c16
                              by_cases c17 : (bt (rdOf ByteArray.empty t107 x12_1) x32_3) < 65
                              · rw [if_pos c17] at H
                                have c17b0 : decide ((bt (rdOf ByteArray.empty t107 x12_1) x32_3) < 65) = true := decide_eq_true c17
                                clear c17
                                by_cases c18 : (bt (rdOf ByteArray.empty t107 x12_1) x32_3) < 48
                                · rw [if_pos c18] at H
                                  have c18b0 : decide ((bt (rdOf ByteArray.empty t107 x12_1) x32_3) < 48) = true := decide_eq_true c18
                                  clear c18
                                  by_cases c19 : (bt (rdOf ByteArray.empty t107 x12_1) x32_3) = 95
                                  · rw [if_pos c19] at H
                                    have c19b0 : ((bt (rdOf ByteArray.empty t107 x12_1) x32_3) == 95) = true := beq_iff_eq.mpr c19
                                    have c19b1 : ((bt (rdOf ByteArray.empty t107 x12_1) x32_3) != 95) = false := bne_eq_false_iff_eq.mpr c19
                                    clear c19
                                    have H' := Aside0.mk H
                                    clear H
                                    have p15 : 0 ≤ (x32_3 : Int) := of_decide_eq_true (by first | (with_reducible assumption) | assumption)
                                    have q15 : x32_3 < ((rdOf ByteArray.empty t107 x12_1).size : Int) := of_decide_eq_true (by first | (with_reducible assumption) | assumption)
                                    have hx15 := bt_at (rdOf ByteArray.empty t107 x12_1) x32_3
                                    replace p15 := eq_true p15
                                    replace q15 := eq_true q15
                                    go_wp2
                                    go_roundg k3
                                    case measure => have := HK1.out; have := HJ7.out; have := HK3.out; omega
                                    case rel => exact ⟨(wrap64 (x32_3 + 1)), (by first | rfl | (simp; done) | (simp [*]; done)), H', ⟨by have := HK1.out; have := HJ7.out; have := HK3.out; omega⟩, ⟨by (with_reducible repeat (first | apply Kd.R_alloc | apply Kd.R_drewN | apply Kd.R_drew)); exact HO_3.out⟩, ⟨by (with_reducible repeat (first | apply Kd.R_alloc | apply Kd.R_drewN | apply Kd.R_drew)); exact HO_10.out⟩, ⟨by repeat (first | (with_reducible first | exact HB.out | apply below_alloc | apply pw_below_drewN | apply below_drew1) | exact HB.out)⟩⟩
                                  · rw [if_neg c19] at H
                                    have c19b0 : ((bt (rdOf ByteArray.empty t107 x12_1) x32_3) == 95) = false := beq_eq_false_iff_ne.mpr c19
                                    have c19b1 : ((bt (rdOf ByteArray.empty t107 x12_1) x32_3) != 95) = true := bne_iff_ne.mpr c19
                                    by_cases c20 : (bt (rdOf ByteArray.empty t107 x12_1) x32_3) = 36
                                    · rw [if_pos c20] at H
                                      have c20b0 : ((bt (rdOf ByteArray.empty t107 x12_1) x32_3) == 36) = true := beq_iff_eq.mpr c20
                                      have c20b1 : ((bt (rdOf ByteArray.empty t107 x12_1) x32_3) != 36) = false := bne_eq_false_iff_eq.mpr c20
                                      clear c20
                                      have H' := Aside0.mk H
                                      clear H
                                      have p15 : 0 ≤ (x32_3 : Int) := of_decide_eq_true (by first | (with_reducible assumption) | assumption)
                                      have q15 : x32_3 < ((rdOf ByteArray.empty t107 x12_1).size : Int) := of_decide_eq_true (by first | (with_reducible assumption) | assumption)
                                      have hx15 := bt_at (rdOf ByteArray.empty t107 x12_1) x32_3
                                      replace p15 := eq_true p15
                                      replace q15 := eq_true q15
                                      go_wp2
                                      go_roundg k3
                                      case measure => have := HK1.out; have := HJ7.out; have := HK3.out; omega
                                      case rel => exact ⟨(wrap64 (x32_3 + 1)), (by first | rfl | (simp; done) | (simp [*]; done)), H', ⟨by have := HK1.out; have := HJ7.out; have := HK3.out; omega⟩, ⟨by (with_reducible repeat (first | apply Kd.R_alloc | apply Kd.R_drewN | apply Kd.R_drew)); exact HO_3.out⟩, ⟨by (with_reducible repeat (first | apply Kd.R_alloc | apply Kd.R_drewN | apply Kd.R_drew)); exact HO_10.out⟩, ⟨by repeat (first | (with_reducible first | exact HB.out | apply below_alloc | apply pw_below_drewN | apply below_drew1) | exact HB.out)⟩⟩
                                    · rw [if_neg c20] at H
                                      have c20b0 : ((bt (rdOf ByteArray.empty t107 x12_1) x32_3) == 36) = false := beq_eq_false_iff_ne.mpr c20
                                      have c20b1 : ((bt (rdOf ByteArray.empty t107 x12_1) x32_3) != 36) = true := bne_iff_ne.mpr c20
                                      obtain rfl := Option.some.inj H
                                      have p15 : 0 ≤ (x32_3 : Int) := of_decide_eq_true (by first | (with_reducible assumption) | assumption)
                                      have q15 : x32_3 < ((rdOf ByteArray.empty t107 x12_1).size : Int) := of_decide_eq_true (by first | (with_reducible assumption) | assumption)
                                      have hx15 := bt_at (rdOf ByteArray.empty t107 x12_1) x32_3
                                      replace p15 := eq_true p15
                                      replace q15 := eq_true q15
                                      go_wp2
                                      go_ret
                                      exact ⟨by first | rfl | (simp [errW_none, errW_some] <;> rfl) | (simp [*, errW_none, errW_some] <;> rfl), by repeat (first | (with_reducible first | exact HB.out | apply below_alloc | apply pw_below_drewN | apply below_drew1) | exact HB.out)⟩
                                · rw [if_neg c18] at H
                                  have c18b0 : decide ((bt (rdOf ByteArray.empty t107 x12_1) x32_3) < 48) = false := decide_eq_false c18
                                  clear c18
                                  by_cases c21 : (bt (rdOf ByteArray.empty t107 x12_1) x32_3) > 57
                                  · rw [if_pos c21] at H
                                    have c21b0 : decide (57 < (bt (rdOf ByteArray.empty t107 x12_1) x32_3)) = true := decide_eq_true c21
                                    clear c21
                                    by_cases c22 : (bt (rdOf ByteArray.empty t107 x12_1) x32_3) = 95
                                    · rw [if_pos c22] at H
                                      have c22b0 : ((bt (rdOf ByteArray.empty t107 x12_1) x32_3) == 95) = true := beq_iff_eq.mpr c22
                                      have c22b1 : ((bt (rdOf ByteArray.empty t107 x12_1) x32_3) != 95) = false := bne_eq_false_iff_eq.mpr c22
                                      clear c22
                                      have H' := Aside0.mk H
                                      clear H
                                      have p15 : 0 ≤ (x32_3 : Int) := of_decide_eq_true (by first | (with_reducible assumption) | assumption)
                                      have q15 : x32_3 < ((rdOf ByteArray.empty t107 x12_1).size : Int) := of_decide_eq_true (by first | (with_reducible assumption) | assumption)
                                      have hx15 := bt_at (rdOf ByteArray.empty t107 x12_1) x32_3
                                      replace p15 := eq_true p15
                                      replace q15 := eq_true q15
                                      go_wp2
                                      go_roundg k3
                                      case measure => have := HK1.out; have := HJ7.out; have := HK3.out; omega
                                      case rel => exact ⟨(wrap64 (x32_3 + 1)), (by first | rfl | (simp; done) | (simp [*]; done)), H', ⟨by have := HK1.out; have := HJ7.out; have := HK3.out; omega⟩, ⟨by (with_reducible repeat (first | apply Kd.R_alloc | apply Kd.R_drewN | apply Kd.R_drew)); exact HO_3.out⟩, ⟨by (with_reducible repeat (first | apply Kd.R_alloc | apply Kd.R_drewN | apply Kd.R_drew)); exact HO_10.out⟩, ⟨by repeat (first | (with_reducible first | exact HB.out | apply below_alloc | apply pw_below_drewN | apply below_drew1) | exact HB.out)⟩⟩
                                    · rw [if_neg c22] at H
                                      have c22b0 : ((bt (rdOf ByteArray.empty t107 x12_1) x32_3) == 95) = false := beq_eq_false_iff_ne.mpr c22
                                      have c22b1 : ((bt (rdOf ByteArray.empty t107 x12_1) x32_3) != 95) = true := bne_iff_ne.mpr c22
                                      by_cases c23 : (bt (rdOf ByteArray.empty t107 x12_1) x32_3) = 36
                                      · rw [if_pos c23] at H
                                        have c23b0 : ((bt (rdOf ByteArray.empty t107 x12_1) x32_3) == 36) = true := beq_iff_eq.mpr c23
                                        have c23b1 : ((bt (rdOf ByteArray.empty t107 x12_1) x32_3) != 36) = false := bne_eq_false_iff_eq.mpr c23
                                        clear c23
                                        have H' := Aside0.mk H
                                        clear H
                                        have p15 : 0 ≤ (x32_3 : Int) := of_decide_eq_true (by first | (with_reducible assumption) | assumption)
                                        have q15 : x32_3 < ((rdOf ByteArray.empty t107 x12_1).size : Int) := of_decide_eq_true (by first | (with_reducible assumption) | assumption)
                                        have hx15 := bt_at (rdOf ByteArray.empty t107 x12_1) x32_3
                                        replace p15 := eq_true p15
                                        replace q15 := eq_true q15
                                        go_wp2
                                        go_roundg k3
                                        case measure => have := HK1.out; have := HJ7.out; have := HK3.out; omega
                                        case rel => exact ⟨(wrap64 (x32_3 + 1)), (by first | rfl | (simp; done) | (simp [*]; done)), H', ⟨by have := HK1.out; have := HJ7.out; have := HK3.out; omega⟩, ⟨by (with_reducible repeat (first | apply Kd.R_alloc | apply Kd.R_drewN | apply Kd.R_drew)); exact HO_3.out⟩, ⟨by (with_reducible repeat (first | apply Kd.R_alloc | apply Kd.R_drewN | apply Kd.R_drew)); exact HO_10.out⟩, ⟨by repeat (first | (with_reducible first | exact HB.out | apply below_alloc | apply pw_below_drewN | apply below_drew1) | exact HB.out)⟩⟩
                                      · rw [if_neg c23] at H
                                        have c23b0 : ((bt (rdOf ByteArray.empty t107 x12_1) x32_3) == 36) = false := beq_eq_false_iff_ne.mpr c23
                                        have c23b1 : ((bt (rdOf ByteArray.empty t107 x12_1) x32_3) != 36) = true := bne_iff_ne.mpr c23
                                        obtain rfl := Option.some.inj H
                                        have p15 : 0 ≤ (x32_3 : Int) := of_decide_eq_true (by first | (with_reducible assumption) | assumption)
                                        have q15 : x32_3 < ((rdOf ByteArray.empty t107 x12_1).size : Int) := of_decide_eq_true (by first | (with_reducible assumption) | assumption)
                                        have hx15 := bt_at (rdOf ByteArray.empty t107 x12_1) x32_3
                                        replace p15 := eq_true p15
                                        replace q15 := eq_true q15
                                        go_wp2
                                        go_ret
                                        exact ⟨by first | rfl | (simp [errW_none, errW_some] <;> rfl) | (simp [*, errW_none, errW_some] <;> rfl), by repeat (first | (with_reducible first | exact HB.out | apply below_alloc | apply pw_below_drewN | apply below_drew1) | exact HB.out)⟩
                                  · rw [if_neg c21] at H
                                    have c21b0 : decide (57 < (bt (rdOf ByteArray.empty t107 x12_1) x32_3)) = false := decide_eq_false c21
                                    clear c21
                                    have H' := Aside0.mk H
                                    clear H
                                    have p15 : 0 ≤ (x32_3 : Int) := of_decide_eq_true (by first | (with_reducible assumption) | assumption)
                                    have q15 : x32_3 < ((rdOf ByteArray.empty t107 x12_1).size : Int) := of_decide_eq_true (by first | (with_reducible assumption) | assumption)
                                    have hx15 := bt_at (rdOf ByteArray.empty t107 x12_1) x32_3
                                    replace p15 := eq_true p15
                                    replace q15 := eq_true q15
                                    go_wp2
                                    go_roundg k3
                                    case measure => have := HK1.out; have := HJ7.out; have := HK3.out; omega
                                    case rel => exact ⟨(wrap64 (x32_3 + 1)), (by first | rfl | (simp; done) | (simp [*]; done)), H', ⟨by have := HK1.out; have := HJ7.out; have := HK3.out; omega⟩, ⟨by (with_reducible repeat (first | apply Kd.R_alloc | apply Kd.R_drewN | apply Kd.R_drew)); exact HO_3.out⟩, ⟨by (with_reducible repeat (first | apply Kd.R_alloc | apply Kd.R_drewN | apply Kd.R_drew)); exact HO_10.out⟩, ⟨by repeat (first | (with_reducible first | exact HB.out | apply below_alloc | apply pw_below_drewN | apply below_drew1) | exact HB.out)⟩⟩
                              · rw [if_neg c17] at H
                                have c17b0 : decide ((bt (rdOf ByteArray.empty t107 x12_1) x32_3) < 65) = false := decide_eq_false c17
                                clear c17
                                by_cases c24 : (bt (rdOf ByteArray.empty t107 x12_1) x32_3) > 90
                                · rw [if_pos c24] at H
                                  have c24b0 : decide (90 < (bt (rdOf ByteArray.empty t107 x12_1) x32_3)) = true := decide_eq_true c24
                                  clear c24
                                  by_cases c25 : (bt (rdOf ByteArray.empty t107 x12_1) x32_3) < 48
                                  · rw [if_pos c25] at H
                                    have c25b0 : decide ((bt (rdOf ByteArray.empty t107 x12_1) x32_3) < 48) = true := decide_eq_true c25
                                    clear c25
                                    by_cases c26 : (bt (rdOf ByteArray.empty t107 x12_1) x32_3) = 95
                                    · rw [if_pos c26] at H
                                      have c26b0 : ((bt (rdOf ByteArray.empty t107 x12_1) x32_3) == 95) = true := beq_iff_eq.mpr c26
                                      have c26b1 : ((bt (rdOf ByteArray.empty t107 x12_1) x32_3) != 95) = false := bne_eq_false_iff_eq.mpr c26
                                      clear c26
                                      have H' := Aside0.mk H
                                      clear H
                                      have p15 : 0 ≤ (x32_3 : Int) := of_decide_eq_true (by first | (with_reducible assumption) | assumption)
                                      have q15 : x32_3 < ((rdOf ByteArray.empty t107 x12_1).size : Int) := of_decide_eq_true (by first | (with_reducible assumption) | assumption)
                                      have hx15 := bt_at (rdOf ByteArray.empty t107 x12_1) x32_3
                                      replace p15 := eq_true p15
                                      replace q15 := eq_true q15
                                      go_wp2
                                      go_roundg k3
                                      case measure => have := HK1.out; have := HJ7.out; have := HK3.out; omega
                                      case rel => exact ⟨(wrap64 (x32_3 + 1)), (by first | rfl | (simp; done) | (simp [*]; done)), H', ⟨by have := HK1.out; have := HJ7.out; have := HK3.out; omega⟩, ⟨by (with_reducible repeat (first | apply Kd.R_alloc | apply Kd.R_drewN | apply Kd.R_drew)); exact HO_3.out⟩, ⟨by (with_reducible repeat (first | apply Kd.R_alloc | apply Kd.R_drewN | apply Kd.R_drew)); exact HO_10.out⟩, ⟨by repeat (first | (with_reducible first | exact HB.out | apply below_alloc | apply pw_below_drewN | apply below_drew1) | exact HB.out)⟩⟩
                                    · rw [if_neg c26] at H
                                      have c26b0 : ((bt (rdOf ByteArray.empty t107 x12_1) x32_3) == 95) = false := beq_eq_false_iff_ne.mpr c26
                                      have c26b1 : ((bt (rdOf ByteArray.empty t107 x12_1) x32_3) != 95) = true := bne_iff_ne.mpr c26
                                      by_cases c27 : (bt (rdOf ByteArray.empty t107 x12_1) x32_3) = 36
                                      · rw [if_pos c27] at H
                                        have c27b0 : ((bt (rdOf ByteArray.empty t107 x12_1) x32_3) == 36) = true := beq_iff_eq.mpr c27
                                        have c27b1 : ((bt (rdOf ByteArray.empty t107 x12_1) x32_3) != 36) = false := bne_eq_false_iff_eq.mpr c27
                                        clear c27
                                        have H' := Aside0.mk H
                                        clear H
                                        have p15 : 0 ≤ (x32_3 : Int) := of_decide_eq_true (by first | (with_reducible assumption) | assumption)
                                        have q15 : x32_3 < ((rdOf ByteArray.empty t107 x12_1).size : Int) := of_decide_eq_true (by first | (with_reducible assumption) | assumption)
                                        have hx15 := bt_at (rdOf ByteArray.empty t107 x12_1) x32_3
                                        replace p15 := eq_true p15
                                        replace q15 := eq_true q15
                                        go_wp2
                                        go_roundg k3
                                        case measure => have := HK1.out; have := HJ7.out; have := HK3.out; omega
                                        case rel => exact ⟨(wrap64 (x32_3 + 1)), (by first | rfl | (simp; done) | (simp [*]; done)), H', ⟨by have := HK1.out; have := HJ7.out; have := HK3.out; omega⟩, ⟨by (with_reducible repeat (first | apply Kd.R_alloc | apply Kd.R_drewN | apply Kd.R_drew)); exact HO_3.out⟩, ⟨by (with_reducible repeat (first | apply Kd.R_alloc | apply Kd.R_drewN | apply Kd.R_drew)); exact HO_10.out⟩, ⟨by repeat (first | (with_reducible first | exact HB.out | apply below_alloc | apply pw_below_drewN | apply below_drew1) | exact HB.out)⟩⟩
                                      · rw [if_neg c27] at H
                                        have c27b0 : ((bt (rdOf ByteArray.empty t107 x12_1) x32_3) == 36) = false := beq_eq_false_iff_ne.mpr c27
                                        have c27b1 : ((bt (rdOf ByteArray.empty t107 x12_1) x32_3) != 36) = true := bne_iff_ne.mpr c27
                                        obtain rfl := Option.some.inj H
                                        have p15 : 0 ≤ (x32_3 : Int) := of_decide_eq_true (by first | (with_reducible assumption) | assumption)
                                        have q15 : x32_3 < ((rdOf ByteArray.empty t107 x12_1).size : Int) := of_decide_eq_true (by first | (with_reducible assumption) | assumption)
                                        have hx15 := bt_at (rdOf ByteArray.empty t107 x12_1) x32_3
                                        replace p15 := eq_true p15
                                        replace q15 := eq_true q15
                                        go_wp2
                                        go_ret
                                        exact ⟨by first | rfl | (simp [errW_none, errW_some] <;> rfl) | (simp [*, errW_none, errW_some] <;> rfl), by repeat (first | (with_reducible first | exact HB.out | apply below_alloc | apply pw_below_drewN | apply below_drew1) | exact HB.out)⟩
                                  · rw [if_neg c25] at H
                                    have c25b0 : decide ((bt (rdOf ByteArray.empty t107 x12_1) x32_3) < 48) = false := decide_eq_false c25
                                    clear c25
                                    by_cases c28 : (bt (rdOf ByteArray.empty t107 x12_1) x32_3) > 57
                                    · rw [if_pos c28] at H
                                      have c28b0 : decide (57 < (bt (rdOf ByteArray.empty t107 x12_1) x32_3)) = true := decide_eq_true c28
                                      clear c28
                                      by_cases c29 : (bt (rdOf ByteArray.empty t107 x12_1) x32_3) = 95
                                      · rw [if_pos c29] at H
                                        have c29b0 : ((bt (rdOf ByteArray.empty t107 x12_1) x32_3) == 95) = true := beq_iff_eq.mpr c29
                                        have c29b1 : ((bt (rdOf ByteArray.empty t107 x12_1) x32_3) != 95) = false := bne_eq_false_iff_eq.mpr c29
                                        clear c29
                                        have H' := Aside0.mk H
                                        clear H
                                        have p15 : 0 ≤ (x32_3 : Int) := of_decide_eq_true (by first | (with_reducible assumption) | assumption)
                                        have q15 : x32_3 < ((rdOf ByteArray.empty t107 x12_1).size : Int) := of_decide_eq_true (by first | (with_reducible assumption) | assumption)
                                        have hx15 := bt_at (rdOf ByteArray.empty t107 x12_1) x32_3
                                        replace p15 := eq_true p15
                                        replace q15 := eq_true q15
                                        go_wp2
                                        go_roundg k3
                                        case measure => have := HK1.out; have := HJ7.out; have := HK3.out; omega
                                        case rel => exact ⟨(wrap64 (x32_3 + 1)), (by first | rfl | (simp; done) | (simp [*]; done)), H', ⟨by have := HK1.out; have := HJ7.out; have := HK3.out; omega⟩, ⟨by (with_reducible repeat (first | apply Kd.R_alloc | apply Kd.R_drewN | apply Kd.R_drew)); exact HO_3.out⟩, ⟨by (with_reducible repeat (first | apply Kd.R_alloc | apply Kd.R_drewN | apply Kd.R_drew)); exact HO_10.out⟩, ⟨by repeat (first | (with_reducible first | exact HB.out | apply below_alloc | apply pw_below_drewN | apply below_drew1) | exact HB.out)⟩⟩
                                      · rw [if_neg c29] at H
                                        have c29b0 : ((bt (rdOf ByteArray.empty t107 x12_1) x32_3) == 95) = false := beq_eq_false_iff_ne.mpr c29
                                        have c29b1 : ((bt (rdOf ByteArray.empty t107 x12_1) x32_3) != 95) = true := bne_iff_ne.mpr c29
                                        by_cases c30 : (bt (rdOf ByteArray.empty t107 x12_1) x32_3) = 36
                                        · rw [if_pos c30] at H
                                          have c30b0 : ((bt (rdOf ByteArray.empty t107 x12_1) x32_3) == 36) = true := beq_iff_eq.mpr c30
                                          have c30b1 : ((bt (rdOf ByteArray.empty t107 x12_1) x32_3) != 36) = false := bne_eq_false_iff_eq.mpr c30
                                          clear c30
                                          have H' := Aside0.mk H
                                          clear H
                                          have p15 : 0 ≤ (x32_3 : Int) := of_decide_eq_true (by first | (with_reducible assumption) | assumption)
                                          have q15 : x32_3 < ((rdOf ByteArray.empty t107 x12_1).size : Int) := of_decide_eq_true (by first | (with_reducible assumption) | assumption)
                                          have hx15 := bt_at (rdOf ByteArray.empty t107 x12_1) x32_3
                                          replace p15 := eq_true p15
                                          replace q15 := eq_true q15
                                          go_wp2
                                          go_roundg k3
                                          case measure => have := HK1.out; have := HJ7.out; have := HK3.out; omega
                                          case rel => exact ⟨(wrap64 (x32_3 + 1)), (by first | rfl | (simp; done) | (simp [*]; done)), H', ⟨by have := HK1.out; have := HJ7.out; have := HK3.out; omega⟩, ⟨by (with_reducible repeat (first | apply Kd.R_alloc | apply Kd.R_drewN | apply Kd.R_drew)); exact HO_3.out⟩, ⟨by (with_reducible repeat (first | apply Kd.R_alloc | apply Kd.R_drewN | apply Kd.R_drew)); exact HO_10.out⟩, ⟨by repeat (first | (with_reducible first | exact HB.out | apply below_alloc | apply pw_below_drewN | apply below_drew1) | exact HB.out)⟩⟩
                                        · rw [if_neg c30] at H
                                          have c30b0 : ((bt (rdOf ByteArray.empty t107 x12_1) x32_3) == 36) = false := beq_eq_false_iff_ne.mpr c30
                                          have c30b1 : ((bt (rdOf ByteArray.empty t107 x12_1) x32_3) != 36) = true := bne_iff_ne.mpr c30
                                          obtain rfl := Option.some.inj H
                                          have p15 : 0 ≤ (x32_3 : Int) := of_decide_eq_true (by first | (with_reducible assumption) | assumption)
                                          have q15 : x32_3 < ((rdOf ByteArray.empty t107 x12_1).size : Int) := of_decide_eq_true (by first | (with_reducible assumption) | assumption)
                                          have hx15 := bt_at (rdOf ByteArray.empty t107 x12_1) x32_3
                                          replace p15 := eq_true p15
                                          replace q15 := eq_true q15
                                          go_wp2
                                          go_ret
                                          exact ⟨by first | rfl | (simp [errW_none, errW_some] <;> rfl) | (simp [*, errW_none, errW_some] <;> rfl), by repeat (first | (with_reducible first | exact HB.out | apply below_alloc | apply pw_below_drewN | apply below_drew1) | exact HB.out)⟩
                                    · rw [if_neg c28] at H
                                      have c28b0 : decide (57 < (bt (rdOf ByteArray.empty t107 x12_1) x32_3)) = false := decide_eq_false c28
                                      clear c28
                                      have H' := Aside0.mk H
                                      clear H
                                      have p15 : 0 ≤ (x32_3 : Int) := of_decide_eq_true (by first | (with_reducible assumption) | assumption)
                                      have q15 : x32_3 < ((rdOf ByteArray.empty t107 x12_1).size : Int) := of_decide_eq_true (by first | (with_reducible assumption) | assumption)
                                      have hx15 := bt_at (rdOf ByteArray.empty t107 x12_1) x32_3
                                      replace p15 := eq_true p15
                                      replace q15 := eq_true q15
                                      go_wp2
                                      go_roundg k3
                                      case measure => have := HK1.out; have := HJ7.out; have := HK3.out; omega
                                      case rel => exact ⟨(wrap64 (x32_3 + 1)), (by first | rfl | (simp; done) | (simp [*]; done)), H', ⟨by have := HK1.out; have := HJ7.out; have := HK3.out; omega⟩, ⟨by (with_reducible repeat (first | apply Kd.R_alloc | apply Kd.R_drewN | apply Kd.R_drew)); exact HO_3.out⟩, ⟨by (with_reducible repeat (first | apply Kd.R_alloc | apply Kd.R_drewN | apply Kd.R_drew)); exact HO_10.out⟩, ⟨by repeat (first | (with_reducible first | exact HB.out | apply below_alloc | apply pw_below_drewN | apply below_drew1) | exact HB.out)⟩⟩
                                · rw [if_neg c24] at H
                                  have c24b0 : decide (90 < (bt (rdOf ByteArray.empty t107 x12_1) x32_3)) = false := decide_eq_false c24
                                  clear c24
                                  have H' := Aside0.mk H
                                  clear H
                                  have p15 : 0 ≤ (x32_3 : Int) := of_decide_eq_true (by first | (with_reducible assumption) | assumption)
                                  have q15 : x32_3 < ((rdOf ByteArray.empty t107 x12_1).size : Int) := of_decide_eq_true (by first | (with_reducible assumption) | assumption)
                                  have hx15 := bt_at (rdOf ByteArray.empty t107 x12_1) x32_3
                                  replace p15 := eq_true p15
                                  replace q15 := eq_true q15
                                  go_wp2
                                  go_roundg k3
                                  case measure => have := HK1.out; have := HJ7.out; have := HK3.out; omega
                                  case rel => exact ⟨(wrap64 (x32_3 + 1)), (by first | rfl | (simp; done) | (simp [*]; done)), H', ⟨by have := HK1.out; have := HJ7.out; have := HK3.out; omega⟩, ⟨by (with_reducible repeat (first | apply Kd.R_alloc | apply Kd.R_drewN | apply Kd.R_drew)); exact HO_3.out⟩, ⟨by (with_reducible repeat (first | apply Kd.R_alloc | apply Kd.R_drewN | apply Kd.R_drew)); exact HO_10.out⟩, ⟨by repeat (first | (with_reducible first | exact HB.out | apply below_alloc | apply pw_below_drewN | apply below_drew1) | exact HB.out)⟩⟩
                            · rw [if_neg c16] at H
                              have c16b0 : decide ((bt (rdOf ByteArray.empty t107 x12_1) x32_3) < 97) = false := decide_eq_false c16
                              clear c16
                              by_cases c31 : (bt (rdOf ByteArray.empty t107 x12_1) x32_3) > 122
                              · rw [if_pos c31] at H
                                have c31b0 : decide (122 < (bt (rdOf ByteArray.empty t107 x12_1) x32_3)) = true := decide_eq_true c31
                                clear c31
                                by_cases c32 : (bt (rdOf ByteArray.empty t107 x12_1) x32_3) < 65
                                · rw [if_pos c32] at H
                                  have c32b0 : decide ((bt (rdOf ByteArray.empty t107 x12_1) x32_3) < 65) = true := decide_eq_true c32
                                  clear c32
                                  by_cases c33 : (bt (rdOf ByteArray.empty t107 x12_1) x32_3) < 48
                                  · rw [if_pos c33] at H
                                    have c33b0 : decide ((bt (rdOf ByteArray.empty t107 x12_1) x32_3) < 48) = true := decide_eq_true c33
                                    clear c33
                                    by_cases c34 : (bt (rdOf ByteArray.empty t107 x12_1) x32_3) = 95
                                    · rw [if_pos c34] at H
                                      have c34b0 : ((bt (rdOf ByteArray.empty t107 x12_1) x32_3) == 95) = true := beq_iff_eq.mpr c34
                                      have c34b1 : ((bt (rdOf ByteArray.empty t107 x12_1) x32_3) != 95) = false := bne_eq_false_iff_eq.mpr c34
                                      clear c34
                                      have H' := Aside0.mk H
                                      clear H
                                      have p15 : 0 ≤ (x32_3 : Int) := of_decide_eq_true (by first | (with_reducible assumption) | assumption)
                                      have q15 : x32_3 < ((rdOf ByteArray.empty t107 x12_1).size : Int) := of_decide_eq_true (by first | (with_reducible assumption) | assumption)
                                      have hx15 := bt_at (rdOf ByteArray.empty t107 x12_1) x32_3
                                      replace p15 := eq_true p15
                                      replace q15 := eq_true q15
                                      go_wp2
                                      go_roundg k3
                                      case measure => have := HK1.out; have := HJ7.out; have := HK3.out; omega
                                      case rel => exact ⟨(wrap64 (x32_3 + 1)), (by first | rfl | (simp; done) | (simp [*]; done)), H', ⟨by have := HK1.out; have := HJ7.out; have := HK3.out; omega⟩, ⟨by (with_reducible repeat (first | apply Kd.R_alloc | apply Kd.R_drewN | apply Kd.R_drew)); exact HO_3.out⟩, ⟨by (with_reducible repeat (first | apply Kd.R_alloc | apply Kd.R_drewN | apply Kd.R_drew)); exact HO_10.out⟩, ⟨by repeat (first | (with_reducible first | exact HB.out | apply below_alloc | apply pw_below_drewN | apply below_drew1) | exact HB.out)⟩⟩
                                    · rw [if_neg c34] at H
                                      have c34b0 : ((bt (rdOf ByteArray.empty t107 x12_1) x32_3) == 95) = false := beq_eq_false_iff_ne.mpr c34
                                      have c34b1 : ((bt (rdOf ByteArray.empty t107 x12_1) x32_3) != 95) = true := bne_iff_ne.mpr c34
                                      by_cases c35 : (bt (rdOf ByteArray.empty t107 x12_1) x32_3) = 36
                                      · rw [if_pos c35] at H
                                        have c35b0 : ((bt (rdOf ByteArray.empty t107 x12_1) x32_3) == 36) = true := beq_iff_eq.mpr c35
                                        have c35b1 : ((bt (rdOf ByteArray.empty t107 x12_1) x32_3) != 36) = false := bne_eq_false_iff_eq.mpr c35
                                        clear c35
                                        have H' := Aside0.mk H
                                        clear H
                                        have p15 : 0 ≤ (x32_3 : Int) := of_decide_eq_true (by first | (with_reducible assumption) | assumption)
                                        have q15 : x32_3 < ((rdOf ByteArray.empty t107 x12_1).size : Int) := of_decide_eq_true (by first | (with_reducible assumption) | assumption)
                                        have hx15 := bt_at (rdOf ByteArray.empty t107 x12_1) x32_3
                                        replace p15 := eq_true p15
                                        replace q15 := eq_true q15
                                        go_wp2
                                        go_roundg k3
                                        case measure => have := HK1.out; have := HJ7.out; have := HK3.out; omega
                                        case rel => exact ⟨(wrap64 (x32_3 + 1)), (by first | rfl | (simp; done) | (simp [*]; done)), H', ⟨by have := HK1.out; have := HJ7.out; have := HK3.out; omega⟩, ⟨by (with_reducible repeat (first | apply Kd.R_alloc | apply Kd.R_drewN | apply Kd.R_drew)); exact HO_3.out⟩, ⟨by (with_reducible repeat (first | apply Kd.R_alloc | apply Kd.R_drewN | apply Kd.R_drew)); exact HO_10.out⟩, ⟨by repeat (first | (with_reducible first | exact HB.out | apply below_alloc | apply pw_below_drewN | apply below_drew1) | exact HB.out)⟩⟩
                                      · rw [if_neg c35] at H
                                        have c35b0 : ((bt (rdOf ByteArray.empty t107 x12_1) x32_3) == 36) = false := beq_eq_false_iff_ne.mpr c35
                                        have c35b1 : ((bt (rdOf ByteArray.empty t107 x12_1) x32_3) != 36) = true := bne_iff_ne.mpr c35
                                        obtain rfl := Option.some.inj H
                                        have p15 : 0 ≤ (x32_3 : Int) := of_decide_eq_true (by first | (with_reducible assumption) | assumption)
                                        have q15 : x32_3 < ((rdOf ByteArray.empty t107 x12_1).size : Int) := of_decide_eq_true (by first | (with_reducible assumption) | assumption)
                                        have hx15 := bt_at (rdOf ByteArray.empty t107 x12_1) x32_3
                                        replace p15 := eq_true p15
                                        replace q15 := eq_true q15
                                        go_wp2
                                        go_ret
                                        exact ⟨by first | rfl | (simp [errW_none, errW_some] <;> rfl) | (simp [*, errW_none, errW_some] <;> rfl), by repeat (first | (with_reducible first | exact HB.out | apply below_alloc | apply pw_below_drewN | apply below_drew1) | exact HB.out)⟩
                                  · rw [if_neg c33] at H
                                    have c33b0 : decide ((bt (rdOf ByteArray.empty t107 x12_1) x32_3) < 48) = false := decide_eq_false c33
                                    clear c33
                                    by_cases c36 : (bt (rdOf ByteArray.empty t107 x12_1) x32_3) > 57
                                    · rw [if_pos c36] at H
                                      have c36b0 : decide (57 < (bt (rdOf ByteArray.empty t107 x12_1) x32_3)) = true := decide_eq_true c36
                                      clear c36
                                      by_cases c37 : (bt (rdOf ByteArray.empty t107 x12_1) x32_3) = 95
                                      · rw [if_pos c37] at H
                                        have c37b0 : ((bt (rdOf ByteArray.empty t107 x12_1) x32_3) == 95) = true := beq_iff_eq.mpr c37
                                        have c37b1 : ((bt (rdOf ByteArray.empty t107 x12_1) x32_3) != 95) = false := bne_eq_false_iff_eq.mpr c37
                                        clear c37
                                        have H' := Aside0.mk H
                                        clear H
                                        have p15 : 0 ≤ (x32_3 : Int) := of_decide_eq_true (by first | (with_reducible assumption) | assumption)
                                        have q15 : x32_3 < ((rdOf ByteArray.empty t107 x12_1).size : Int) := of_decide_eq_true (by first | (with_reducible assumption) | assumption)
                                        have hx15 := bt_at (rdOf ByteArray.empty t107 x12_1) x32_3
                                        replace p15 := eq_true p15
                                        replace q15 := eq_true q15
                                        go_wp2
                                        go_roundg k3
                                        case measure => have := HK1.out; have := HJ7.out; have := HK3.out; omega
                                        case rel => exact ⟨(wrap64 (x32_3 + 1)), (by first | rfl | (simp; done) | (simp [*]; done)), H', ⟨by have := HK1.out; have := HJ7.out; have := HK3.out; omega⟩, ⟨by (with_reducible repeat (first | apply Kd.R_alloc | apply Kd.R_drewN | apply Kd.R_drew)); exact HO_3.out⟩, ⟨by (with_reducible repeat (first | apply Kd.R_alloc | apply Kd.R_drewN | apply Kd.R_drew)); exact HO_10.out⟩, ⟨by repeat (first | (with_reducible first | exact HB.out | apply below_alloc | apply pw_below_drewN | apply below_drew1) | exact HB.out)⟩⟩
                                      · rw [if_neg c37] at H
                                        have c37b0 : ((bt (rdOf ByteArray.empty t107 x12_1) x32_3) == 95) = false := beq_eq_false_iff_ne.mpr c37
                                        have c37b1 : ((bt (rdOf ByteArray.empty t107 x12_1) x32_3) != 95) = true := bne_iff_ne.mpr c37
                                        by_cases c38 : (bt (rdOf ByteArray.empty t107 x12_1) x32_3) = 36
                                        · rw [if_pos c38] at H
                                          have c38b0 : ((bt (rdOf ByteArray.empty t107 x12_1) x32_3) == 36) = true := beq_iff_eq.mpr c38
                                          have c38b1 : ((bt (rdOf ByteArray.empty t107 x12_1) x32_3) != 36) = false := bne_eq_false_iff_eq.mpr c38
                                          clear c38
                                          have H' := Aside0.mk H
                                          clear H
                                          have p15 : 0 ≤ (x32_3 : Int) := of_decide_eq_true (by first | (with_reducible assumption) | assumption)
                                          have q15 : x32_3 < ((rdOf ByteArray.empty t107 x12_1).size : Int) := of_decide_eq_true (by first | (with_reducible assumption) | assumption)
                                          have hx15 := bt_at (rdOf ByteArray.empty t107 x12_1) x32_3
                                          replace p15 := eq_true p15
                                          replace q15 := eq_true q15
                                          go_wp2
                                          go_roundg k3
                                          case measure => have := HK1.out; have := HJ7.out; have := HK3.out; omega
                                          case rel => exact ⟨(wrap64 (x32_3 + 1)), (by first | rfl | (simp; done) | (simp [*]; done)), H', ⟨by have := HK1.out; have := HJ7.out; have := HK3.out; omega⟩, ⟨by (with_reducible repeat (first | apply Kd.R_alloc | apply Kd.R_drewN | apply Kd.R_drew)); exact HO_3.out⟩, ⟨by (with_reducible repeat (first | apply Kd.R_alloc | apply Kd.R_drewN | apply Kd.R_drew)); exact HO_10.out⟩, ⟨by repeat (first | (with_reducible first | exact HB.out | apply below_alloc | apply pw_below_drewN | apply below_drew1) | exact HB.out)⟩⟩
                                        · rw [if_neg c38] at H
                                          have c38b0 : ((bt (rdOf ByteArray.empty t107 x12_1) x32_3) == 36) = false := beq_eq_false_iff_ne.mpr c38
                                          have c38b1 : ((bt (rdOf ByteArray.empty t107 x12_1) x32_3) != 36) = true := bne_iff_ne.mpr c38
                                          obtain rfl := Option.some.inj H
                                          have p15 : 0 ≤ (x32_3 : Int) := of_decide_eq_true (by first | (with_reducible assumption) | assumption)
                                          have q15 : x32_3 < ((rdOf ByteArray.empty t107 x12_1).size : Int) := of_decide_eq_true (by first | (with_reducible assumption) | assumption)
                                          have hx15 := bt_at (rdOf ByteArray.empty t107 x12_1) x32_3
                                          replace p15 := eq_true p15
                                          replace q15 := eq_true q15
                                          go_wp2
                                          go_ret
                                          exact ⟨by first | rfl | (simp [errW_none, errW_some] <;> rfl) | (simp [*, errW_none, errW_some] <;> rfl), by repeat (first | (with_reducible first | exact HB.out | apply below_alloc | apply pw_below_drewN | apply below_drew1) | exact HB.out)⟩
                                    · rw [if_neg c36] at H
                                      have c36b0 : decide (57 < (bt (rdOf ByteArray.empty t107 x12_1) x32_3)) = false := decide_eq_false c36
                                      clear c36
                                      have H' := Aside0.mk H
                                      clear H
                                      have p15 : 0 ≤ (x32_3 : Int) := of_decide_eq_true (by first | (with_reducible assumption) | assumption)
                                      have q15 : x32_3 < ((rdOf ByteArray.empty t107 x12_1).size : Int) := of_decide_eq_true (by first | (with_reducible assumption) | assumption)
                                      have hx15 := bt_at (rdOf ByteArray.empty t107 x12_1) x32_3
                                      replace p15 := eq_true p15
                                      replace q15 := eq_true q15
                                      go_wp2
                                      go_roundg k3
                                      case measure => have := HK1.out; have := HJ7.out; have := HK3.out; omega
                                      case rel => exact ⟨(wrap64 (x32_3 + 1)), (by first | rfl | (simp; done) | (simp [*]; done)), H', ⟨by have := HK1.out; have := HJ7.out; have := HK3.out; omega⟩, ⟨by (with_reducible repeat (first | apply Kd.R_alloc | apply Kd.R_drewN | apply Kd.R_drew)); exact HO_3.out⟩, ⟨by (with_reducible repeat (first | apply Kd.R_alloc | apply Kd.R_drewN | apply Kd.R_drew)); exact HO_10.out⟩, ⟨by repeat (first | (with_reducible first | exact HB.out | apply below_alloc | apply pw_below_drewN | apply below_drew1) | exact HB.out)⟩⟩
                                · rw [if_neg c32] at H
                                  have c32b0 : decide ((bt (rdOf ByteArray.empty t107 x12_1) x32_3) < 65) = false := decide_eq_false c32
                                  clear c32
                                  by_cases c39 : (bt (rdOf ByteArray.empty t107 x12_1) x32_3) > 90
                                  · rw [if_pos c39] at H
                                    have c39b0 : decide (90 < (bt (rdOf ByteArray.empty t107 x12_1) x32_3)) = true := decide_eq_true c39
                                    clear c39
                                    by_cases c40 : (bt (rdOf ByteArray.empty t107 x12_1) x32_3) < 48
                                    · rw [if_pos c40] at H
                                      have c40b0 : decide ((bt (rdOf ByteArray.empty t107 x12_1) x32_3) < 48) = true := decide_eq_true c40
                                      clear c40
                                      by_cases c41 : (bt (rdOf ByteArray.empty t107 x12_1) x32_3) = 95
                                      · rw [if_pos c41] at H
                                        have c41b0 : ((bt (rdOf ByteArray.empty t107 x12_1) x32_3) == 95) = true := beq_iff_eq.mpr c41
                                        have c41b1 : ((bt (rdOf ByteArray.empty t107 x12_1) x32_3) != 95) = false := bne_eq_false_iff_eq.mpr c41
                                        clear c41
                                        have H' := Aside0.mk H
                                        clear H
                                        have p15 : 0 ≤ (x32_3 : Int) := of_decide_eq_true (by first | (with_reducible assumption) | assumption)
                                        have q15 : x32_3 < ((rdOf ByteArray.empty t107 x12_1).size : Int) := of_decide_eq_true (by first | (with_reducible assumption) | assumption)
                                        have hx15 := bt_at (rdOf ByteArray.empty t107 x12_1) x32_3
                                        replace p15 := eq_true p15
                                        replace q15 := eq_true q15
                                        go_wp2
                                        go_roundg k3
                                        case measure => have := HK1.out; have := HJ7.out; have := HK3.out; omega
                                        case rel => exact ⟨(wrap64 (x32_3 + 1)), (by first | rfl | (simp; done) | (simp [*]; done)), H', ⟨by have := HK1.out; have := HJ7.out; have := HK3.out; omega⟩, ⟨by (with_reducible repeat (first | apply Kd.R_alloc | apply Kd.R_drewN | apply Kd.R_drew)); exact HO_3.out⟩, ⟨by (with_reducible repeat (first | apply Kd.R_alloc | apply Kd.R_drewN | apply Kd.R_drew)); exact HO_10.out⟩, ⟨by repeat (first | (with_reducible first | exact HB.out | apply below_alloc | apply pw_below_drewN | apply below_drew1) | exact HB.out)⟩⟩
                                      · rw [if_neg c41] at H
                                        have c41b0 : ((bt (rdOf ByteArray.empty t107 x12_1) x32_3) == 95) = false := beq_eq_false_iff_ne.mpr c41
                                        have c41b1 : ((bt (rdOf ByteArray.empty t107 x12_1) x32_3) != 95) = true := bne_iff_ne.mpr c41
                                        by_cases c42 : (bt (rdOf ByteArray.empty t107 x12_1) x32_3) = 36
                                        · rw [if_pos c42] at H
                                          have c42b0 : ((bt (rdOf ByteArray.empty t107 x12_1) x32_3) == 36) = true := beq_iff_eq.mpr c42
                                          have c42b1 : ((bt (rdOf ByteArray.empty t107 x12_1) x32_3) != 36) = false := bne_eq_false_iff_eq.mpr c42
                                          clear c42
                                          have H' := Aside0.mk H
                                          clear H
                                          have p15 : 0 ≤ (x32_3 : Int) := of_decide_eq_true (by first | (with_reducible assumption) | assumption)
                                          have q15 : x32_3 < ((rdOf ByteArray.empty t107 x12_1).size : Int) := of_decide_eq_true (by first | (with_reducible assumption) | assumption)
                                          have hx15 := bt_at (rdOf ByteArray.empty t107 x12_1) x32_3
                                          replace p15 := eq_true p15
                                          replace q15 := eq_true q15
                                          go_wp2
                                          go_roundg k3
                                          case measure => have := HK1.out; have := HJ7.out; have := HK3.out; omega
                                          case rel => exact ⟨(wrap64 (x32_3 + 1)), (by first | rfl | (simp; done) | (simp [*]; done)), H', ⟨by have := HK1.out; have := HJ7.out; have := HK3.out; omega⟩, ⟨by (with_reducible repeat (first | apply Kd.R_alloc | apply Kd.R_drewN | apply Kd.R_drew)); exact HO_3.out⟩, ⟨by (with_reducible repeat (first | apply Kd.R_alloc | apply Kd.R_drewN | apply Kd.R_drew)); exact HO_10.out⟩, ⟨by repeat (first | (with_reducible first | exact HB.out | apply below_alloc | apply pw_below_drewN | apply below_drew1) | exact HB.out)⟩⟩
                                        · rw [if_neg c42] at H
                                          have c42b0 : ((bt (rdOf ByteArray.empty t107 x12_1) x32_3) == 36) = false := beq_eq_false_iff_ne.mpr c42
                                          have c42b1 : ((bt (rdOf ByteArray.empty t107 x12_1) x32_3) != 36) = true := bne_iff_ne.mpr c42
                                          obtain rfl := Option.some.inj H
                                          have p15 : 0 ≤ (x32_3 : Int) := of_decide_eq_true (by first | (with_reducible assumption) | assumption)
                                          have q15 : x32_3 < ((rdOf ByteArray.empty t107 x12_1).size : Int) := of_decide_eq_true (by first | (with_reducible assumption) | assumption)
                                          have hx15 := bt_at (rdOf ByteArray.empty t107 x12_1) x32_3
                                          replace p15 := eq_true p15
                                          replace q15 := eq_true q15
                                          go_wp2
                                          go_ret
                                          exact ⟨by first | rfl | (simp [errW_none, errW_some] <;> rfl) | (simp [*, errW_none, errW_some] <;> rfl), by repeat (first | (with_reducible first | exact HB.out | apply below_alloc | apply pw_below_drewN | apply below_drew1) | exact HB.out)⟩
                                    · rw [if_neg c40] at H
                                      have c40b0 : decide ((bt (rdOf ByteArray.empty t107 x12_1) x32_3) < 48) = false := decide_eq_false c40
                                      clear c40
                                      by_cases c43 : (bt (rdOf ByteArray.empty t107 x12_1) x32_3) > 57
                                      · rw [if_pos c43] at H
                                        have c43b0 : decide (57 < (bt (rdOf ByteArray.empty t107 x12_1) x32_3)) = true := decide_eq_true c43
                                        clear c43
                                        by_cases c44 : (bt (rdOf ByteArray.empty t107 x12_1) x32_3) = 95
                                        · rw [if_pos c44] at H
                                          have c44b0 : ((bt (rdOf ByteArray.empty t107 x12_1) x32_3) == 95) = true := beq_iff_eq.mpr c44
                                          have c44b1 : ((bt (rdOf ByteArray.empty t107 x12_1) x32_3) != 95) = false := bne_eq_false_iff_eq.mpr c44
                                          clear c44
                                          have H' := Aside0.mk H
                                          clear H
                                          have p15 : 0 ≤ (x32_3 : Int) := of_decide_eq_true (by first | (with_reducible assumption) | assumption)
                                          have q15 : x32_3 < ((rdOf ByteArray.empty t107 x12_1).size : Int) := of_decide_eq_true (by first | (with_reducible assumption) | assumption)
                                          have hx15 := bt_at (rdOf ByteArray.empty t107 x12_1) x32_3
                                          replace p15 := eq_true p15
                                          replace q15 := eq_true q15
                                          go_wp2
                                          go_roundg k3
                                          case measure => have := HK1.out; have := HJ7.out; have := HK3.out; omega
                                          case rel => exact ⟨(wrap64 (x32_3 + 1)), (by first | rfl | (simp; done) | (simp [*]; done)), H', ⟨by have := HK1.out; have := HJ7.out; have := HK3.out; omega⟩, ⟨by (with_reducible repeat (first | apply Kd.R_alloc | apply Kd.R_drewN | apply Kd.R_drew)); exact HO_3.out⟩, ⟨by (with_reducible repeat (first | apply Kd.R_alloc | apply Kd.R_drewN | apply Kd.R_drew)); exact HO_10.out⟩, ⟨by repeat (first | (with_reducible first | exact HB.out | apply below_alloc | apply pw_below_drewN | apply below_drew1) | exact HB.out)⟩⟩
                                        · rw [if_neg c44] at H
                                          have c44b0 : ((bt (rdOf ByteArray.empty t107 x12_1) x32_3) == 95) = false := beq_eq_false_iff_ne.mpr c44
                                          have c44b1 : ((bt (rdOf ByteArray.empty t107 x12_1) x32_3) != 95) = true := bne_iff_ne.mpr c44
                                          by_cases c45 : (bt (rdOf ByteArray.empty t107 x12_1) x32_3) = 36
                                          · rw [if_pos c45] at H
                                            have c45b0 : ((bt (rdOf ByteArray.empty t107 x12_1) x32_3) == 36) = true := beq_iff_eq.mpr c45
                                            have c45b1 : ((bt (rdOf ByteArray.empty t107 x12_1) x32_3) != 36) = false := bne_eq_false_iff_eq.mpr c45
                                            clear c45
                                            have H' := Aside0.mk H
                                            clear H
                                            have p15 : 0 ≤ (x32_3 : Int) := of_decide_eq_true (by first | (with_reducible assumption) | assumption)
                                            have q15 : x32_3 < ((rdOf ByteArray.empty t107 x12_1).size : Int) := of_decide_eq_true (by first | (with_reducible assumption) | assumption)
                                            have hx15 := bt_at (rdOf ByteArray.empty t107 x12_1) x32_3
                                            replace p15 := eq_true p15
                                            replace q15 := eq_true q15
                                            go_wp2
                                            go_roundg k3
                                            case measure => have := HK1.out; have := HJ7.out; have := HK3.out; omega
                                            case rel => exact ⟨(wrap64 (x32_3 + 1)), (by first | rfl | (simp; done) | (simp [*]; done)), H', ⟨by have := HK1.out; have := HJ7.out; have := HK3.out; omega⟩, ⟨by (with_reducible repeat (first | apply Kd.R_alloc | apply Kd.R_drewN | apply Kd.R_drew)); exact HO_3.out⟩, ⟨by (with_reducible repeat (first | apply Kd.R_alloc | apply Kd.R_drewN | apply Kd.R_drew)); exact HO_10.out⟩, ⟨by repeat (first | (with_reducible first | exact HB.out | apply below_alloc | apply pw_below_drewN | apply below_drew1) | exact HB.out)⟩⟩
                                          · rw [if_neg c45] at H
                                            have c45b0 : ((bt (rdOf ByteArray.empty t107 x12_1) x32_3) == 36) = false := beq_eq_false_iff_ne.mpr c45
                                            have c45b1 : ((bt (rdOf ByteArray.empty t107 x12_1) x32_3) != 36) = true := bne_iff_ne.mpr c45
                                            obtain rfl := Option.some.inj H
                                            have p15 : 0 ≤ (x32_3 : Int) := of_decide_eq_true (by first | (with_reducible assumption) | assumption)
                                            have q15 : x32_3 < ((rdOf ByteArray.empty t107 x12_1).size : Int) := of_decide_eq_true (by first | (with_reducible assumption) | assumption)
                                            have hx15 := bt_at (rdOf ByteArray.empty t107 x12_1) x32_3
                                            replace p15 := eq_true p15
                                            replace q15 := eq_true q15
                                            go_wp2
                                            go_ret
                                            exact ⟨by first | rfl | (simp [errW_none, errW_some] <;> rfl) | (simp [*, errW_none, errW_some] <;> rfl), by repeat (first | (with_reducible first | exact HB.out | apply below_alloc | apply pw_below_drewN | apply below_drew1) | exact HB.out)⟩
                                      · rw [if_neg c43] at H
                                        have c43b0 : decide (57 < (bt (rdOf ByteArray.empty t107 x12_1) x32_3)) = false := decide_eq_false c43
                                        clear c43
                                        have H' := Aside0.mk H
                                        clear H
                                        have p15 : 0 ≤ (x32_3 : Int) := of_decide_eq_true (by first | (with_reducible assumption) | assumption)
                                        have q15 : x32_3 < ((rdOf ByteArray.empty t107 x12_1).size : Int) := of_decide_eq_true (by first | (with_reducible assumption) | assumption)
                                        have hx15 := bt_at (rdOf ByteArray.empty t107 x12_1) x32_3
                                        replace p15 := eq_true p15
                                        replace q15 := eq_true q15
                                        go_wp2
                                        go_roundg k3
                                        case measure => have := HK1.out; have := HJ7.out; have := HK3.out; omega
                                        case rel => exact ⟨(wrap64 (x32_3 + 1)), (by first | rfl | (simp; done) | (simp [*]; done)), H', ⟨by have := HK1.out; have := HJ7.out; have := HK3.out; omega⟩, ⟨by (with_reducible repeat (first | apply Kd.R_alloc | apply Kd.R_drewN | apply Kd.R_drew)); exact HO_3.out⟩, ⟨by (with_reducible repeat (first | apply Kd.R_alloc | apply Kd.R_drewN | apply Kd.R_drew)); exact HO_10.out⟩, ⟨by repeat (first | (with_reducible first | exact HB.out | apply below_alloc | apply pw_below_drewN | apply below_drew1) | exact HB.out)⟩⟩
                                  · rw [if_neg c39] at H
                                    have c39b0 : decide (90 < (bt (rdOf ByteArray.empty t107 x12_1) x32_3)) = false := decide_eq_false c39
                                    clear c39
                                    have H' := Aside0.mk H
                                    clear H
                                    have p15 : 0 ≤ (x32_3 : Int) := of_decide_eq_true (by first | (with_reducible assumption) | assumption)
                                    have q15 : x32_3 < ((rdOf ByteArray.empty t107 x12_1).size : Int) := of_decide_eq_true (by first | (with_reducible assumption) | assumption)
                                    have hx15 := bt_at (rdOf ByteArray.empty t107 x12_1) x32_3
                                    replace p15 := eq_true p15
                                    replace q15 := eq_true q15
                                    go_wp2
                                    go_roundg k3
                                    case measure => have := HK1.out; have := HJ7.out; have := HK3.out; omega
                                    case rel => exact ⟨(wrap64 (x32_3 + 1)), (by first | rfl | (simp; done) | (simp [*]; done)), H', ⟨by have := HK1.out; have := HJ7.out; have := HK3.out; omega⟩, ⟨by (with_reducible repeat (first | apply Kd.R_alloc | apply Kd.R_drewN | apply Kd.R_drew)); exact HO_3.out⟩, ⟨by (with_reducible repeat (first | apply Kd.R_alloc | apply Kd.R_drewN | apply Kd.R_drew)); exact HO_10.out⟩, ⟨by repeat (first | (with_reducible first | exact HB.out | apply below_alloc | apply pw_below_drewN | apply below_drew1) | exact HB.out)⟩⟩
                              · rw [if_neg c31] at H
                                have c31b0 : decide (122 < (bt (rdOf ByteArray.empty t107 x12_1) x32_3)) = false := decide_eq_false c31
                                clear c31
                                have H' := Aside0.mk H
                                clear H
                                have p15 : 0 ≤ (x32_3 : Int) := of_decide_eq_true (by first | (with_reducible assumption) | assumption)
                                have q15 : x32_3 < ((rdOf ByteArray.empty t107 x12_1).size : Int) := of_decide_eq_true (by first | (with_reducible assumption) | assumption)
                                have hx15 := bt_at (rdOf ByteArray.empty t107 x12_1) x32_3
                                replace p15 := eq_true p15
                                replace q15 := eq_true q15
                                go_wp2
                                go_roundg k3
                                case measure => have := HK1.out; have := HJ7.out; have := HK3.out; omega
                                case rel => exact ⟨(wrap64 (x32_3 + 1)), (by first | rfl | (simp; done) | (simp [*]; done)), H', ⟨by have := HK1.out; have := HJ7.out; have := HK3.out; omega⟩, ⟨by (with_reducible repeat (first | apply Kd.R_alloc | apply Kd.R_drewN | apply Kd.R_drew)); exact HO_3.out⟩, ⟨by (with_reducible repeat (first | apply Kd.R_alloc | apply Kd.R_drewN | apply Kd.R_drew)); exact HO_10.out⟩, ⟨by repeat (first | (with_reducible first | exact HB.out | apply below_alloc | apply pw_below_drewN | apply below_drew1) | exact HB.out)⟩⟩
                          · rw [if_neg c14] at H
                            exact absurd H (by simp)
                        · rw [if_neg c13] at H
                          exact absurd H (by simp)
                      · rw [if_neg c12] at H
                        have c12b0 : decide (x32_3 < ((rdOf ByteArray.empty t107 x12_1).size : Int)) = false := decide_eq_false c12
                        clear c12
                        by_cases c46 : (rdOf ByteArray.empty t107 x12_1).toList = ([] : List UInt8)
                        · rw [if_pos c46] at H
                          have c46b0 : ((rdOf ByteArray.empty t107 x12_1).toList == ([] : List UInt8)) = true := beq_iff_eq.mpr c46
                          have c46b1 : ((rdOf ByteArray.empty t107 x12_1).toList != ([] : List UInt8)) = false := bne_eq_false_iff_eq.mpr c46
                          clear c46
                          obtain rfl := Option.some.inj H
                          go_wp2
                          go_ret
                          exact ⟨by first | rfl | (simp [errW_none, errW_some] <;> rfl) | (simp [*, errW_none, errW_some] <;> rfl), by repeat (first | (with_reducible first | exact HB.out | apply below_alloc | apply pw_below_drewN | apply below_drew1) | exact HB.out)⟩
                        · rw [if_neg c46] at H
                          have c46b0 : ((rdOf ByteArray.empty t107 x12_1).toList == ([] : List UInt8)) = false := beq_eq_false_iff_ne.mpr c46
                          have c46b1 : ((rdOf ByteArray.empty t107 x12_1).toList != ([] : List UInt8)) = true := bne_iff_ne.mpr c46
                          have H' := Aside0.mk H
                          clear H
                          go_wp2
                          go_roundg k3
                          case measure => have := HK1.out; have := HJ7.out; have := HK3.out; omega
                          case rel => exact ⟨(wrap64 (x12_1 + 1)), (by first | rfl | (simp; done) | (simp [*]; done)), H', ⟨by have := HK1.out; have := HJ7.out; have := HK3.out; omega⟩, ⟨by (with_reducible repeat (first | apply Kd.R_alloc | apply Kd.R_drewN | apply Kd.R_drew)); exact HO_3.out⟩, ⟨by (with_reducible repeat (first | apply Kd.R_alloc | apply Kd.R_drewN | apply Kd.R_drew)); exact HO_10.out⟩, ⟨by repeat (first | (with_reducible first | exact HB.out | apply below_alloc | apply pw_below_drewN | apply below_drew1) | exact HB.out)⟩⟩
          · rw [if_neg c7] at H
            exact absurd H (by simp)
        · rw [if_neg c6] at H
          exact absurd H (by simp)
      · rw [if_neg c5] at H
        have c5b0 : decide (x12_1 < (t107.length : Int)) = false := decide_eq_false c5
        clear c5
        obtain rfl := Option.some.inj H
        go_wp2
        go_ret
        exact ⟨by first | rfl | (simp [errW_none, errW_some] <;> rfl) | (simp [*, errW_none, errW_some] <;> rfl), by repeat (first | (with_reducible first | exact HB.out | apply below_alloc | apply pw_below_drewN | apply below_drew1) | exact HB.out)⟩

/-- THE ONE PURE STATEMENT of spec_Plain: yours. -/
def spec_Plain.Pure : Prop := ∀ (a0 : ByteArray), a0.size ≤ 140737488351232 → ∃ k, spec_Plain.f k a0 = some true
theorem spec_Plain.walk (P : spec_Plain.Pure) (a0 : ByteArray) (w : World) (w0 : a0.size ≤ 140737488351232) :
    Calls Try.prog 7 #[.string a0] w fun e w' => e = .returned (.bool true) ∧ Below w.heap.size w w' := by
  obtain ⟨k, h⟩ := P a0 w0
  refine (spec_Plain.calls k a0 true w h).mono ?_
  rintro e w' ⟨rfl, hd⟩
  exact ⟨rfl, hd⟩

end Go.Proofs.Ytnbihmagbedfmaa.PPlain
