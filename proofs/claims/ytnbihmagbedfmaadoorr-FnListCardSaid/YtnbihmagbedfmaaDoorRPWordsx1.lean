-- PRINTED BY print.sh 35421559b90ae4d0a3588c463048766b98c2df88dd9212a6774a882060cdf62d: not written by this session
import Derived.Test.YtnbihmagbedfmaaDoorRPWordsx0
namespace Go.Proofs.YtnbihmagbedfmaaDoorR.PWords
open Go.RowKit Go.Proofs.YtnbihmagbedfmaaDoorRW.PrintWords Go.Proofs.YtnbihmagbedfmaaDoorRW.PrintLast Go.Proofs.YtnbihmagbedfmaaDoorRW.PrintMore
attribute [local go_sem] max2_int min2_int max_two min_two max_three min_three max_four min_four   -- for this text's walks alone
set_option linter.unusedVariables false
set_option linter.unusedSimpArgs false

/-! ### spec_Words: function 7 -/
mutual
def spec_Words.l0 : Nat → List ByteArray → List ByteArray → Int → Int → Option (Bool)
  | 0, _, _, _, _ => none
  | k + 1, x0, x7, x8, x9 => if x9 < x8 then (if 0 ≤ x9 then (if x9 < (x7.length : Int) then (spec_Words.l1 k x0 (rdOf ByteArray.empty x7 x9) x7 x8 x9 ((rdOf ByteArray.empty x7 x9).size : Int) 0) else (none)) else (none)) else (some (decide ((x0.length : Int) ≤ 20)))
def spec_Words.l1 : Nat → List ByteArray → ByteArray → List ByteArray → Int → Int → Int → Int → Option (Bool)
  | 0, _, _, _, _, _, _, _ => none
  | k + 1, x0, x4, x7, x8, x9, x14, x15 => if x15 < x14 then (if 0 ≤ x15 then (if x15 < (x4.size : Int) then (if (bt x4 x15) < 97 then (if (bt x4 x15) < 65 then (if (bt x4 x15) < 48 then (some false) else (if (bt x4 x15) > 57 then (some false) else (spec_Words.l1 k x0 x4 x7 x8 x9 x14 (wrap64 (x15 + 1))))) else (if (bt x4 x15) > 90 then (if (bt x4 x15) < 48 then (some false) else (if (bt x4 x15) > 57 then (some false) else (spec_Words.l1 k x0 x4 x7 x8 x9 x14 (wrap64 (x15 + 1))))) else (spec_Words.l1 k x0 x4 x7 x8 x9 x14 (wrap64 (x15 + 1))))) else (if (bt x4 x15) > 122 then (if (bt x4 x15) < 65 then (if (bt x4 x15) < 48 then (some false) else (if (bt x4 x15) > 57 then (some false) else (spec_Words.l1 k x0 x4 x7 x8 x9 x14 (wrap64 (x15 + 1))))) else (if (bt x4 x15) > 90 then (if (bt x4 x15) < 48 then (some false) else (if (bt x4 x15) > 57 then (some false) else (spec_Words.l1 k x0 x4 x7 x8 x9 x14 (wrap64 (x15 + 1))))) else (spec_Words.l1 k x0 x4 x7 x8 x9 x14 (wrap64 (x15 + 1))))) else (spec_Words.l1 k x0 x4 x7 x8 x9 x14 (wrap64 (x15 + 1))))) else (none)) else (none)) else (if (x4.size : Int) < 1 then (some false) else (if (x4.size : Int) > 20 then (some false) else (spec_Words.l0 k x0 x7 x8 (wrap64 (x9 + 1)))))
end
def spec_Words.f (k : Nat) (l0 : List ByteArray) : Option (Bool) := spec_Words.l0 k l0 l0 (l0.length : Int) 0
theorem spec_Words.mono_l : ∀ k, (∀ y0 y1 y2 y3, LeO (spec_Words.l0 k y0 y1 y2 y3) (spec_Words.l0 (k + 1) y0 y1 y2 y3)) ∧ (∀ y0 y1 y2 y3 y4 y5 y6, LeO (spec_Words.l1 k y0 y1 y2 y3 y4 y5 y6) (spec_Words.l1 (k + 1) y0 y1 y2 y3 y4 y5 y6))
  | 0 => ⟨fun _ _ _ _ r h => by simp [spec_Words.l0] at h, fun _ _ _ _ _ _ _ r h => by simp [spec_Words.l1] at h⟩
  | k + 1 => by
    obtain ⟨ih0, ih1⟩ := spec_Words.mono_l k
    refine ⟨?_, ?_⟩
    · intro y0 y1 y2 y3
      unfold spec_Words.l0
      repeat' first
      | (with_reducible exact ih0 _ _ _ _)
      | (with_reducible exact ih1 _ _ _ _ _ _ _)
      | (with_reducible exact LeO.refl _)
      | (with_reducible exact LeO.none _)
      | (with_reducible refine LeO.ite ?_ ?_)
      | (with_reducible refine LeO.bind ?_ (fun _ => ?_))
      | exact ih0 _ _ _ _
      | exact ih1 _ _ _ _ _ _ _
      | exact LeO.none _
      | refine LeO.ite ?_ ?_
      | refine LeO.bind ?_ (fun _ => ?_)
    · intro y0 y1 y2 y3 y4 y5 y6
      unfold spec_Words.l1
      repeat' first
      | (with_reducible exact ih0 _ _ _ _)
      | (with_reducible exact ih1 _ _ _ _ _ _ _)
      | (with_reducible exact LeO.refl _)
      | (with_reducible exact LeO.none _)
      | (with_reducible refine LeO.ite ?_ ?_)
      | (with_reducible refine LeO.bind ?_ (fun _ => ?_))
      | exact ih0 _ _ _ _
      | exact ih1 _ _ _ _ _ _ _
      | exact LeO.none _
      | refine LeO.ite ?_ ?_
      | refine LeO.bind ?_ (fun _ => ?_)
theorem spec_Words.mono : ∀ a0 k, LeO (spec_Words.f k a0) (spec_Words.f (k + 1) a0) := by
  intro a0 k
  obtain ⟨ih0, ih1⟩ := spec_Words.mono_l k
  unfold spec_Words.f
  repeat' first
      | (with_reducible exact ih0 _ _ _ _)
      | (with_reducible exact ih1 _ _ _ _ _ _ _)
      | (with_reducible exact LeO.refl _)
      | (with_reducible exact LeO.none _)
      | (with_reducible refine LeO.ite ?_ ?_)
      | (with_reducible refine LeO.bind ?_ (fun _ => ?_))
      | exact ih0 _ _ _ _
      | exact ih1 _ _ _ _ _ _ _
      | exact LeO.none _
      | refine LeO.ite ?_ ?_
      | refine LeO.bind ?_ (fun _ => ?_)
set_option maxHeartbeats 8000000 in
set_option maxRecDepth 100000 in
theorem spec_Words.calls (k : Nat) (A0 : Option Addr) (c0 : Nat) (l0 : List ByteArray) (r : Bool) (w : World) (hr0 : Kd.C Kd.string w A0 l0.length l0) (hc0 : l0.length ≤ c0) (h : spec_Words.f k l0 = some r) :
    Calls Tryd.prog 7 #[.slice A0 l0.length c0] w fun e w' => e = .returned (.bool r) ∧ Drawn0 w w' := by
  have HR0 := Aside0.mk hr0
  have HC0 := Aside0.mk hc0
  clear hr0 hc0
  have H : (spec_Words.l0 k l0 l0 (l0.length : Int) 0) = some r := h
  clear h
  have H' := Aside0.mk H
  clear H
  go_enter Tryd.func7, Tryd.ntmps7
  go_wp2
  go_loopg [9] k (fun kq v9 w' => ∃ (x9_1 : Int), v9 = .int .i64 x9_1 ∧ Aside0 (spec_Words.l0 kq l0 l0 (l0.length : Int) x9_1 = some r) ∧ Aside0 (kq ≤ k) ∧ Drawn0 w w')
  case atStart => exact ⟨(0), (by first | rfl | (simp; done) | (simp [*]; done)), H', ⟨Nat.le_refl _⟩, by repeat (first | exact Drawn0.refl _ | apply Drawn0.step)⟩
  case round =>
    clear H'
    obtain ⟨x9_1, rfl, HA, HK1, ⟨m1, rfl⟩⟩ := hrel
    cases gk with
    | zero => exact absurd HA.out (by simp [spec_Words.l0])
    | succ k1 =>
      have H := HA.out
      clear HA
      simp only [spec_Words.l0] at H
      by_cases c2 : x9_1 < (l0.length : Int)
      · rw [if_pos c2] at H
        have c2b0 : decide (x9_1 < (l0.length : Int)) = true := decide_eq_true c2
        clear c2
        by_cases c3 : 0 ≤ x9_1
        · rw [if_pos c3] at H
          have c3b0 : decide (0 ≤ x9_1) = true := decide_eq_true c3
          clear c3
          by_cases c4 : x9_1 < (l0.length : Int)
          · rw [if_pos c4] at H
            have c4b0 : decide (x9_1 < (l0.length : Int)) = true := decide_eq_true c4
            clear c4
            have H' := Aside0.mk H
            clear H
            have p101 : 0 ≤ (x9_1 : Int) := of_decide_eq_true (by first | (with_reducible assumption) | assumption)
            have q101 : x9_1 < (l0.length : Int) := of_decide_eq_true (by first | (with_reducible assumption) | assumption)
            obtain ⟨ad101, e101, hx101_0⟩ := Kd.at_string HR0.out x9_1 p101 q101
            cases e101
            replace p101 := eq_true p101
            replace q101 := eq_true q101
            go_wp2
            go_loopg [15] k1 (fun kq v15 w' => ∃ (x15_2 : Int), v15 = .int .i64 x15_2 ∧ Aside0 (spec_Words.l1 kq l0 (rdOf ByteArray.empty l0 x9_1) l0 (l0.length : Int) x9_1 ((rdOf ByteArray.empty l0 x9_1).size : Int) x15_2 = some r) ∧ Aside0 (kq ≤ k1) ∧ Drawn0 w w')
            case atStart => exact ⟨(0), (by first | rfl | (simp; done) | (simp [*]; done)), H', ⟨Nat.le_refl _⟩, by repeat (first | exact Drawn0.refl _ | apply Drawn0.step)⟩
            case round =>
              clear H'
              try clear p1
              try clear q1
              try clear hx1
              try clear c2
              try clear c2b0
              try clear p2
              try clear c3
              try clear c3b0
              try clear c4
              try clear c4b0
              try clear hx101_0
              try clear p101
              try clear q101
              obtain ⟨x15_2, rfl, HA, HK2, ⟨m2, rfl⟩⟩ := hrel
              cases gk with
              | zero => exact absurd HA.out (by simp [spec_Words.l1])
              | succ k2 =>
                have H := HA.out
                clear HA
                simp only [spec_Words.l1] at H
                by_cases c5 : x15_2 < ((rdOf ByteArray.empty l0 x9_1).size : Int)
                · rw [if_pos c5] at H
                  have c5b0 : decide (x15_2 < ((rdOf ByteArray.empty l0 x9_1).size : Int)) = true := decide_eq_true c5
                  clear c5
                  by_cases c6 : 0 ≤ x15_2
                  · rw [if_pos c6] at H
                    have c6b0 : decide (0 ≤ x15_2) = true := decide_eq_true c6
                    clear c6
                    by_cases c7 : x15_2 < ((rdOf ByteArray.empty l0 x9_1).size : Int)
                    · rw [if_pos c7] at H
                      have c7b0 : decide (x15_2 < ((rdOf ByteArray.empty l0 x9_1).size : Int)) = true := decide_eq_true c7
                      clear c7
                      by_cases c9 : (bt (rdOf ByteArray.empty l0 x9_1) x15_2) < 97
                      · rw [if_pos c9] at H
                        have c9b0 : decide ((bt (rdOf ByteArray.empty l0 x9_1) x15_2) < 97) = true := decide_eq_true c9
                        clear c9
                        by_cases c10 : (bt (rdOf ByteArray.empty l0 x9_1) x15_2) < 65
                        · rw [if_pos c10] at H
                          have c10b0 : decide ((bt (rdOf ByteArray.empty l0 x9_1) x15_2) < 65) = true := decide_eq_true c10
                          clear c10
                          by_cases c11 : (bt (rdOf ByteArray.empty l0 x9_1) x15_2) < 48
                          · rw [if_pos c11] at H
                            have c11b0 : decide ((bt (rdOf ByteArray.empty l0 x9_1) x15_2) < 48) = true := decide_eq_true c11
                            clear c11
                            obtain rfl := Option.some.inj H
                            have p8 : 0 ≤ (x15_2 : Int) := of_decide_eq_true (by first | (with_reducible assumption) | assumption)
                            have q8 : x15_2 < ((rdOf ByteArray.empty l0 x9_1).size : Int) := of_decide_eq_true (by first | (with_reducible assumption) | assumption)
                            have hx8 := bt_at (rdOf ByteArray.empty l0 x9_1) x15_2
                            replace p8 := eq_true p8
                            replace q8 := eq_true q8
                            go_wp2
                            go_ret
                            exact ⟨by first | rfl | (simp; done) | (simp [*]; done), by repeat (first | exact Drawn0.refl _ | apply Drawn0.step)⟩
                          · rw [if_neg c11] at H
                            have c11b0 : decide ((bt (rdOf ByteArray.empty l0 x9_1) x15_2) < 48) = false := decide_eq_false c11
                            clear c11
                            by_cases c12 : (bt (rdOf ByteArray.empty l0 x9_1) x15_2) > 57
                            · rw [if_pos c12] at H
                              have c12b0 : decide (57 < (bt (rdOf ByteArray.empty l0 x9_1) x15_2)) = true := decide_eq_true c12
                              clear c12
                              obtain rfl := Option.some.inj H
                              have p8 : 0 ≤ (x15_2 : Int) := of_decide_eq_true (by first | (with_reducible assumption) | assumption)
                              have q8 : x15_2 < ((rdOf ByteArray.empty l0 x9_1).size : Int) := of_decide_eq_true (by first | (with_reducible assumption) | assumption)
                              have hx8 := bt_at (rdOf ByteArray.empty l0 x9_1) x15_2
                              replace p8 := eq_true p8
                              replace q8 := eq_true q8
                              go_wp2
                              go_ret
                              exact ⟨by first | rfl | (simp; done) | (simp [*]; done), by repeat (first | exact Drawn0.refl _ | apply Drawn0.step)⟩
                            · rw [if_neg c12] at H
                              have c12b0 : decide (57 < (bt (rdOf ByteArray.empty l0 x9_1) x15_2)) = false := decide_eq_false c12
                              clear c12
                              have H' := Aside0.mk H
                              clear H
                              have p8 : 0 ≤ (x15_2 : Int) := of_decide_eq_true (by first | (with_reducible assumption) | assumption)
                              have q8 : x15_2 < ((rdOf ByteArray.empty l0 x9_1).size : Int) := of_decide_eq_true (by first | (with_reducible assumption) | assumption)
                              have hx8 := bt_at (rdOf ByteArray.empty l0 x9_1) x15_2
                              replace p8 := eq_true p8
                              replace q8 := eq_true q8
                              go_wp2
                              go_roundg k2
                              case measure => have := HK1.out; have := HK2.out; omega
                              case rel => exact ⟨(wrap64 (x15_2 + 1)), (by first | rfl | (simp; done) | (simp [*]; done)), H', ⟨by have := HK1.out; have := HK2.out; omega⟩, by repeat (first | exact Drawn0.refl _ | apply Drawn0.step)⟩
                        · rw [if_neg c10] at H
                          have c10b0 : decide ((bt (rdOf ByteArray.empty l0 x9_1) x15_2) < 65) = false := decide_eq_false c10
                          clear c10
                          by_cases c13 : (bt (rdOf ByteArray.empty l0 x9_1) x15_2) > 90
                          · rw [if_pos c13] at H
                            have c13b0 : decide (90 < (bt (rdOf ByteArray.empty l0 x9_1) x15_2)) = true := decide_eq_true c13
                            clear c13
                            by_cases c14 : (bt (rdOf ByteArray.empty l0 x9_1) x15_2) < 48
                            · rw [if_pos c14] at H
                              have c14b0 : decide ((bt (rdOf ByteArray.empty l0 x9_1) x15_2) < 48) = true := decide_eq_true c14
                              clear c14
                              obtain rfl := Option.some.inj H
                              have p8 : 0 ≤ (x15_2 : Int) := of_decide_eq_true (by first | (with_reducible assumption) | assumption)
                              have q8 : x15_2 < ((rdOf ByteArray.empty l0 x9_1).size : Int) := of_decide_eq_true (by first | (with_reducible assumption) | assumption)
                              have hx8 := bt_at (rdOf ByteArray.empty l0 x9_1) x15_2
                              replace p8 := eq_true p8
                              replace q8 := eq_true q8
                              go_wp2
                              go_ret
                              exact ⟨by first | rfl | (simp; done) | (simp [*]; done), by repeat (first | exact Drawn0.refl _ | apply Drawn0.step)⟩
                            · rw [if_neg c14] at H
                              have c14b0 : decide ((bt (rdOf ByteArray.empty l0 x9_1) x15_2) < 48) = false := decide_eq_false c14
                              clear c14
                              by_cases c15 : (bt (rdOf ByteArray.empty l0 x9_1) x15_2) > 57
                              · rw [if_pos c15] at H
                                have c15b0 : decide (57 < (bt (rdOf ByteArray.empty l0 x9_1) x15_2)) = true := decide_eq_true c15
                                clear c15
                                obtain rfl := Option.some.inj H
                                have p8 : 0 ≤ (x15_2 : Int) := of_decide_eq_true (by first | (with_reducible assumption) | assumption)
                                have q8 : x15_2 < ((rdOf ByteArray.empty l0 x9_1).size : Int) := of_decide_eq_true (by first | (with_reducible assumption) | assumption)
                                have hx8 := bt_at (rdOf ByteArray.empty l0 x9_1) x15_2
                                replace p8 := eq_true p8
                                replace q8 := eq_true q8
                                go_wp2
                                go_ret
                                exact ⟨by first | rfl | (simp; done) | (simp [*]; done), by repeat (first | exact Drawn0.refl _ | apply Drawn0.step)⟩
                              · rw [if_neg c15] at H
                                have c15b0 : decide (57 < (bt (rdOf ByteArray.empty l0 x9_1) x15_2)) = false := decide_eq_false c15
                                clear c15
                                have H' := Aside0.mk H
                                clear H
                                have p8 : 0 ≤ (x15_2 : Int) := of_decide_eq_true (by first | (with_reducible assumption) | assumption)
                                have q8 : x15_2 < ((rdOf ByteArray.empty l0 x9_1).size : Int) := of_decide_eq_true (by first | (with_reducible assumption) | assumption)
                                have hx8 := bt_at (rdOf ByteArray.empty l0 x9_1) x15_2
                                replace p8 := eq_true p8
                                replace q8 := eq_true q8
                                go_wp2
                                go_roundg k2
                                case measure => have := HK1.out; have := HK2.out; omega
                                case rel => exact ⟨(wrap64 (x15_2 + 1)), (by first | rfl | (simp; done) | (simp [*]; done)), H', ⟨by have := HK1.out; have := HK2.out; omega⟩, by repeat (first | exact Drawn0.refl _ | apply Drawn0.step)⟩
                          · rw [if_neg c13] at H
                            have c13b0 : decide (90 < (bt (rdOf ByteArray.empty l0 x9_1) x15_2)) = false := decide_eq_false c13
                            clear c13
                            have H' := Aside0.mk H
                            clear H
                            have p8 : 0 ≤ (x15_2 : Int) := of_decide_eq_true (by first | (with_reducible assumption) | assumption)
                            have q8 : x15_2 < ((rdOf ByteArray.empty l0 x9_1).size : Int) := of_decide_eq_true (by first | (with_reducible assumption) | assumption)
                            have hx8 := bt_at (rdOf ByteArray.empty l0 x9_1) x15_2
                            replace p8 := eq_true p8
                            replace q8 := eq_true q8
                            go_wp2
                            go_roundg k2
                            case measure => have := HK1.out; have := HK2.out; omega
                            case rel => exact ⟨(wrap64 (x15_2 + 1)), (by first | rfl | (simp; done) | (simp [*]; done)), H', ⟨by have := HK1.out; have := HK2.out; omega⟩, by repeat (first | exact Drawn0.refl _ | apply Drawn0.step)⟩
                      · rw [if_neg c9] at H
                        have c9b0 : decide ((bt (rdOf ByteArray.empty l0 x9_1) x15_2) < 97) = false := decide_eq_false c9
                        clear c9
                        by_cases c16 : (bt (rdOf ByteArray.empty l0 x9_1) x15_2) > 122
                        · rw [if_pos c16] at H
                          have c16b0 : decide (122 < (bt (rdOf ByteArray.empty l0 x9_1) x15_2)) = true := decide_eq_true c16
                          clear c16
                          by_cases c17 : (bt (rdOf ByteArray.empty l0 x9_1) x15_2) < 65
                          · rw [if_pos c17] at H
                            have c17b0 : decide ((bt (rdOf ByteArray.empty l0 x9_1) x15_2) < 65) = true := decide_eq_true c17
                            clear c17
                            by_cases c18 : (bt (rdOf ByteArray.empty l0 x9_1) x15_2) < 48
                            · rw [if_pos c18] at H
                              have c18b0 : decide ((bt (rdOf ByteArray.empty l0 x9_1) x15_2) < 48) = true := decide_eq_true c18
                              clear c18
                              obtain rfl := Option.some.inj H
                              have p8 : 0 ≤ (x15_2 : Int) := of_decide_eq_true (by first | (with_reducible assumption) | assumption)
                              have q8 : x15_2 < ((rdOf ByteArray.empty l0 x9_1).size : Int) := of_decide_eq_true (by first | (with_reducible assumption) | assumption)
                              have hx8 := bt_at (rdOf ByteArray.empty l0 x9_1) x15_2
                              replace p8 := eq_true p8
                              replace q8 := eq_true q8
                              go_wp2
                              go_ret
                              exact ⟨by first | rfl | (simp; done) | (simp [*]; done), by repeat (first | exact Drawn0.refl _ | apply Drawn0.step)⟩
                            · rw [if_neg c18] at H
                              have c18b0 : decide ((bt (rdOf ByteArray.empty l0 x9_1) x15_2) < 48) = false := decide_eq_false c18
                              clear c18
                              by_cases c19 : (bt (rdOf ByteArray.empty l0 x9_1) x15_2) > 57
                              · rw [if_pos c19] at H
                                have c19b0 : decide (57 < (bt (rdOf ByteArray.empty l0 x9_1) x15_2)) = true := decide_eq_true c19
                                clear c19
                                obtain rfl := Option.some.inj H
                                have p8 : 0 ≤ (x15_2 : Int) := of_decide_eq_true (by first | (with_reducible assumption) | assumption)
                                have q8 : x15_2 < ((rdOf ByteArray.empty l0 x9_1).size : Int) := of_decide_eq_true (by first | (with_reducible assumption) | assumption)
                                have hx8 := bt_at (rdOf ByteArray.empty l0 x9_1) x15_2
                                replace p8 := eq_true p8
                                replace q8 := eq_true q8
                                go_wp2
                                go_ret
                                exact ⟨by first | rfl | (simp; done) | (simp [*]; done), by repeat (first | exact Drawn0.refl _ | apply Drawn0.step)⟩
                              · rw [if_neg c19] at H
                                have c19b0 : decide (57 < (bt (rdOf ByteArray.empty l0 x9_1) x15_2)) = false := decide_eq_false c19
                                clear c19
                                have H' := Aside0.mk H
                                clear H
                                have p8 : 0 ≤ (x15_2 : Int) := of_decide_eq_true (by first | (with_reducible assumption) | assumption)
                                have q8 : x15_2 < ((rdOf ByteArray.empty l0 x9_1).size : Int) := of_decide_eq_true (by first | (with_reducible assumption) | assumption)
                                have hx8 := bt_at (rdOf ByteArray.empty l0 x9_1) x15_2
                                replace p8 := eq_true p8
                                replace q8 := eq_true q8
                                go_wp2
                                go_roundg k2
                                case measure => have := HK1.out; have := HK2.out; omega
                                case rel => exact ⟨(wrap64 (x15_2 + 1)), (by first | rfl | (simp; done) | (simp [*]; done)), H', ⟨by have := HK1.out; have := HK2.out; omega⟩, by repeat (first | exact Drawn0.refl _ | apply Drawn0.step)⟩
                          · rw [if_neg c17] at H
                            have c17b0 : decide ((bt (rdOf ByteArray.empty l0 x9_1) x15_2) < 65) = false := decide_eq_false c17
                            clear c17
                            by_cases c20 : (bt (rdOf ByteArray.empty l0 x9_1) x15_2) > 90
                            · rw [if_pos c20] at H
                              have c20b0 : decide (90 < (bt (rdOf ByteArray.empty l0 x9_1) x15_2)) = true := decide_eq_true c20
                              clear c20
                              by_cases c21 : (bt (rdOf ByteArray.empty l0 x9_1) x15_2) < 48
                              · rw [if_pos c21] at H
                                have c21b0 : decide ((bt (rdOf ByteArray.empty l0 x9_1) x15_2) < 48) = true := decide_eq_true c21
                                clear c21
                                obtain rfl := Option.some.inj H
                                have p8 : 0 ≤ (x15_2 : Int) := of_decide_eq_true (by first | (with_reducible assumption) | assumption)
                                have q8 : x15_2 < ((rdOf ByteArray.empty l0 x9_1).size : Int) := of_decide_eq_true (by first | (with_reducible assumption) | assumption)
                                have hx8 := bt_at (rdOf ByteArray.empty l0 x9_1) x15_2
                                replace p8 := eq_true p8
                                replace q8 := eq_true q8
                                go_wp2
                                go_ret
                                exact ⟨by first | rfl | (simp; done) | (simp [*]; done), by repeat (first | exact Drawn0.refl _ | apply Drawn0.step)⟩
                              · rw [if_neg c21] at H
                                have c21b0 : decide ((bt (rdOf ByteArray.empty l0 x9_1) x15_2) < 48) = false := decide_eq_false c21
                                clear c21
                                by_cases c22 : (bt (rdOf ByteArray.empty l0 x9_1) x15_2) > 57
                                · rw [if_pos c22] at H
                                  have c22b0 : decide (57 < (bt (rdOf ByteArray.empty l0 x9_1) x15_2)) = true := decide_eq_true c22
                                  clear c22
                                  obtain rfl := Option.some.inj H
                                  have p8 : 0 ≤ (x15_2 : Int) := of_decide_eq_true (by first | (with_reducible assumption) | assumption)
                                  have q8 : x15_2 < ((rdOf ByteArray.empty l0 x9_1).size : Int) := of_decide_eq_true (by first | (with_reducible assumption) | assumption)
                                  have hx8 := bt_at (rdOf ByteArray.empty l0 x9_1) x15_2
                                  replace p8 := eq_true p8
                                  replace q8 := eq_true q8
                                  go_wp2
                                  go_ret
                                  exact ⟨by first | rfl | (simp; done) | (simp [*]; done), by repeat (first | exact Drawn0.refl _ | apply Drawn0.step)⟩
                                · rw [if_neg c22] at H
                                  have c22b0 : decide (57 < (bt (rdOf ByteArray.empty l0 x9_1) x15_2)) = false := decide_eq_false c22
                                  clear c22
                                  have H' := Aside0.mk H
                                  clear H
                                  have p8 : 0 ≤ (x15_2 : Int) := of_decide_eq_true (by first | (with_reducible assumption) | assumption)
                                  have q8 : x15_2 < ((rdOf ByteArray.empty l0 x9_1).size : Int) := of_decide_eq_true (by first | (with_reducible assumption) | assumption)
                                  have hx8 := bt_at (rdOf ByteArray.empty l0 x9_1) x15_2
                                  replace p8 := eq_true p8
                                  replace q8 := eq_true q8
                                  go_wp2
                                  go_roundg k2
                                  case measure => have := HK1.out; have := HK2.out; omega
                                  case rel => exact ⟨(wrap64 (x15_2 + 1)), (by first | rfl | (simp; done) | (simp [*]; done)), H', ⟨by have := HK1.out; have := HK2.out; omega⟩, by repeat (first | exact Drawn0.refl _ | apply Drawn0.step)⟩
                            · rw [if_neg c20] at H
                              have c20b0 : decide (90 < (bt (rdOf ByteArray.empty l0 x9_1) x15_2)) = false := decide_eq_false c20
                              clear c20
                              have H' := Aside0.mk H
                              clear H
                              have p8 : 0 ≤ (x15_2 : Int) := of_decide_eq_true (by first | (with_reducible assumption) | assumption)
                              have q8 : x15_2 < ((rdOf ByteArray.empty l0 x9_1).size : Int) := of_decide_eq_true (by first | (with_reducible assumption) | assumption)
                              have hx8 := bt_at (rdOf ByteArray.empty l0 x9_1) x15_2
                              replace p8 := eq_true p8
                              replace q8 := eq_true q8
                              go_wp2
                              go_roundg k2
                              case measure => have := HK1.out; have := HK2.out; omega
                              case rel => exact ⟨(wrap64 (x15_2 + 1)), (by first | rfl | (simp; done) | (simp [*]; done)), H', ⟨by have := HK1.out; have := HK2.out; omega⟩, by repeat (first | exact Drawn0.refl _ | apply Drawn0.step)⟩
                        · rw [if_neg c16] at H
                          have c16b0 : decide (122 < (bt (rdOf ByteArray.empty l0 x9_1) x15_2)) = false := decide_eq_false c16
                          clear c16
                          have H' := Aside0.mk H
                          clear H
                          have p8 : 0 ≤ (x15_2 : Int) := of_decide_eq_true (by first | (with_reducible assumption) | assumption)
                          have q8 : x15_2 < ((rdOf ByteArray.empty l0 x9_1).size : Int) := of_decide_eq_true (by first | (with_reducible assumption) | assumption)
                          have hx8 := bt_at (rdOf ByteArray.empty l0 x9_1) x15_2
                          replace p8 := eq_true p8
                          replace q8 := eq_true q8
                          go_wp2
                          go_roundg k2
                          case measure => have := HK1.out; have := HK2.out; omega
                          case rel => exact ⟨(wrap64 (x15_2 + 1)), (by first | rfl | (simp; done) | (simp [*]; done)), H', ⟨by have := HK1.out; have := HK2.out; omega⟩, by repeat (first | exact Drawn0.refl _ | apply Drawn0.step)⟩
                    · rw [if_neg c7] at H
                      exact absurd H (by simp)
                  · rw [if_neg c6] at H
                    exact absurd H (by simp)
                · rw [if_neg c5] at H
                  have c5b0 : decide (x15_2 < ((rdOf ByteArray.empty l0 x9_1).size : Int)) = false := decide_eq_false c5
                  clear c5
                  by_cases c23 : ((rdOf ByteArray.empty l0 x9_1).size : Int) < 1
                  · rw [if_pos c23] at H
                    have c23b0 : decide (((rdOf ByteArray.empty l0 x9_1).size : Int) < 1) = true := decide_eq_true c23
                    have c23b1 : decide ((rdOf ByteArray.empty l0 x9_1).size < 1) = true := decide_eq_true (by omega)
                    clear c23
                    obtain rfl := Option.some.inj H
                    go_wp2
                    go_ret
                    exact ⟨by first | rfl | (simp; done) | (simp [*]; done), by repeat (first | exact Drawn0.refl _ | apply Drawn0.step)⟩
                  · rw [if_neg c23] at H
                    have c23b0 : decide (((rdOf ByteArray.empty l0 x9_1).size : Int) < 1) = false := decide_eq_false c23
                    have c23b1 : decide ((rdOf ByteArray.empty l0 x9_1).size < 1) = false := decide_eq_false (by omega)
                    clear c23
                    by_cases c24 : ((rdOf ByteArray.empty l0 x9_1).size : Int) > 20
                    · rw [if_pos c24] at H
                      have c24b0 : decide (20 < ((rdOf ByteArray.empty l0 x9_1).size : Int)) = true := decide_eq_true c24
                      have c24b1 : decide (20 < (rdOf ByteArray.empty l0 x9_1).size) = true := decide_eq_true (by omega)
                      clear c24
                      obtain rfl := Option.some.inj H
                      go_wp2
                      go_ret
                      exact ⟨by first | rfl | (simp; done) | (simp [*]; done), by repeat (first | exact Drawn0.refl _ | apply Drawn0.step)⟩
                    · rw [if_neg c24] at H
                      have c24b0 : decide (20 < ((rdOf ByteArray.empty l0 x9_1).size : Int)) = false := decide_eq_false c24
                      have c24b1 : decide (20 < (rdOf ByteArray.empty l0 x9_1).size) = false := decide_eq_false (by omega)
                      clear c24
                      have H' := Aside0.mk H
                      clear H
                      go_wp2
                      go_roundg k2
                      case measure => have := HK1.out; have := HK2.out; omega
                      case rel => exact ⟨(wrap64 (x9_1 + 1)), (by first | rfl | (simp; done) | (simp [*]; done)), H', ⟨by have := HK1.out; have := HK2.out; omega⟩, by repeat (first | exact Drawn0.refl _ | apply Drawn0.step)⟩
          · rw [if_neg c4] at H
            exact absurd H (by simp)
        · rw [if_neg c3] at H
          exact absurd H (by simp)
      · rw [if_neg c2] at H
        have c2b0 : decide (x9_1 < (l0.length : Int)) = false := decide_eq_false c2
        clear c2
        obtain rfl := Option.some.inj H
        go_wp2
        go_ret
        exact ⟨by first | rfl | (simp; done) | (simp [*]; done), by repeat (first | exact Drawn0.refl _ | apply Drawn0.step)⟩

end Go.Proofs.YtnbihmagbedfmaaDoorR.PWords
