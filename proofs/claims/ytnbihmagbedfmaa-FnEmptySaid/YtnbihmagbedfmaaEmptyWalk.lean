/- laws.FnEmpty hands back true, whatever the two texts. -/
import Derived.Test.YtnbihmagbedfmaaValid
import Derived.Test.YtnbihmagbedfmaaAcc
namespace Go.Proofs.Ytnbihmagbedfmaa
open Go.RowKit Go.Proofs.YtnbihmagbedfmaaW.PrintWords
open Pl (hasSub toks toksA valid plain plainT okt okc)

theorem empty_large (s t : ByteArray) (w : World) (h : 2147483647 < s.size ∨ 2147483647 < t.size) :
    Calls Try.prog 3 #[.string s, .string t] w fun e w' => e = .returned (.bool true) ∧ Below w.heap.size w w' := by
  by_cases h1 : 2147483647 < s.size
  · have d1 : decide ((2147483647 : Int) < (s.size : Int)) = true := by simp; omega
    clear h h1
    go_enter Try.func3, Try.ntmps3
    go_wp2
    go_ret
    exact ⟨rfl, Below.refl _ _⟩
  · have d1 : decide ((2147483647 : Int) < (s.size : Int)) = false := by simp; omega
    have d2 : decide ((2147483647 : Int) < (t.size : Int)) = true := by simp; omega
    clear h h1
    go_enter Try.func3, Try.ntmps3
    go_wp2
    go_ret
    exact ⟨rfl, Below.refl _ _⟩

theorem bytes_append (a b : ByteArray) : (a ++ b).data.toList = a.data.toList ++ b.data.toList := by simp
theorem size_append (a b : ByteArray) : (a ++ b).size = a.size + b.size := by rw [← data_length, bytes_append, List.length_append, data_length, data_length]

theorem valid_1 (s : ByteArray) (h1 : s.size ≤ 2147483647) (w : World) :
    Calls Try.prog 9 #[.string (ByteArray.mk #[46] ++ s)] w fun e w' => e = .returned (.bool false) ∧ Below w.heap.size w w' := by
  have h := valid_any (ByteArray.mk #[46] ++ s) (by rw [size_append]; have : (ByteArray.mk #[46]).size = 1 := rfl; omega) w
  have e : valid (ByteArray.mk #[46] ++ s).data.toList = false := by rw [bytes_append]; exact Pl.valid_front _
  rw [e] at h
  exact h
theorem valid_2 (s : ByteArray) (h1 : s.size ≤ 2147483647) (w : World) :
    Calls Try.prog 9 #[.string (s ++ ByteArray.mk #[46])] w fun e w' => e = .returned (.bool false) ∧ Below w.heap.size w w' := by
  have h := valid_any (s ++ ByteArray.mk #[46]) (by rw [size_append]; have : (ByteArray.mk #[46]).size = 1 := rfl; omega) w
  have e : valid (s ++ ByteArray.mk #[46]).data.toList = false := by rw [bytes_append]; exact Pl.valid_back _
  rw [e] at h
  exact h
theorem valid_3 (s t : ByteArray) (h1 : s.size ≤ 2147483647) (h2 : t.size ≤ 2147483647) (w : World) :
    Calls Try.prog 9 #[.string (s ++ ByteArray.mk #[46, 46] ++ t)] w fun e w' => e = .returned (.bool false) ∧ Below w.heap.size w w' := by
  have h := valid_any (s ++ ByteArray.mk #[46, 46] ++ t) (by rw [size_append, size_append]; have : (ByteArray.mk #[46, 46]).size = 2 := rfl; omega) w
  have e : valid (s ++ ByteArray.mk #[46, 46] ++ t).data.toList = false := by rw [bytes_append, bytes_append, List.append_assoc]; exact Pl.valid_two _ _
  rw [e] at h
  exact h

set_option maxRecDepth 100000 in
theorem empty_small (s t : ByteArray) (w : World) (h1 : s.size ≤ 2147483647) (h2 : t.size ≤ 2147483647) :
    Calls Try.prog 3 #[.string s, .string t] w fun e w' => e = .returned (.bool true) ∧ Below w.heap.size w w' := by
  have H0 := Acc.refl w
  have V1 := Lib.hid (valid_1 s h1)
  have V2 := Lib.hid (valid_2 s h1)
  have V3 := Lib.hid (valid_3 s t h1 h2)
  cases hp : plain s.data.toList
  · go_enter Try.func3, Try.ntmps3
    go_wp2_with (first | (go_at_call 7; refine (plain_any _ (by omega) _).mono ?_; rintro e w1 ⟨rfl, hb⟩; have H1 := Acc.step (by assumption) hb) | (go_at_call 8; refine (works_any _).mono ?_; rintro e w1 ⟨rfl, hb⟩; have H1 := Acc.step (by assumption) hb))
    go_ret
    exact ⟨rfl, H1.out⟩
  · cases hq : plain t.data.toList
    · go_enter Try.func3, Try.ntmps3
      go_wp2_with (first | (go_at_call 7; refine (plain_any _ (by omega) _).mono ?_; rintro e w1 ⟨rfl, hb⟩; have H1 := Acc.step (by assumption) hb) | (go_at_call 8; refine (works_any _).mono ?_; rintro e w1 ⟨rfl, hb⟩; have H1 := Acc.step (by assumption) hb))
      go_ret
      exact ⟨rfl, H1.out⟩
    · go_enter Try.func3, Try.ntmps3
      go_wp2_with (go_at_call 7; refine (plain_any _ (by omega) _).mono ?_; rintro e w1 ⟨rfl, hb⟩; have H1 := Acc.step (by assumption) hb)
      refine (V1.out _).mono ?_
      rintro e w3 ⟨rfl, hb⟩
      have H3 := Acc.step (by assumption) hb
      go_wp2_with fail
      refine (V2.out _).mono ?_
      rintro e w4 ⟨rfl, hb⟩
      have H4 := Acc.step (by assumption) hb
      go_wp2_with fail
      refine (V3.out _).mono ?_
      rintro e w5 ⟨rfl, hb⟩
      have H5 := Acc.step (by assumption) hb
      go_wp2_with (go_at_call 8; refine (works_any _).mono ?_; rintro e w6 ⟨rfl, hb⟩; have H6 := Acc.step (by assumption) hb)
      go_ret
      exact ⟨rfl, H6.out⟩

theorem empty_walk (s t : ByteArray) (w : World) :
    Calls Try.prog 3 #[.string s, .string t] w fun e w' => e = .returned (.bool true) ∧ Below w.heap.size w w' := by
  by_cases h : 2147483647 < s.size ∨ 2147483647 < t.size
  · exact empty_large s t w h
  · exact empty_small s t w (by omega) (by omega)
end Go.Proofs.Ytnbihmagbedfmaa
