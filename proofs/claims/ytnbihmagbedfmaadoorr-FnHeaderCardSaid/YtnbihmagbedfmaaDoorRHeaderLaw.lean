/- laws.FnHeader hands back true, at every two texts. -/
import Derived.Test.YtnbihmagbedfmaaDoorRHeaderWalk
namespace Go.Proofs.YtnbihmagbedfmaaDoorR
open Go.RowKit Go.Proofs.YtnbihmagbedfmaaDoorRW.PrintWords
open Pl (wordc wordt wordsT)

theorem word_all {l : List UInt8} (h : wordt l = true) : ∀ b ∈ l, b.toNat < 128 := by
  unfold wordt at h
  simp only [Bool.and_eq_true, List.all_eq_true] at h
  exact fun b hb => word_ascii b (h.1 b hb)

theorem small_list (s : ByteArray) : (smallT s).data.toList = Lib.toLowerA s.data.toList := rfl
theorem beq_dec (a b : List UInt8) : (a == b) = decide (a = b) := by
  rw [Bool.eq_iff_iff, beq_iff_eq, decide_eq_true_eq]

set_option maxRecDepth 100000 in
theorem fnheader_walk (a b : ByteArray) (w : World) :
    Calls Tryd.prog 3 #[.string a, .string b] w fun e w' => e = .returned (.bool true) ∧ Below w.heap.size w w' := by
  have H0 := Acc.refl w
  by_cases hA : a.size ≤ 2147483647
  · by_cases hB : b.size ≤ 2147483647
    · cases hw : wordt a.data.toList
      · have hW := fun w' => Lib.hid (words_one a (by omega) w' false hw)
        clear hw
        go_enter Tryd.func3, Tryd.ntmps3
        go_wp2_with (first | (go_at_call 7; with_reducible refine (hW _).out.mono ?_; rintro e w1 ⟨rfl, hb⟩; have H1 := Acc.step (by assumption) hb) | (go_at_call 9; refine (works_any _).mono ?_; rintro e w1 ⟨rfl, hb⟩; have H1 := Acc.step (by assumption) hb))
        go_ret
        exact ⟨rfl, H1.out⟩
      · refine fnheader_at a b (smallT a) (smallT b) w _ _ _ _ _ _ (wordt b.data.toList) hA hB (fun w' => Lib.hid (words_one a (by omega) w' true hw)) (fun w' => Lib.hid (words_one b (by omega) w' _ rfl))
          (fun w' => Lib.hid (small_any a (by omega) w')) (fun w' => Lib.hid (small_any b (by omega) w')) ?_ rfl rfl rfl rfl rfl rfl
        intro h1 _ h3 h4 w'
        simp only [Lib.toList_data, small_list] at h1 h3 h4 ⊢
        have h1' : a.data.toList = jwtU ∨ Lib.toLowerA a.data.toList ≠ jwtL := by
          rcases h1 with h | h
          · exact .inl (beq_iff_eq.1 h)
          · exact .inr (fun e => by rw [e] at h; exact absurd h (by decide))
        have h3' : b.data.toList = Lib.toLowerA b.data.toList ∨ Lib.toLowerA b.data.toList ≠ edL := by
          rcases h3 with h | h
          · exact .inl (beq_iff_eq.1 h)
          · exact .inr (fun e => by rw [e] at h; exact absurd h (by decide))
        have h4' : b.data.toList = nkeyL ∨ b.data.toList = edL ∨ wordt b.data.toList = true := by
          rcases h4 with h | h | h
          · exact .inl (beq_iff_eq.1 h)
          · exact .inr (.inl (beq_iff_eq.1 h))
          · exact .inr (.inr h)
        have hb : ∀ x ∈ b.data.toList, x.toNat < 128 := by
          rcases h4' with h | h | h
          · rw [h]; decide
          · rw [h]; decide
          · exact word_all h
        have e : (isJwt a.data.toList && isAlg b.data.toList) = ((a.data.toList == [74, 87, 84]) && ((b.data.toList == [101, 100, 50, 53, 53, 49, 57, 45, 110, 107, 101, 121]) || (b.data.toList == [101, 100, 50, 53, 53, 49, 57]))) := by
          rw [jwt_law _ h1', alg_law _ h3' h4', beq_dec, beq_dec, beq_dec]; rfl
        rw [← e]
        exact Lib.hid (header_any a b w' (word_all hw) hb hA hB)
    · go_enter Tryd.func3, Tryd.ntmps3
      have hC : 2147483647 < b.size := by omega
      clear hB
      go_wp2
      go_ret
      exact ⟨rfl, H0.out⟩
  · go_enter Tryd.func3, Tryd.ntmps3
    have hC : 2147483647 < a.size := by omega
    clear hA
    go_wp2
    go_ret
    exact ⟨rfl, H0.out⟩
end Go.Proofs.YtnbihmagbedfmaaDoorR
