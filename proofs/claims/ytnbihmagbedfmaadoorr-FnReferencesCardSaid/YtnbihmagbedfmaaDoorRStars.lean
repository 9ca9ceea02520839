/- What Wild, Stars, countTokenWildcards and the suffix test come to, in lists. -/
import Derived.Test.YtnbihmagbedfmaaDoorRPStarsx
import Derived.Test.YtnbihmagbedfmaaDoorRPWildx
import Derived.Test.YtnbihmagbedfmaaDoorRPcountTokenWildcardsx
import Derived.Test.YtnbihmagbedfmaaDoorRShelf
import Derived.Test.YtnbihmagbedfmaaDoorRTexts
import Derived.WalkKit
namespace Go.Proofs.YtnbihmagbedfmaaDoorR
open Go.RowKit Go.Proofs.YtnbihmagbedfmaaDoorRW.PrintWords
open Pl (hasSub toks toksA plain plainT okt okc)

theorem tok_stars (k : Nat) (a : ByteArray) : PStars.spec_Tokens.f k a = PPlain.spec_Tokens.f k a := by
  have h : ∀ k a o i j, PStars.spec_Tokens.l0 k a o i j = PPlain.spec_Tokens.l0 k a o i j := by
    intro k
    induction k with
    | zero => intros; rfl
    | succ k ih => intros; unfold PStars.spec_Tokens.l0 PPlain.spec_Tokens.l0; simp only [ih]
  exact h _ _ _ _ _
theorem tok_wild (k : Nat) (a : ByteArray) : PWild.spec_Tokens.f k a = PPlain.spec_Tokens.f k a := by
  have h : ∀ k a o i j, PWild.spec_Tokens.l0 k a o i j = PPlain.spec_Tokens.l0 k a o i j := by
    intro k
    induction k with
    | zero => intros; rfl
    | succ k ih => intros; unfold PWild.spec_Tokens.l0 PPlain.spec_Tokens.l0; simp only [ih]
  exact h _ _ _ _ _
theorem split_count (k : Nat) (a b : ByteArray) : PcountTokenWildcards.natsjwt_split.f k a b = Psplit.natsjwt_split.f k a b := by
  have h : ∀ k a b o i, PcountTokenWildcards.natsjwt_split.l0 k a b o i = Psplit.natsjwt_split.l0 k a b o i := by
    intro k
    induction k with
    | zero => intros; rfl
    | succ k ih => intros; unfold PcountTokenWildcards.natsjwt_split.l0 Psplit.natsjwt_split.l0; simp only [ih]
  exact h _ _ _ _ _

def stars (T : List (List UInt8)) : Nat := T.countP (· == [42])
def endT (T : List (List UInt8)) : Bool := T.any (· == [62])
def endB (b : Bool) : ByteArray := if b then ⟨#[46, 62]⟩ else ⟨#[]⟩

theorem rd_at (x : List ByteArray) (i : Nat) (h : i < x.length) : rdOf ByteArray.empty x (i : Int) = x[i] := by simp [rdOf, List.getD_eq_getElem?_getD, List.getElem?_eq_getElem h]
theorem lists_drop (x : List ByteArray) (i : Nat) (h : i < x.length) : lists (x.drop i) = x[i].data.toList :: lists (x.drop (i + 1)) := by
  rw [List.drop_eq_getElem_cons h]; rfl

theorem wild_l0 (x : List ByteArray) (hl : x.length ≤ big) : ∀ (d i k : Nat), i ≤ x.length → x.length - i = d → d < k → ∃ b, PWild.spec_Wild.l0 k x (x.length : Int) (i : Int) = some b := by
  unfold big at hl
  intro d
  induction d with
  | zero =>
    intro i k h1 h2 h3
    obtain ⟨k, rfl⟩ : ∃ m, k = m + 1 := ⟨k - 1, by omega⟩
    refine ⟨false, ?_⟩
    unfold PWild.spec_Wild.l0
    rw [if_neg (by omega)]
  | succ d ih =>
    intro i k h1 h2 h3
    obtain ⟨k, rfl⟩ : ∃ m, k = m + 1 := ⟨k - 1, by omega⟩
    have hlt : i < x.length := by omega
    obtain ⟨b, hb⟩ := ih (i + 1) k (by omega) (by omega) (by omega)
    have e2 : ((i : Int) + 1) = ((i + 1 : Nat) : Int) := by omega
    unfold PWild.spec_Wild.l0
    rw [if_pos (by omega), if_pos (by omega), if_pos (by omega), e2, wrap_in (by omega) (by omega), hb]
    by_cases h42 : (rdOf ByteArray.empty x (i : Int)).toList = [42]
    · exact ⟨true, by rw [if_pos h42]⟩
    · by_cases h62 : (rdOf ByteArray.empty x (i : Int)).toList = [62]
      · exact ⟨true, by rw [if_neg h42, if_pos h62]⟩
      · exact ⟨b, by rw [if_neg h42, if_neg h62]⟩

theorem tokens_at (s : ByteArray) (hs : s.size ≤ 2147483647) : ∃ x, PPlain.spec_Tokens.f (s.size + 2) s = some x ∧ lists x = toks 46 s.data.toList ∧ x.length ≤ s.size + 1 := by
  obtain ⟨x, hx, hl⟩ := tokens_f s (by unfold big; omega)
  refine ⟨x, hx, hl, ?_⟩
  have hlen : x.length = (toks 46 s.data.toList).length := by rw [← hl]; simp [lists]
  have hle := Pl.toksA_length 46 [] s.data.toList
  rw [data_length] at hle
  rw [hlen]; exact hle

theorem wild_bool (s : ByteArray) (hs : s.size ≤ 2147483647) :
    ∃ b, ∀ w, Calls Tryd.prog 14 #[.string s] w fun e w' => e = .returned (.bool b) ∧ Below w.heap.size w w' := by
  obtain ⟨x, hx, hl, hle⟩ := tokens_at s hs
  obtain ⟨b, hb⟩ := wild_l0 x (by unfold big; omega) x.length 0 (s.size + 2) (Nat.zero_le _) rfl (by omega)
  refine ⟨b, fun w => PWild.spec_Wild.calls (s.size + 2) s b w ?_⟩
  unfold PWild.spec_Wild.f
  rw [tok_wild, hx]
  exact hb

theorem stars_l0 (x : List ByteArray) (hl : x.length ≤ big) : ∀ (d i k n : Nat) (e : Bool), i ≤ x.length → x.length - i = d → d < k → n ≤ i →
    PStars.spec_Stars.l0 k (n : Int) (endB e) x (x.length : Int) (i : Int) = some (((n + stars (lists (x.drop i)) : Nat) : Int), endB (e || endT (lists (x.drop i)))) := by
  unfold big at hl
  intro d
  induction d with
  | zero =>
    intro i k n e h1 h2 h3 h4
    obtain ⟨k, rfl⟩ : ∃ m, k = m + 1 := ⟨k - 1, by omega⟩
    obtain rfl : i = x.length := by omega
    unfold PStars.spec_Stars.l0
    rw [if_neg (by omega), List.drop_length]
    simp [lists, stars, endT]
  | succ d ih =>
    intro i k n e h1 h2 h3 h4
    obtain ⟨k, rfl⟩ : ∃ m, k = m + 1 := ⟨k - 1, by omega⟩
    have hlt : i < x.length := by omega
    have e2 : ((i : Int) + 1) = ((i + 1 : Nat) : Int) := by omega
    have e3 : ((n : Int) + 1) = ((n + 1 : Nat) : Int) := by omega
    unfold PStars.spec_Stars.l0
    rw [if_pos (by omega), if_pos (by omega), if_pos (by omega), rd_at x i hlt, e2, e3, wrap_in (by omega) (by omega), wrap_in (by omega) (by omega), Lib.toList_data, lists_drop x i hlt]
    have hst : ∀ t r, stars (t :: r) = stars r + if t = [42] then 1 else 0 := fun t r => by
      unfold stars; rw [List.countP_cons]; by_cases h : t = [42] <;> simp [h]
    have hen : ∀ t r, endT (t :: r) = (decide (t = [62]) || endT r) := fun t r => by
      unfold endT; rw [List.any_cons]; by_cases h : t = [62] <;> simp [h]
    rw [hst, hen]
    by_cases h42 : x[i].data.toList = [42]
    · have h62 : ¬ x[i].data.toList = [62] := by rw [h42]; decide
      rw [if_pos h42, if_neg h62, ih (i + 1) k (n + 1) e (by omega) (by omega) (by omega) (by omega), if_pos h42, decide_eq_false h62, Bool.false_or, Nat.add_assoc, Nat.add_comm 1]
    · rw [if_neg h42]
      by_cases h62 : x[i].data.toList = [62]
      · rw [if_pos h62, show (⟨#[46, 62]⟩ : ByteArray) = endB true from rfl, ih (i + 1) k n true (by omega) (by omega) (by omega) (by omega), if_neg h42, decide_eq_true h62]
        simp
      · rw [if_neg h62, ih (i + 1) k n e (by omega) (by omega) (by omega) (by omega), if_neg h42, decide_eq_false h62]
        simp

theorem stars_any (s : ByteArray) (hs : s.size ≤ 2147483647) (w : World) :
    Calls Tryd.prog 15 #[.string s] w fun e w' => e = .returned (.tuple #[.int .i64 (stars (toks 46 s.data.toList)), .string (endB (endT (toks 46 s.data.toList)))]) ∧ Below w.heap.size w w' := by
  obtain ⟨x, hx, hl, hle⟩ := tokens_at s hs
  have h := stars_l0 x (by unfold big; omega) x.length 0 (s.size + 2) 0 false (Nat.zero_le _) rfl (by omega) (Nat.le_refl _)
  rw [List.drop_zero, hl, Nat.zero_add, Bool.false_or] at h
  refine PStars.spec_Stars.calls (s.size + 2) s _ _ w ?_
  unfold PStars.spec_Stars.f
  rw [tok_stars, hx]
  exact h

theorem count_l0 (x : List ByteArray) (hl : x.length ≤ big) : ∀ (d i k n : Nat), i ≤ x.length → x.length - i = d → d < k → n ≤ i →
    PcountTokenWildcards.natsjwt_Subject_countTokenWildcards.l0 k (n : Int) x (x.length : Int) (i : Int) = some ((n + stars (lists (x.drop i)) : Nat) : Int) := by
  unfold big at hl
  intro d
  induction d with
  | zero =>
    intro i k n h1 h2 h3 h4
    obtain ⟨k, rfl⟩ : ∃ m, k = m + 1 := ⟨k - 1, by omega⟩
    obtain rfl : i = x.length := by omega
    unfold PcountTokenWildcards.natsjwt_Subject_countTokenWildcards.l0
    rw [if_neg (by omega), List.drop_length]
    simp [lists, stars]
  | succ d ih =>
    intro i k n h1 h2 h3 h4
    obtain ⟨k, rfl⟩ : ∃ m, k = m + 1 := ⟨k - 1, by omega⟩
    have hlt : i < x.length := by omega
    have e2 : ((i : Int) + 1) = ((i + 1 : Nat) : Int) := by omega
    have e3 : ((n : Int) + 1) = ((n + 1 : Nat) : Int) := by omega
    unfold PcountTokenWildcards.natsjwt_Subject_countTokenWildcards.l0
    rw [if_pos (by omega), if_pos (by omega), if_pos (by omega), rd_at x i hlt, e2, e3, wrap_in (by omega) (by omega), wrap_in (by omega) (by omega), Lib.toList_data, lists_drop x i hlt]
    have hst : ∀ t r, stars (t :: r) = stars r + if t = [42] then 1 else 0 := fun t r => by
      unfold stars; rw [List.countP_cons]; by_cases h : t = [42] <;> simp [h]
    rw [hst]
    by_cases h42 : x[i].data.toList = [42]
    · rw [if_pos h42, ih (i + 1) k (n + 1) (by omega) (by omega) (by omega) (by omega), if_pos h42, Nat.add_assoc, Nat.add_comm 1]
    · rw [if_neg h42, ih (i + 1) k n (by omega) (by omega) (by omega) (by omega), if_neg h42]
      simp

theorem count_any (s : ByteArray) (hs : s.size ≤ 2147483647) (w : World) :
    Calls Tryd.prog 61 #[.string s] w fun e w' => e = .returned (.int .i64 (stars (toks 46 s.data.toList))) ∧ Below w.heap.size w w' := by
  obtain ⟨x, hx, hl⟩ := split_f 46 s ⟨#[46]⟩ rfl (by unfold big; omega)
  have hlen : x.length = (toks 46 s.data.toList).length := by rw [← hl]; simp [lists]
  have hle := Pl.toksA_length 46 [] s.data.toList
  rw [data_length] at hle
  have hle' : x.length ≤ s.size + 1 := by rw [hlen]; exact hle
  have h := count_l0 x (by unfold big; omega) x.length 0 (s.size + 2) 0 (Nat.zero_le _) rfl (by omega) (Nat.le_refl _)
  rw [List.drop_zero, hl, Nat.zero_add] at h
  refine PcountTokenWildcards.natsjwt_Subject_countTokenWildcards.calls (s.size + 2) s _ w ?_
  unfold PcountTokenWildcards.natsjwt_Subject_countTokenWildcards.f
  by_cases h42 : s.toList = [42]
  · rw [if_pos h42]
    rw [Lib.toList_data] at h42
    rw [h42]
    rfl
  · rw [if_neg h42, split_count, at_rounds (g := fun k => Psplit.natsjwt_split.f k s ⟨#[46]⟩) (fun k => Psplit.natsjwt_split.mono s ⟨#[46]⟩ k) (by omega : s.size + 1 ≤ s.size + 2) hx]
    exact h

/-- Does a subject end in a part that is a greater-than sign? -/
def isSuf (l : List UInt8) : Bool := (l == [62]) || Lib.hasSuffix l [46, 62]
set_option maxRecDepth 100000 in
theorem suffix_any (s : ByteArray) (hs : s.size ≤ 2147483647) (w : World) :
    Calls Tryd.prog 59 #[.string s] w fun e w' => e = .returned (.bool (isSuf s.data.toList)) ∧ Below w.heap.size w w' := by
  have hx := Tryd.strings_HasSuffix s ⟨#[46, 62]⟩ w (by omega)
  have HX := Lib.hid hx
  clear hx
  have e1 : (s.toList == [62]) = (s.data.toList == [62]) := by rw [Lib.toList_data]
  unfold isSuf
  cases hb : (s.data.toList == [62])
  · rw [hb] at e1
    clear hb
    go_enter Tryd.func59, Tryd.ntmps59
    go_wp2_with (go_at_call 60; refine HX.out.mono ?_; rintro e w1 ⟨rfl, rfl⟩)
    go_ret
    exact ⟨rfl, Below.refl _ _⟩
  · rw [hb] at e1
    clear hb
    go_enter Tryd.func59, Tryd.ntmps59
    go_wp2_with (go_at_call 60; refine HX.out.mono ?_; rintro e w1 ⟨rfl, rfl⟩)
    go_ret
    exact ⟨rfl, Below.refl _ _⟩
end Go.Proofs.YtnbihmagbedfmaaDoorR
