/- What the printed function Words comes to: each text of 1 to 20 letters and digits, at most 20 of them. -/
import Derived.Test.YtnbihmagbedfmaaDoorRPWordsx
import Derived.Test.YtnbihmagbedfmaaDoorRTexts
namespace Go.Proofs.YtnbihmagbedfmaaDoorR
open Go.RowKit Go.Proofs.YtnbihmagbedfmaaDoorRW.PrintWords

namespace Pl
def wordc (c : UInt8) : Bool := (97 ≤ c.toNat && c.toNat ≤ 122) || (65 ≤ c.toNat && c.toNat ≤ 90) || (48 ≤ c.toNat && c.toNat ≤ 57)
def wordt (l : List UInt8) : Bool := l.all wordc && (decide (1 ≤ l.length) && decide (l.length ≤ 20))
def wordsT (l : List (List UInt8)) : Bool := l.all wordt
theorem wordc_iff (c : UInt8) : wordc c = true ↔ (97 ≤ c.toNat ∧ c.toNat ≤ 122) ∨ (65 ≤ c.toNat ∧ c.toNat ≤ 90) ∨ (48 ≤ c.toNat ∧ c.toNat ≤ 57) := by
  unfold wordc
  simp only [Bool.or_eq_true, Bool.and_eq_true, decide_eq_true_eq]
  omega
end Pl
open Pl (wordc wordt wordsT)

section
open PWords
theorem words_l1 (x0 : List ByteArray) (t : ByteArray) (x7 : List ByteArray) (x8 x9 : Int) (k1 : Nat) (r : Bool) (ht : t.size ≤ big) (hn : spec_Words.l0 k1 x0 x7 x8 (wrap64 (x9 + 1)) = some r) : ∀ (d j : Nat), j ≤ t.size → t.size - j = d →
    spec_Words.l1 (k1 + d + 1) x0 t x7 x8 x9 (t.size : Int) (j : Int) = some ((t.data.toList.drop j).all wordc && ((decide (1 ≤ t.size) && decide (t.size ≤ 20)) && r)) := by
  unfold big at ht
  intro d
  induction d with
  | zero =>
    intro j h1 h2
    obtain rfl : j = t.size := by omega
    have hd : t.data.toList.drop t.size = [] := List.drop_of_length_le (by rw [data_length]; exact Nat.le_refl _)
    unfold spec_Words.l1
    rw [if_neg (by omega), hd, List.all_nil, Bool.true_and]
    by_cases h1 : 1 ≤ t.size
    · rw [if_neg (by omega), decide_eq_true h1, Bool.true_and]
      by_cases h20 : t.size ≤ 20
      · rw [if_neg (by omega), decide_eq_true h20, Bool.true_and]; exact hn
      · rw [if_pos (by omega), decide_eq_false h20, Bool.false_and]
    · rw [if_pos (by omega), decide_eq_false h1, Bool.false_and, Bool.false_and]
  | succ d ih =>
    intro j h1 h2
    have hlt : j < t.size := by omega
    have ih' := ih (j + 1) (by omega) (by omega)
    have e2 : ((j : Int) + 1) = ((j + 1 : Nat) : Int) := by omega
    have hw : wrap64 ((j : Int) + 1) = ((j + 1 : Nat) : Int) := by rw [e2, wrap_in (by omega) (by omega)]
    have hgo : ∀ b : Bool, wordc t[j] = b → ((t.data.toList.drop j).all wordc && ((decide (1 ≤ t.size) && decide (t.size ≤ 20)) && r)) = (b && ((t.data.toList.drop (j + 1)).all wordc && ((decide (1 ≤ t.size) && decide (t.size ≤ 20)) && r))) := by
      intro b hb
      rw [drop_cons t j hlt, List.all_cons, hb, Bool.and_assoc]
    have hok := Pl.wordc_iff t[j]
    have hb := bt_get t j hlt
    show spec_Words.l1 ((k1 + d + 1) + 1) x0 t x7 x8 x9 (t.size : Int) (j : Int) = _
    unfold spec_Words.l1
    rw [hw, hb, if_pos (by omega), if_pos (by omega), if_pos (by omega)]
    cases hc : wordc t[j] with
    | true =>
      have hk := hok.1 hc
      rw [hgo true hc, Bool.true_and, ← ih']
      generalize t[j].toNat = n at hk
      generalize spec_Words.l1 (k1 + d + 1) x0 t x7 x8 x9 (t.size : Int) ((j + 1 : Nat) : Int) = g
      repeat' split
      all_goals first | rfl | (exfalso; omega)
    | false =>
      have hk : ¬ _ := fun h => Bool.false_ne_true (hc.symm.trans (hok.2 h))
      rw [hgo false hc, Bool.false_and]
      generalize t[j].toNat = n at hk
      generalize spec_Words.l1 (k1 + d + 1) x0 t x7 x8 x9 (t.size : Int) ((j + 1 : Nat) : Int) = g
      repeat' split
      all_goals first | rfl | (exfalso; omega)

theorem words_l0 (x : List ByteArray) (hl : x.length ≤ big) (hx : ∀ t ∈ x, t.size ≤ big) : ∀ (d i : Nat), i ≤ x.length → x.length - i = d →
    ∃ k, spec_Words.l0 k x x (x.length : Int) (i : Int) = some (wordsT (lists (x.drop i)) && decide (x.length ≤ 20)) := by
  unfold big at hl
  intro d
  induction d with
  | zero =>
    intro i h1 h2
    obtain rfl : i = x.length := by omega
    refine ⟨1, ?_⟩
    unfold spec_Words.l0
    rw [if_neg (by omega), List.drop_length]
    have : decide ((x.length : Int) ≤ 20) = decide (x.length ≤ 20) := by rw [decide_eq_decide]; omega
    rw [this]
    rfl
  | succ d ih =>
    intro i h1 h2
    have hlt : i < x.length := by omega
    obtain ⟨k1, hk1⟩ := ih (i + 1) (by omega) (by omega)
    have e2 : ((i : Int) + 1) = ((i + 1 : Nat) : Int) := by omega
    have hw : wrap64 ((i : Int) + 1) = ((i + 1 : Nat) : Int) := by rw [e2, wrap_in (by omega) (by omega)]
    have hrd : rdOf ByteArray.empty x (i : Int) = x[i] := by simp [rdOf, List.getD_eq_getElem?_getD, List.getElem?_eq_getElem hlt]
    have hd : lists (x.drop i) = x[i].data.toList :: lists (x.drop (i + 1)) := by
      rw [List.drop_eq_getElem_cons hlt]; rfl
    have ht := hx x[i] (List.getElem_mem hlt)
    have hch := words_l1 x x[i] x (x.length : Int) (i : Int) k1 _ ht (by rw [hw]; exact hk1) x[i].size 0 (Nat.zero_le _) rfl
    refine ⟨k1 + x[i].size + 1 + 1, ?_⟩
    unfold spec_Words.l0
    rw [if_pos (by omega), if_pos (by omega), if_pos (by omega), hrd, hd]
    refine Eq.trans hch ?_
    rw [List.drop_zero]
    unfold wordsT
    rw [List.all_cons]
    unfold wordt
    rw [data_length]
    simp only [Bool.and_assoc]

theorem words_f (x : List ByteArray) (hl : x.length ≤ big) (hx : ∀ t ∈ x, t.size ≤ big) : ∃ k, spec_Words.f k x = some (wordsT (lists x) && decide (x.length ≤ 20)) := by
  obtain ⟨k, hk⟩ := words_l0 x hl hx x.length 0 (Nat.zero_le _) rfl
  refine ⟨k, ?_⟩
  unfold spec_Words.f
  simpa using hk

theorem words_any (A : Option Addr) (c : Nat) (l : List ByteArray) (w : World) (hr : Kd.C Kd.string w A l.length l) (hc : l.length ≤ c) (hl : l.length ≤ big) (hx : ∀ t ∈ l, t.size ≤ big) :
    Calls Tryd.prog 7 #[.slice A l.length c] w fun e w' => e = .returned (.bool (wordsT (lists l) && decide (l.length ≤ 20))) ∧ Drawn0 w w' := by
  obtain ⟨k, hk⟩ := words_f l hl hx
  exact spec_Words.calls k A c l _ w hr hc hk
end
end Go.Proofs.YtnbihmagbedfmaaDoorR
