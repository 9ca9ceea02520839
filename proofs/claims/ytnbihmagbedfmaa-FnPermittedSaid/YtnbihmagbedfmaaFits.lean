/- zzFits3: a list of at most 2^31-1 texts, each of at most so many bytes. -/
import Derived.Test.YtnbihmagbedfmaaPzzFits3x
import Derived.Test.YtnbihmagbedfmaaTexts
namespace Go.Proofs.Ytnbihmagbedfmaa
open Go.RowKit Go.Proofs.YtnbihmagbedfmaaW.PrintWords
open PzzFits3

def fitsOne (s : ByteArray) : Bool := decide (s.size ≤ 2147483647)
def fits (l : List ByteArray) : Bool := decide (l.length ≤ 2147483647) && l.all fitsOne

theorem rdOf_get (l : List ByteArray) (i : Nat) (h : i < l.length) : rdOf ByteArray.empty l (i : Int) = l[i] := by
  simp [rdOf, List.getD_eq_getElem?_getD, List.getElem?_eq_getElem h]

theorem fits_l0 (l : List ByteArray) (hl : l.length ≤ 2147483647) : ∀ (d k i : Nat), i ≤ l.length → l.length - i = d → d < k → laws_zzFits3.l0 k l (l.length : Int) (i : Int) = some ((l.drop i).all fitsOne) := by
  intro d
  induction d with
  | zero =>
    intro k i h1 h2 h3
    obtain ⟨k, rfl⟩ : ∃ m, k = m + 1 := ⟨k - 1, by omega⟩
    obtain rfl : i = l.length := by omega
    unfold laws_zzFits3.l0
    rw [if_neg (by omega), List.drop_length]
    rfl
  | succ d ih =>
    intro k i h1 h2 h3
    obtain ⟨k, rfl⟩ : ∃ m, k = m + 1 := ⟨k - 1, by omega⟩
    have hlt : i < l.length := by omega
    unfold laws_zzFits3.l0
    have e2 : ((i : Int) + 1) = ((i + 1 : Nat) : Int) := by omega
    rw [if_pos (by omega), if_pos (by omega), if_pos (by omega), rdOf_get l i hlt, e2, wrap_in (by omega) (by omega), List.drop_eq_getElem_cons hlt, List.all_cons]
    by_cases hs : l[i].size ≤ 2147483647
    · have hf : fitsOne l[i] = true := by simp [fitsOne, hs]
      rw [if_neg (by omega), hf, Bool.true_and]
      exact ih k (i + 1) (by omega) (by omega) (by omega)
    · have hf : fitsOne l[i] = false := by simp [fitsOne]; omega
      rw [if_pos (by omega), hf, Bool.false_and]

theorem fits_any (A : Option Addr) (c : Nat) (l : List ByteArray) (w : World) (hr : ReadsOf Value.string ByteArray.empty w A l.length l) (hc : l.length ≤ c) :
    Calls Try.prog 11 #[.slice A l.length c] w fun e w' => e = .returned (.bool (fits l)) ∧ Drawn0 w w' := by
  refine laws_zzFits3.calls (l.length + 1) A c l (fits l) w (Kd.C_of_reads hr) hc ?_
  unfold laws_zzFits3.f fits
  by_cases hl : l.length ≤ 2147483647
  · rw [if_neg (by omega), decide_eq_true hl, Bool.true_and]
    have := fits_l0 l hl l.length (l.length + 1) 0 (Nat.zero_le _) rfl (Nat.lt_succ_self _)
    simpa using this
  · rw [if_pos (by omega), decide_eq_false hl, Bool.false_and]
end Go.Proofs.Ytnbihmagbedfmaa
