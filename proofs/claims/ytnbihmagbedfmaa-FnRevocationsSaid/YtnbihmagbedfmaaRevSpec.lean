/- What Cleared, Is and Compact come to. -/
import Derived.Test.YtnbihmagbedfmaaCompactMap
import Derived.Test.YtnbihmagbedfmaaRevIsComp
import Derived.Test.YtnbihmagbedfmaaPFnRevocationsx1
namespace Go.Proofs.Ytnbihmagbedfmaa
open Go.RowKit Go.Maps Go.Proofs.YtnbihmagbedfmaaW.PrintWords

theorem eq_bytes (a b : ByteArray) : a.toList = b.toList ↔ a = b := by
  rw [Lib.toList_data, Lib.toList_data]
  exact ⟨fun h => ByteArray.ext (Array.toList_inj.1 h), fun h => by rw [h]⟩
theorem eq_star (a : ByteArray) : a.toList = [42] ↔ a = starS := by
  have h := eq_bytes a starS
  rwa [show starS.toList = [42] by rw [Lib.toList_data]; rfl] at h
theorem rd47 (L : List En) (i : Nat) (h : i < L.length) : PFnRevocations.rd_T47 L (i : Int) = L[i] := by simp [PFnRevocations.rd_T47, List.getD_eq_getElem?_getD, List.getElem?_eq_getElem h]
theorem wrap_nat (i : Nat) (h : i ≤ 100000) : wrap64 ((i : Int) + 1) = ((i + 1 : Nat) : Int) := by rw [wrap_in (by omega) (by omega)]; omega

def clearL (L : List En) (s : ByteArray) : List En := L.filter fun e => decide (e.f0 ≠ s)
def isL (L : List En) (s : ByteArray) (t : Int) : Bool := L.any fun e => (decide (e.f0 = s) || decide (e.f0 = starS)) && decide (t ≤ e.f1)

theorem cleared_l0 (s : ByteArray) (L : List En) (hL : L.length ≤ 1000) : ∀ (d i k : Nat) (o : List En), i ≤ L.length → L.length - i = d → d < k → o.length ≤ i →
    PFnRevocations.spec_Cleared.l0 k s o L (L.length : Int) (i : Int) = some (o ++ clearL (L.drop i) s) := by
  intro d
  induction d with
  | zero =>
    intro i k o h1 h2 h3 h4
    obtain ⟨k, rfl⟩ : ∃ m, k = m + 1 := ⟨k - 1, by omega⟩
    obtain rfl : i = L.length := by omega
    unfold PFnRevocations.spec_Cleared.l0
    rw [if_neg (by omega), List.drop_length]
    simp [clearL]
  | succ d ih =>
    intro i k o h1 h2 h3 h4
    obtain ⟨k, rfl⟩ : ∃ m, k = m + 1 := ⟨k - 1, by omega⟩
    have hlt : i < L.length := by omega
    unfold PFnRevocations.spec_Cleared.l0
    rw [if_pos (by omega), if_pos (by omega), if_pos (by omega), rd47 L i hlt, wrap_nat i (by omega), List.drop_eq_getElem_cons hlt]
    have hc : ∀ (e : En) r, clearL (e :: r) s = if e.f0 = s then clearL r s else e :: clearL r s := fun e r => by
      unfold clearL; rw [List.filter_cons]; by_cases h : e.f0 = s <;> simp [h]
    rw [hc]
    by_cases h : L[i].f0 = s
    · rw [if_pos ((eq_bytes _ _).2 h), ih (i + 1) k o (by omega) (by omega) (by omega) (by omega), if_pos h]
    · rw [if_neg (fun e => h ((eq_bytes _ _).1 e)), if_pos (by omega), ih (i + 1) k _ (by omega) (by omega) (by omega) (by simp; omega), if_neg h, List.append_assoc]
      rfl

theorem cleared_f (s : ByteArray) (L : List En) (hL : L.length ≤ 1000) : PFnRevocations.spec_Cleared.f (L.length + 1) L s = some (clearL L s) := by
  exact cleared_l0 s L hL L.length 0 (L.length + 1) [] (Nat.zero_le _) rfl (by omega) (Nat.le_refl _)

theorem is_l0 (s : ByteArray) (t : Int) (L : List En) (hL : L.length ≤ 1000) : ∀ (d i k : Nat), i ≤ L.length → L.length - i = d → d < k →
    PFnRevocations.spec_Is.l0 k s t L (L.length : Int) (i : Int) = some (isL (L.drop i) s t) := by
  intro d
  induction d with
  | zero =>
    intro i k h1 h2 h3
    obtain ⟨k, rfl⟩ : ∃ m, k = m + 1 := ⟨k - 1, by omega⟩
    obtain rfl : i = L.length := by omega
    unfold PFnRevocations.spec_Is.l0
    rw [if_neg (by omega), List.drop_length]
    simp [isL]
  | succ d ih =>
    intro i k h1 h2 h3
    obtain ⟨k, rfl⟩ : ∃ m, k = m + 1 := ⟨k - 1, by omega⟩
    have hlt : i < L.length := by omega
    unfold PFnRevocations.spec_Is.l0
    rw [if_pos (by omega), if_pos (by omega), if_pos (by omega), rd47 L i hlt, wrap_nat i (by omega), List.drop_eq_getElem_cons hlt, ih (i + 1) k (by omega) (by omega) (by omega)]
    have hc : ∀ (e : En) r, isL (e :: r) s t = (((decide (e.f0 = s) || decide (e.f0 = starS)) && decide (t ≤ e.f1)) || isL r s t) := fun _ _ => rfl
    rw [hc]
    by_cases h : L[i].f0 = s
    · rw [if_pos ((eq_bytes _ _).2 h)]
      by_cases ht : L[i].f1 ≥ t
      · rw [if_pos ht]; have : t ≤ L[i].f1 := ht; simp [h, this]
      · rw [if_neg ht]; have : ¬ t ≤ L[i].f1 := ht; simp [this]
    · rw [if_neg (fun e => h ((eq_bytes _ _).1 e))]
      by_cases h' : L[i].f0 = starS
      · rw [if_pos ((eq_star _).2 h')]
        by_cases ht : L[i].f1 ≥ t
        · rw [if_pos ht]; have : t ≤ L[i].f1 := ht; simp [h', this]
        · rw [if_neg ht]; have : ¬ t ≤ L[i].f1 := ht; simp [this]
      · rw [if_neg (fun e => h' ((eq_star _).1 e))]; simp [h, h']

theorem is_f (s : ByteArray) (t : Int) (L : List En) (hL : L.length ≤ 1000) : PFnRevocations.spec_Is.f (L.length + 1) L s t = some (isL L s t) := by
  exact is_l0 s t L hL L.length 0 (L.length + 1) (Nat.zero_le _) rfl (by omega)

theorem cons_star (e : En) (all : Int) (there : Bool) (r : List En) :
    (e :: r).filter (fun e => decide (e.f0 = starS) || !there || decide (all < e.f1)) = if e.f0 = starS then e :: r.filter (fun e => decide (e.f0 = starS) || !there || decide (all < e.f1)) else if there = true then (if all < e.f1 then e :: r.filter (fun e => decide (e.f0 = starS) || !there || decide (all < e.f1)) else r.filter (fun e => decide (e.f0 = starS) || !there || decide (all < e.f1))) else e :: r.filter (fun e => decide (e.f0 = starS) || !there || decide (all < e.f1)) := by
  rw [List.filter_cons]
  by_cases h : e.f0 = starS <;> cases there <;> by_cases h2 : all < e.f1 <;> simp [h, h2]

theorem comp_l1 (all : Int) (there : Bool) (L : List En) (hL : L.length ≤ 1000) : ∀ (d i k : Nat) (o : List En), i ≤ L.length → L.length - i = d → d < k → o.length ≤ i →
    PFnRevocations.spec_Compact.l1 k all there o L (L.length : Int) (i : Int) = some (o ++ (L.drop i).filter fun e => decide (e.f0 = starS) || !there || decide (all < e.f1)) := by
  intro d
  induction d with
  | zero =>
    intro i k o h1 h2 h3 h4
    obtain ⟨k, rfl⟩ : ∃ m, k = m + 1 := ⟨k - 1, by omega⟩
    obtain rfl : i = L.length := by omega
    unfold PFnRevocations.spec_Compact.l1
    rw [if_neg (by omega), List.drop_length]
    simp
  | succ d ih =>
    intro i k o h1 h2 h3 h4
    obtain ⟨k, rfl⟩ : ∃ m, k = m + 1 := ⟨k - 1, by omega⟩
    have hlt : i < L.length := by omega
    have hp := ih (i + 1) k (o ++ [⟨L[i].f0, L[i].f1⟩]) (by omega) (by omega) (by omega) (by simp; omega)
    have hn := ih (i + 1) k o (by omega) (by omega) (by omega) (by omega)
    unfold PFnRevocations.spec_Compact.l1
    rw [if_pos (by omega), if_pos (by omega), if_pos (by omega), rd47 L i hlt, wrap_nat i (by omega), List.drop_eq_getElem_cons hlt, cons_star, hp, hn, if_pos (show o.length < 5864062014805 by omega)]
    by_cases h : L[i].f0 = starS
    · rw [if_pos ((eq_star _).2 h), if_pos h, List.append_assoc]; rfl
    · rw [if_neg (fun e => h ((eq_star _).1 e)), if_neg h]
      cases there with
      | false => simp only [Bool.false_eq_true, if_false]; rw [List.append_assoc]; rfl
      | true =>
        simp only [if_true]
        by_cases ht : L[i].f1 > all
        · rw [if_pos ht, if_pos ht, List.append_assoc]; rfl
        · rw [if_neg ht, if_neg ht]

/-- The last star's time. -/
def lastStar (all : Int) (there : Bool) : List En → Int × Bool
  | [] => (all, there)
  | e :: r => if e.f0 = starS then lastStar e.f1 true r else lastStar all there r

theorem comp_l0 (L : List En) (hL : L.length ≤ 1000) : ∀ (d i k : Nat) (all : Int) (there : Bool), i ≤ L.length → L.length - i = d → d + L.length + 1 < k →
    PFnRevocations.spec_Compact.l0 k L all there L (L.length : Int) (i : Int) = some (L.filter fun e => decide (e.f0 = starS) || !(lastStar all there (L.drop i)).2 || decide ((lastStar all there (L.drop i)).1 < e.f1)) := by
  intro d
  induction d with
  | zero =>
    intro i k all there h1 h2 h3
    obtain ⟨k, rfl⟩ : ∃ m, k = m + 1 := ⟨k - 1, by omega⟩
    obtain rfl : i = L.length := by omega
    unfold PFnRevocations.spec_Compact.l0
    rw [if_neg (by omega), List.drop_length]
    exact comp_l1 all there L hL L.length 0 k [] (Nat.zero_le _) rfl (by omega) (Nat.le_refl _)
  | succ d ih =>
    intro i k all there h1 h2 h3
    obtain ⟨k, rfl⟩ : ∃ m, k = m + 1 := ⟨k - 1, by omega⟩
    have hlt : i < L.length := by omega
    unfold PFnRevocations.spec_Compact.l0
    rw [if_pos (by omega), if_pos (by omega), if_pos (by omega), rd47 L i hlt, wrap_nat i (by omega), List.drop_eq_getElem_cons hlt]
    unfold lastStar
    by_cases h : L[i].f0 = starS
    · rw [if_pos ((eq_star _).2 h), if_pos h]; exact ih (i + 1) k _ _ (by omega) (by omega) (by omega)
    · rw [if_neg (fun e => h ((eq_star _).1 e)), if_neg h]; exact ih (i + 1) k _ _ (by omega) (by omega) (by omega)

theorem last_none (all : Int) (there : Bool) : ∀ L : List En, (∀ e ∈ L, e.f0 ≠ starS) → lastStar all there L = (all, there)
  | [], _ => rfl
  | e :: r, h => by
    unfold lastStar
    rw [if_neg (h e (by simp))]
    exact last_none all there r fun x hx => h x (by simp [hx])
theorem last_find : ∀ (L : List En), (L.map (·.f0)).Nodup → lastStar 0 false L = match L.find? fun e => decide (e.f0 = starS) with | none => (0, false) | some a => (a.f1, true)
  | [], _ => rfl
  | e :: r, h => by
    simp only [List.map_cons, List.nodup_cons] at h
    unfold lastStar
    rw [List.find?_cons]
    by_cases h1 : e.f0 = starS
    · rw [if_pos h1, decide_eq_true h1]
      exact last_none _ _ r fun x hx e1 => h.1 (List.mem_map.2 ⟨x, hx, by rw [e1, h1]⟩)
    · rw [if_neg h1, decide_eq_false h1]
      exact last_find r h.2

theorem compact_f (L : List En) (hL : L.length ≤ 1000) (hnd : (L.map (·.f0)).Nodup) : PFnRevocations.spec_Compact.f (2 * L.length + 2) L = some (compL L) := by
  have h := comp_l0 L hL L.length 0 (2 * L.length + 2) 0 false (Nat.zero_le _) rfl (by omega)
  rw [List.drop_zero, last_find L hnd] at h
  unfold compL
  refine h.trans ?_
  cases L.find? fun e => decide (e.f0 = starS) with
  | none => simp
  | some a => simp
end Go.Proofs.Ytnbihmagbedfmaa
