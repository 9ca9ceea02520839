/- Lists of bytes: a text within a text, the parts between points, valid subjects, plain subjects. No program in sight. -/
import Derived.Lib.Strings
namespace Go.Proofs.Ytnbihmagbedfmaa.Pl

/-- Has a text another one within? -/
def hasSub (sub : List UInt8) : List UInt8 → Bool
  | [] => sub.isPrefixOf []
  | c :: r => sub.isPrefixOf (c :: r) || hasSub sub r

theorem isPrefixOf_eq (a b : List UInt8) : a.isPrefixOf b = decide (b.take a.length = a) := by
  rw [Bool.eq_iff_iff]
  simp only [List.isPrefixOf_iff_prefix, decide_eq_true_eq]
  constructor
  · intro h; exact (List.prefix_iff_eq_take.1 h).symm
  · intro h; exact h ▸ List.take_prefix _ _

theorem hasSub_short (sub : List UInt8) : ∀ l : List UInt8, l.length < sub.length → hasSub sub l = false
  | [], h => by
    unfold hasSub
    rw [isPrefixOf_eq]
    cases sub with
    | nil => simp at h
    | cons a r => simp
  | c :: r, h => by
    unfold hasSub
    rw [isPrefixOf_eq, hasSub_short sub r (by simp at h; omega), Bool.or_false, decide_eq_false_iff_not]
    intro e
    have := congrArg List.length e
    simp at this h
    omega

theorem hasSub_mid (sub a b : List UInt8) : hasSub sub (a ++ (sub ++ b)) = true := by
  induction a with
  | nil =>
    have h : sub.isPrefixOf (sub ++ b) = true := List.isPrefixOf_iff_prefix.2 (List.prefix_append _ _)
    rw [List.nil_append]
    generalize sub ++ b = l at h
    cases l with
    | nil => exact h
    | cons c r => unfold hasSub; rw [h]; rfl
  | cons c r ih =>
    rw [List.cons_append]
    unfold hasSub
    rw [ih, Bool.or_true]

theorem hasSub_one (c : UInt8) (l : List UInt8) : hasSub [c] l = l.contains c := by
  induction l with
  | nil => rfl
  | cons x r ih =>
    unfold hasSub
    rw [ih]
    simp [List.isPrefixOf]
    rfl

/-- The parts of a text between points; cur: what the first one has already. -/
def toksA (sep : UInt8) (cur : List UInt8) : List UInt8 → List (List UInt8)
  | [] => [cur]
  | c :: r => if c = sep then cur :: toksA sep [] r else toksA sep (cur ++ [c]) r
def toks (sep : UInt8) (l : List UInt8) : List (List UInt8) := toksA sep [] l

theorem toksA_ne (sep : UInt8) (cur l : List UInt8) : toksA sep cur l ≠ [] := by
  induction l generalizing cur with
  | nil => simp [toksA]
  | cons c r ih =>
    unfold toksA
    split
    · simp
    · exact ih _

theorem toksA_length (sep : UInt8) (cur l : List UInt8) : (toksA sep cur l).length ≤ l.length + 1 := by
  induction l generalizing cur with
  | nil => simp [toksA]
  | cons c r ih =>
    unfold toksA
    split
    · simp; exact ih _
    · have := ih (cur ++ [c]); simp; omega

/-- Each byte is the point or lies in a part. -/
theorem toksA_mem (sep : UInt8) (cur l : List UInt8) (c : UInt8) (h : c ∈ cur ∨ c ∈ l) : c = sep ∨ ∃ t ∈ toksA sep cur l, c ∈ t := by
  induction l generalizing cur with
  | nil =>
    rcases h with h | h
    · exact .inr ⟨cur, by simp [toksA], h⟩
    · simp at h
  | cons x r ih =>
    unfold toksA
    split
    · rename_i hx
      rcases h with h | h
      · exact .inr ⟨cur, by simp, h⟩
      · rcases List.mem_cons.1 h with rfl | h
        · exact .inl hx
        · rcases ih [] (.inr h) with h | ⟨t, ht, hc⟩
          · exact .inl h
          · exact .inr ⟨t, List.mem_cons_of_mem _ ht, hc⟩
    · exact ih (cur ++ [x]) (by
        rcases h with h | h
        · exact .inl (List.mem_append_left _ h)
        · rcases List.mem_cons.1 h with rfl | h
          · exact .inl (by simp)
          · exact .inr h)

/-- A valid subject, as the package tells it. -/
def valid (l : List UInt8) : Bool :=
  !l.isEmpty && !hasSub [32] l && !(l.head? == some 46) && !(l.getLast? == some 46) && !hasSub [46, 46] l

theorem toksA_full (cur l : List UInt8) (h : ∀ t ∈ toksA 46 cur l, t ≠ []) :
    hasSub [46, 46] l = false ∧ (cur = [] → l.head? ≠ some 46) ∧ l.getLast? ≠ some 46 ∧ (cur = [] → l ≠ []) := by
  induction l generalizing cur with
  | nil => exact ⟨rfl, by simp, by simp, fun hc => absurd hc (h cur (by simp [toksA]))⟩
  | cons c r ih =>
    unfold toksA at h
    split at h
    · rename_i hc
      obtain ⟨h1, h2, h3, h4⟩ := ih [] (fun t ht => h t (List.mem_cons_of_mem _ ht))
      have hr := h4 rfl
      refine ⟨?_, fun hcur => absurd hcur (h cur (by simp)), ?_, by simp⟩
      · unfold hasSub
        rw [h1, Bool.or_false]
        cases r with
        | nil => exact absurd rfl hr
        | cons x q =>
          have := h2 rfl
          simp only [List.head?_cons, ne_eq, Option.some.injEq] at this
          simp [List.isPrefixOf, Ne.symm this]
      · rw [List.getLast?_cons_of_ne_nil hr]
        exact h3
    · rename_i hc
      obtain ⟨h1, h2, h3, h4⟩ := ih (cur ++ [c]) h
      refine ⟨?_, fun _ => by simp [hc], ?_, by simp⟩
      · unfold hasSub
        rw [h1, Bool.or_false]
        simp [List.isPrefixOf, Ne.symm hc]
      · cases r with
        | nil => simp [hc]
        | cons x q => rw [List.getLast?_cons_of_ne_nil (by simp)]; exact h3

/-- What a part of a plain subject may have. -/
def okc (c : UInt8) : Bool := (97 ≤ c.toNat && c.toNat ≤ 122) || (65 ≤ c.toNat && c.toNat ≤ 90) || (48 ≤ c.toNat && c.toNat ≤ 57) || c == 95 || c == 36
def okt (last : Bool) (t : List UInt8) : Bool := t == [42] || (t == [62] && last) || (t.all okc && !t.isEmpty)
def plainT : List (List UInt8) → Bool
  | [] => true
  | [t] => okt true t
  | t :: u :: r => okt false t && plainT (u :: r)
def plain (l : List UInt8) : Bool := plainT (toks 46 l) && decide (l.length ≤ 60)

theorem okt_ne {b : Bool} {t : List UInt8} (h : okt b t = true) : t ≠ [] := by
  rintro rfl
  simp [okt] at h
theorem okt_blank {b : Bool} {t : List UInt8} (h : okt b t = true) : (32 : UInt8) ∉ t := by
  simp only [okt, Bool.or_eq_true, Bool.and_eq_true, beq_iff_eq, List.all_eq_true] at h
  rcases h with (rfl | ⟨rfl, _⟩) | ⟨h, _⟩
  · decide
  · decide
  · intro hm
    have := h _ hm
    revert this
    decide
theorem plainT_mem : ∀ {l : List (List UInt8)}, plainT l = true → ∀ t ∈ l, ∃ b, okt b t = true
  | [], _, t, ht => by simp at ht
  | [u], h, t, ht => ⟨true, by rw [List.mem_singleton.1 ht]; exact h⟩
  | u :: v :: r, h, t, ht => by
    simp only [plainT, Bool.and_eq_true] at h
    rcases List.mem_cons.1 ht with rfl | ht
    · exact ⟨false, h.1⟩
    · exact plainT_mem h.2 t ht

theorem plain_no_blank {l : List UInt8} (h : plain l = true) : (32 : UInt8) ∉ l := by
  simp only [plain, Bool.and_eq_true] at h
  intro hm
  rcases toksA_mem 46 [] l 32 (.inr hm) with h1 | ⟨t, ht, hc⟩
  · exact absurd h1 (by decide)
  · obtain ⟨b, hb⟩ := plainT_mem h.1 t ht
    exact okt_blank hb hc

theorem plain_valid {l : List UInt8} (h : plain l = true) : valid l = true := by
  have hb := plain_no_blank h
  simp only [plain, Bool.and_eq_true] at h
  obtain ⟨h1, h2, h3, h4⟩ := toksA_full [] l (fun t ht => by obtain ⟨b, hb⟩ := plainT_mem h.1 t ht; exact okt_ne hb)
  have h5 := h2 rfl
  have h6 := h4 rfl
  have hs : hasSub [32] l = false := by rw [hasSub_one]; simpa using hb
  unfold valid
  rw [hs, h1]
  simp [h3, h5, h6]

theorem valid_front (l : List UInt8) : valid (46 :: l) = false := by simp [valid]
theorem valid_back (l : List UInt8) : valid (l ++ [46]) = false := by simp [valid]
theorem valid_two (a b : List UInt8) : valid (a ++ ([46, 46] ++ b)) = false := by
  unfold valid
  rw [hasSub_mid [46, 46] a b]
  simp
theorem valid_ab : valid [97, 46, 98] = true := by decide
theorem valid_nil : valid [] = false := by decide
end Go.Proofs.Ytnbihmagbedfmaa.Pl
