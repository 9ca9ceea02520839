/- Plain subjects' ends; the subjects of references that the law makes. -/
import Derived.Test.YtnbihmagbedfmaaDoorRRefs
namespace Go.Proofs.YtnbihmagbedfmaaDoorR
open Pl (hasSub toks toksA valid plain plainT okt okc join)

theorem toksA_cons (c : UInt8) (r cur : List UInt8) : toksA 46 cur (c :: r) = if c = 46 then cur :: toksA 46 [] r else toksA 46 (cur ++ [c]) r := rfl
theorem toksA_app (cur a b : List UInt8) : toksA 46 cur (a ++ 46 :: b) = toksA 46 cur a ++ toksA 46 [] b := by
  induction a generalizing cur with
  | nil => simp [toksA]
  | cons c r ih =>
    rw [List.cons_append, toksA_cons, toksA_cons c r]
    by_cases h : c = 46
    · rw [if_pos h, if_pos h, ih]; rfl
    · rw [if_neg h, if_neg h, ih]

theorem join_snoc (t : List UInt8) : ∀ I : List (List UInt8), I ≠ [] → join (I ++ [t]) = join I ++ 46 :: t
  | [], h => absurd rfl h
  | [u], _ => rfl
  | u :: v :: r, _ => by
    have ih := join_snoc t (v :: r) (by simp)
    show join (u :: (v :: r ++ [t])) = join (u :: (v :: r)) ++ 46 :: t
    rw [Pl.join_cons (t := u) (r := v :: r ++ [t]) (by simp), Pl.join_cons (t := u) (r := v :: r) (by simp), ih, List.append_assoc, List.cons_append]

theorem plainT_end : ∀ T : List (List UInt8), plainT T = true → [62] ∈ T → ∃ I, T = I ++ [[62]]
  | [], _, h => by simp at h
  | [t], _, h => ⟨[], by simp at h; simp [h]⟩
  | t :: u :: r, hp, h => by
    simp only [plainT, Bool.and_eq_true] at hp
    rcases List.mem_cons.1 h with h | h
    · rw [← h] at hp
      exact absurd hp.1 (by decide)
    · obtain ⟨I, hI⟩ := plainT_end (u :: r) hp.2 h
      exact ⟨t :: I, by rw [hI]; rfl⟩

theorem suf_plain (l : List UInt8) (h : plain l = true) : isSuf l = endT (toks 46 l) := by
  have hp : plainT (toks 46 l) = true := by
    simp only [plain, Bool.and_eq_true] at h; exact h.1
  have hj : join (toks 46 l) = l := Pl.join_toksA [] l
  rw [Bool.eq_iff_iff]
  unfold isSuf endT
  simp only [Bool.or_eq_true, beq_iff_eq, List.any_eq_true]
  constructor
  · rintro (h | h)
    · exact ⟨[62], by rw [h]; decide, rfl⟩
    · have hs : ∃ a, l = a ++ [46, 62] := by
        unfold Lib.hasSuffix at h
        have := List.isSuffixOf_iff_suffix.1 h
        obtain ⟨a, ha⟩ := this
        exact ⟨a, ha.symm⟩
      obtain ⟨a, ha⟩ := hs
      refine ⟨[62], ?_, rfl⟩
      rw [ha]
      unfold toks
      rw [toksA_app]
      exact List.mem_append_right _ (by decide)
  · rintro ⟨t, ht, rfl⟩
    obtain ⟨I, hI⟩ := plainT_end _ hp ht
    by_cases h0 : I = []
    · left
      rw [← hj, hI, h0]; rfl
    · right
      rw [← hj, hI, join_snoc _ _ h0]
      unfold Lib.hasSuffix
      exact List.isSuffixOf_iff_suffix.2 ⟨join I, rfl⟩

/-- The subject of k references. -/
def build (k : Nat) (b : Bool) : List UInt8 := 120 :: ((List.range k).flatMap fun i => [46, 36, UInt8.ofNat (49 + i)]) ++ (if b then [46, 62] else [])
theorem build_step (k : Nat) : build (k + 1) false = build k false ++ [46, 36, UInt8.ofNat (49 + k)] := by
  unfold build
  simp [List.range_succ]
theorem build_end (k : Nat) (b : Bool) : build k b = build k false ++ (if b then [46, 62] else []) := by
  unfold build
  cases b <;> simp
def badOf (fc : Nat) (l : List UInt8) : Bool := (((false || !valid l) || err fc (toks 46 l)) || !(cnt fc (toks 46 l) == fc))
def fitsOf (l : List UInt8) : Bool := !hasSub [32] l && (toks 46 l).all okTok && decide (l.length ≤ 100)
theorem build_facts (k : Nat) (hk : k ≤ 8) (b : Bool) : (fitsOf (build k b) = true ∧ isSuf (build k b) = b ∧ badOf k (build k b) = false) ∧ (fitsOf (build (k + 1) b) = true ∧ isSuf (build (k + 1) b) = b ∧ badOf k (build (k + 1) b) = true) := by
  have h : ∀ k : Fin 9, ∀ b : Bool, (fitsOf (build k.val b) = true ∧ isSuf (build k.val b) = b ∧ badOf k.val (build k.val b) = false) ∧ (fitsOf (build (k.val + 1) b) = true ∧ isSuf (build (k.val + 1) b) = b ∧ badOf k.val (build (k.val + 1) b) = true) := by decide +kernel
  exact h ⟨k, by omega⟩ b
end Go.Proofs.YtnbihmagbedfmaaDoorR
