import Derived.WalkKit
import Derived.Deep.Draws
import Derived.Test.YtnbihmagbedfmaaDoorRProg
import Derived.Defers
import Derived.Recover
import Derived.OneCell
import Derived.Lib.Hide
import Derived.Lib.Strings
import Derived.Test.YtnbihmagbedfmaaDoorRPcontainsx
import Derived.Test.YtnbihmagbedfmaaDoorRPPlainx
import Derived.Test.YtnbihmagbedfmaaDoorRPsplitx
import Derived.Test.YtnbihmagbedfmaaDoorRWMore
import Derived.Lib.OthersKept
import Derived.Deep.RegionHeld3
import Derived.Deep.AppendLies
import Derived.Test.YtnbihmagbedfmaaDoorRPzzFits3x
import Derived.Test.YtnbihmagbedfmaaDoorRPWordsx
import Derived.Laws.IdiomStrings
import Derived.Lib.ConvBytes
import Derived.Lib.Case
import Derived.Test.YtnbihmagbedfmaaDoorRShelf
import Derived.Lib.FrozenHead
/- What has turned since a call began, carried from call to call. -/
namespace Go.Proofs.YtnbihmagbedfmaaDoorR
open Go.RowKit

/-- Of what was there in w0 nothing has turned. -/
structure Acc (w0 w : World) : Prop where
  out : Below w0.heap.size w0 w
theorem Acc.refl (w : World) : Acc w w := ⟨Below.refl _ _⟩
theorem Acc.step {w0 w1 w2 : World} (h : Acc w0 w1) (k : Below w1.heap.size w1 w2) : Acc w0 w2 := ⟨h.out.trans (k.mono h.out.size)⟩
theorem Acc.alloc {w0 w1 : World} (h : Acc w0 w1) (o : Obj) : Acc w0 (w1.alloc o) := ⟨h.out.alloc h.out.size o⟩
theorem Acc.drewN {w0 w1 : World} (h : Acc w0 w1) (n : Nat) : Acc w0 (w1.drewN n) := ⟨⟨h.out.os, h.out.tape, h.out.output, h.out.size, h.out.block⟩⟩
theorem Acc.drew {w0 w1 : World} (h : Acc w0 w1) : Acc w0 w1.drew := ⟨⟨h.out.os, h.out.tape, h.out.output, h.out.size, h.out.block⟩⟩
end Go.Proofs.YtnbihmagbedfmaaDoorR
/- Contracts of impl.quietly: a function that does something and hands back true where it does not panic. -/
namespace Go.Proofs.YtnbihmagbedfmaaDoorR
open Go.RowKit

theorem quiet_idle (p : Addr) (w : World) :
    CallsD Tryd.prog 45 #[.pointer (some p)] .returning w fun e u' w' => e = .returned (.tuple #[]) ∧ u' = .returning ∧ w' = w := by
  refine callsD_of_wpS Tryd.func45 rfl fun c₀ cs hu => ?_
  apply wpS_seq
  apply wpS_region
  simp [wpOpsS, go_sem, recoverD, hu, Tryd.ntmps45, Exit.thenS]
  refine wpS_cond (t := false) (by simp [Act.eval, Array.replicate]) ?_
  simp only [Bool.false_eq_true, if_false]
  refine wpS_of_wp (wp_skip ?_)
  cases c₀
  simp_all [bodyPostS, results, Tryd.results45]

theorem quiet_any (g : FuncId) (cap : Array Value) (w : World) (Q : World → Prop)
    (hent : ∀ W : World, (callFunc g cap).run Tryd.prog W = .ok (.enter g cap) W)
    (hg : Calls Tryd.prog g cap (w.alloc (.cells #[.bool false] 4)) fun e w' => e = .returned (.tuple #[]) ∧ w'.heap[w.heap.size]? = some (.cells #[.bool false] 4 (0, 0)) ∧ Q w') :
    Calls Tryd.prog 26 #[.func (.func g) #[] cap] w fun e w' => e = .returned (.bool true) ∧ ∃ w1, w1.heap[w.heap.size]? = some (.cells #[.bool false] 4 (0, 0)) ∧ Q w1 ∧ w' = w1.setCell ⟨w.heap.size, 0, none⟩ (.bool true) := by
  have hmf : ∀ (fn : Fn) (first cap : Array Value) (w : World), (Instr.makeFunc fn first cap).run Tryd.prog w = .ok (.func fn first cap) w := fun _ _ _ _ => rfl
  go_enter_defers Tryd.func26, Tryd.ntmps26
  go_wp2_with (with_reducible refine hg.mono ?_; rintro e w1 ⟨rfl, hb, hq⟩; have hc := cell_of_one hb; have hf := free_of_one hb; have HB := Lib.hid hb; clear hb)
  refine leaves_cons (f := 45) (args := #[.pointer (some ⟨w.heap.size, 0, none⟩)]) (by simp) (by simp [go_sem]) ?_
  refine (quiet_idle ⟨w.heap.size, 0, none⟩ _).mono ?_
  rintro e u' w'' ⟨rfl, rfl, rfl⟩
  simp [Leaves, settle, results, Tryd.results26, go_sem, hc]
  exact ⟨w1, HB.out, hq, rfl⟩
end Go.Proofs.YtnbihmagbedfmaaDoorR
/- Lists of bytes: a text within a text, the parts between points, valid subjects, plain subjects. No program in sight. -/
namespace Go.Proofs.YtnbihmagbedfmaaDoorR.Pl

/-- Has a text another one within? -/
def hasSub (sub : List UInt8) : List UInt8 → Bool
  | [] => sub.isPrefixOf []
  | c :: r => sub.isPrefixOf (c :: r) || hasSub sub r

theorem isPrefixOf_eq (a b : List UInt8) : a.isPrefixOf b = decide (b.take a.length = a) := by
  rw [Bool.eq_iff_iff]
  simp only [List.isPrefixOf_iff_prefix, decide_eq_true_eq]
  constructor
  · intro h; exact (List.prefix_iff_eq_take.1 h).symm
  · intro h; exact h ▸ List.take_prefix _ _

theorem hasSub_short (sub : List UInt8) : ∀ l : List UInt8, l.length < sub.length → hasSub sub l = false
  | [], h => by
    unfold hasSub
    rw [isPrefixOf_eq]
    cases sub with
    | nil => simp at h
    | cons a r => simp
  | c :: r, h => by
    unfold hasSub
    rw [isPrefixOf_eq, hasSub_short sub r (by simp at h; omega), Bool.or_false, decide_eq_false_iff_not]
    intro e
    have := congrArg List.length e
    simp at this h
    omega

theorem hasSub_mid (sub a b : List UInt8) : hasSub sub (a ++ (sub ++ b)) = true := by
  induction a with
  | nil =>
    have h : sub.isPrefixOf (sub ++ b) = true := List.isPrefixOf_iff_prefix.2 (List.prefix_append _ _)
    rw [List.nil_append]
    generalize sub ++ b = l at h
    cases l with
    | nil => exact h
    | cons c r => unfold hasSub; rw [h]; rfl
  | cons c r ih =>
    rw [List.cons_append]
    unfold hasSub
    rw [ih, Bool.or_true]

theorem hasSub_one (c : UInt8) (l : List UInt8) : hasSub [c] l = l.contains c := by
  induction l with
  | nil => rfl
  | cons x r ih =>
    unfold hasSub
    rw [ih]
    simp [List.isPrefixOf]
    rfl

/-- The parts of a text between points; cur: what the first one has already. -/
def toksA (sep : UInt8) (cur : List UInt8) : List UInt8 → List (List UInt8)
  | [] => [cur]
  | c :: r => if c = sep then cur :: toksA sep [] r else toksA sep (cur ++ [c]) r
def toks (sep : UInt8) (l : List UInt8) : List (List UInt8) := toksA sep [] l

theorem toksA_ne (sep : UInt8) (cur l : List UInt8) : toksA sep cur l ≠ [] := by
  induction l generalizing cur with
  | nil => simp [toksA]
  | cons c r ih =>
    unfold toksA
    split
    · simp
    · exact ih _

theorem toksA_length (sep : UInt8) (cur l : List UInt8) : (toksA sep cur l).length ≤ l.length + 1 := by
  induction l generalizing cur with
  | nil => simp [toksA]
  | cons c r ih =>
    unfold toksA
    split
    · simp; exact ih _
    · have := ih (cur ++ [c]); simp; omega

/-- Each byte is the point or lies in a part. -/
theorem toksA_mem (sep : UInt8) (cur l : List UInt8) (c : UInt8) (h : c ∈ cur ∨ c ∈ l) : c = sep ∨ ∃ t ∈ toksA sep cur l, c ∈ t := by
  induction l generalizing cur with
  | nil =>
    rcases h with h | h
    · exact .inr ⟨cur, by simp [toksA], h⟩
    · simp at h
  | cons x r ih =>
    unfold toksA
    split
    · rename_i hx
      rcases h with h | h
      · exact .inr ⟨cur, by simp, h⟩
      · rcases List.mem_cons.1 h with rfl | h
        · exact .inl hx
        · rcases ih [] (.inr h) with h | ⟨t, ht, hc⟩
          · exact .inl h
          · exact .inr ⟨t, List.mem_cons_of_mem _ ht, hc⟩
    · exact ih (cur ++ [x]) (by
        rcases h with h | h
        · exact .inl (List.mem_append_left _ h)
        · rcases List.mem_cons.1 h with rfl | h
          · exact .inl (by simp)
          · exact .inr h)

/-- A valid subject, as the package tells it. -/
def valid (l : List UInt8) : Bool :=
  !l.isEmpty && !hasSub [32] l && !(l.head? == some 46) && !(l.getLast? == some 46) && !hasSub [46, 46] l

theorem toksA_full (cur l : List UInt8) (h : ∀ t ∈ toksA 46 cur l, t ≠ []) :
    hasSub [46, 46] l = false ∧ (cur = [] → l.head? ≠ some 46) ∧ l.getLast? ≠ some 46 ∧ (cur = [] → l ≠ []) := by
  induction l generalizing cur with
  | nil => exact ⟨rfl, by simp, by simp, fun hc => absurd hc (h cur (by simp [toksA]))⟩
  | cons c r ih =>
    unfold toksA at h
    split at h
    · rename_i hc
      obtain ⟨h1, h2, h3, h4⟩ := ih [] (fun t ht => h t (List.mem_cons_of_mem _ ht))
      have hr := h4 rfl
      refine ⟨?_, fun hcur => absurd hcur (h cur (by simp)), ?_, by simp⟩
      · unfold hasSub
        rw [h1, Bool.or_false]
        cases r with
        | nil => exact absurd rfl hr
        | cons x q =>
          have := h2 rfl
          simp only [List.head?_cons, ne_eq, Option.some.injEq] at this
          simp [List.isPrefixOf, Ne.symm this]
      · rw [List.getLast?_cons_of_ne_nil hr]
        exact h3
    · rename_i hc
      obtain ⟨h1, h2, h3, h4⟩ := ih (cur ++ [c]) h
      refine ⟨?_, fun _ => by simp [hc], ?_, by simp⟩
      · unfold hasSub
        rw [h1, Bool.or_false]
        simp [List.isPrefixOf, Ne.symm hc]
      · cases r with
        | nil => simp [hc]
        | cons x q => rw [List.getLast?_cons_of_ne_nil (by simp)]; exact h3

/-- What a part of a plain subject may have. -/
def okc (c : UInt8) : Bool := (97 ≤ c.toNat && c.toNat ≤ 122) || (65 ≤ c.toNat && c.toNat ≤ 90) || (48 ≤ c.toNat && c.toNat ≤ 57) || c == 95 || c == 36
def okt (last : Bool) (t : List UInt8) : Bool := t == [42] || (t == [62] && last) || (t.all okc && !t.isEmpty)
def plainT : List (List UInt8) → Bool
  | [] => true
  | [t] => okt true t
  | t :: u :: r => okt false t && plainT (u :: r)
def plain (l : List UInt8) : Bool := plainT (toks 46 l) && decide (l.length ≤ 60)

theorem okt_ne {b : Bool} {t : List UInt8} (h : okt b t = true) : t ≠ [] := by
  rintro rfl
  simp [okt] at h
theorem okt_blank {b : Bool} {t : List UInt8} (h : okt b t = true) : (32 : UInt8) ∉ t := by
  simp only [okt, Bool.or_eq_true, Bool.and_eq_true, beq_iff_eq, List.all_eq_true] at h
  rcases h with (rfl | ⟨rfl, _⟩) | ⟨h, _⟩
  · decide
  · decide
  · intro hm
    have := h _ hm
    revert this
    decide
theorem plainT_mem : ∀ {l : List (List UInt8)}, plainT l = true → ∀ t ∈ l, ∃ b, okt b t = true
  | [], _, t, ht => by simp at ht
  | [u], h, t, ht => ⟨true, by rw [List.mem_singleton.1 ht]; exact h⟩
  | u :: v :: r, h, t, ht => by
    simp only [plainT, Bool.and_eq_true] at h
    rcases List.mem_cons.1 ht with rfl | ht
    · exact ⟨false, h.1⟩
    · exact plainT_mem h.2 t ht

theorem plain_no_blank {l : List UInt8} (h : plain l = true) : (32 : UInt8) ∉ l := by
  simp only [plain, Bool.and_eq_true] at h
  intro hm
  rcases toksA_mem 46 [] l 32 (.inr hm) with h1 | ⟨t, ht, hc⟩
  · exact absurd h1 (by decide)
  · obtain ⟨b, hb⟩ := plainT_mem h.1 t ht
    exact okt_blank hb hc

theorem plain_valid {l : List UInt8} (h : plain l = true) : valid l = true := by
  have hb := plain_no_blank h
  simp only [plain, Bool.and_eq_true] at h
  obtain ⟨h1, h2, h3, h4⟩ := toksA_full [] l (fun t ht => by obtain ⟨b, hb⟩ := plainT_mem h.1 t ht; exact okt_ne hb)
  have h5 := h2 rfl
  have h6 := h4 rfl
  have hs : hasSub [32] l = false := by rw [hasSub_one]; simpa using hb
  unfold valid
  rw [hs, h1]
  simp [h3, h5, h6]

theorem valid_front (l : List UInt8) : valid (46 :: l) = false := by simp [valid]
theorem valid_back (l : List UInt8) : valid (l ++ [46]) = false := by simp [valid]
theorem valid_two (a b : List UInt8) : valid (a ++ ([46, 46] ++ b)) = false := by
  unfold valid
  rw [hasSub_mid [46, 46] a b]
  simp
theorem valid_ab : valid [97, 46, 98] = true := by decide
theorem valid_nil : valid [] = false := by decide
end Go.Proofs.YtnbihmagbedfmaaDoorR.Pl
/- What the printed functions contains, Tokens, Plain, split come to, in lists; and contracts of them in those words. -/
namespace Go.Proofs.YtnbihmagbedfmaaDoorR
open Go.RowKit Go.Proofs.YtnbihmagbedfmaaDoorRW.PrintWords
open Pl (hasSub toks toksA valid plain plainT okt okc)

def big : Nat := 4294967296
theorem wrap_in {x : Int} (h0 : 0 ≤ x) (h1 : x ≤ 9000000000000000000) : wrap64 x = x := by unfold wrap64; omega

theorem drop_cons (s : ByteArray) (i : Nat) (h : i < s.size) : s.data.toList.drop i = s[i] :: s.data.toList.drop (i + 1) := by
  rw [List.drop_eq_getElem_cons (by rw [data_length]; exact h)]
  rfl

theorem contains_l0 (s sub : ByteArray) (hs : s.size ≤ big) (hb : sub.size ≤ big) : ∀ (d k i : Nat), i ≤ s.size → s.size - i = d → d < k →
    Pcontains.natsjwt_contains.l0 k s sub (i : Int) = some (hasSub sub.data.toList (s.data.toList.drop i)) := by
  unfold big at hs hb
  intro d
  induction d with
  | zero =>
    intro k i h1 h2 h3
    obtain ⟨k, rfl⟩ : ∃ m, k = m + 1 := ⟨k - 1, by omega⟩
    obtain rfl : i = s.size := by omega
    simp only [Pcontains.natsjwt_contains.l0]
    rw [wrap_in (by omega) (by omega)]
    have hd : s.data.toList.drop s.size = [] := List.drop_of_length_le (by rw [data_length]; exact Nat.le_refl _)
    rw [hd]
    by_cases hz : sub.size = 0
    · have he : sub.data.toList = [] := List.eq_nil_of_length_eq_zero (by rw [data_length]; exact hz)
      rw [if_pos (by omega), if_pos (by omega), if_pos (by omega), if_pos ?_, he]
      · rfl
      · rw [Lib.extract_toList, Lib.toList_data, he, Int.toNat_natCast, hd, List.take_nil]
    · rw [if_neg (by omega), Pl.hasSub_short _ _ (by rw [data_length]; simp; omega)]
  | succ d ih =>
    intro k i h1 h2 h3
    obtain ⟨k, rfl⟩ : ∃ m, k = m + 1 := ⟨k - 1, by omega⟩
    simp only [Pcontains.natsjwt_contains.l0]
    rw [wrap_in (x := (i : Int) + sub.size) (by omega) (by omega)]
    by_cases hle : i + sub.size ≤ s.size
    · rw [if_pos (by omega), if_pos (by omega), if_pos (by omega)]
      have he : ((s.extract ((i : Int)).toNat ((i : Int) + (sub.size : Int)).toNat).toList = sub.toList) ↔ (sub.data.toList.isPrefixOf (s.data.toList.drop i) = true) := by
        rw [Lib.extract_toList, Lib.toList_data, Pl.isPrefixOf_eq, decide_eq_true_eq, data_length]
        have : ((i : Int) + (sub.size : Int)).toNat - ((i : Int)).toNat = sub.size := by omega
        rw [this, Int.toNat_natCast]
      rw [drop_cons s i (by omega)] at he ⊢
      unfold hasSub
      by_cases hp : sub.data.toList.isPrefixOf (s[i] :: s.data.toList.drop (i + 1)) = true
      · rw [if_pos (he.2 hp), hp, Bool.true_or]
      · rw [if_neg (fun h => hp (he.1 h)), (Bool.eq_false_iff.2 hp : sub.data.toList.isPrefixOf (s[i] :: s.data.toList.drop (i + 1)) = false), Bool.false_or, wrap_in (by omega) (by omega)]
        exact ih k (i + 1) (by omega) (by omega) (by omega)
    · rw [if_neg (by omega), Pl.hasSub_short _ _ (by rw [data_length, List.length_drop, data_length]; omega)]

theorem contains_any (s sub : ByteArray) (hs : s.size ≤ big) (hb : sub.size ≤ big) (w : World) :
    Calls Tryd.prog 50 #[.string s, .string sub] w fun e w' => e = .returned (.bool (hasSub sub.data.toList s.data.toList)) ∧ Drawn0 w w' :=
  Pcontains.natsjwt_contains.calls (s.size + 1) s sub _ w (contains_l0 s sub hs hb s.size (s.size + 1) 0 (by omega) (by omega) (by omega))

/-- The bytes of each text of a list. -/
def lists (r : List ByteArray) : List (List UInt8) := r.map fun b => b.data.toList
theorem lists_append (a b : List ByteArray) : lists (a ++ b) = lists a ++ lists b := by simp [lists]
theorem lists_one (a : ByteArray) : lists [a] = [a.data.toList] := rfl

theorem extract_take (s : ByteArray) (i : Nat) : (s.extract 0 i).data.toList = s.data.toList.take i := by
  rw [Lib.extract_data]; simp
theorem extract_rest (s : ByteArray) (i : Nat) : (s.extract i s.size).data.toList = s.data.toList.drop i := by
  rw [Lib.extract_data]; exact List.take_of_length_le (by rw [List.length_drop, data_length]; exact Nat.le_refl _)
theorem extract_size (s : ByteArray) (i : Nat) : (s.extract i s.size).size = s.size - i := by
  rw [← data_length, extract_rest, List.length_drop, data_length]
theorem take_snoc (s : ByteArray) (i : Nat) (h : i < s.size) : s.data.toList.take (i + 1) = s.data.toList.take i ++ [s[i]] := by
  rw [List.take_succ_eq_append_getElem (by rw [data_length]; exact h)]; rfl

theorem split_l0 (c : UInt8) (sub : ByteArray) (hsub : sub.data.toList = [c]) : ∀ (d k : Nat) (s : ByteArray) (out : List ByteArray) (i : Nat), i ≤ s.size → s.size - i = d → d < k → s.size ≤ big → out.length + d ≤ big →
    ∃ r, Psplit.natsjwt_split.l0 k s sub out (i : Int) = some r ∧ lists r = lists out ++ toksA c (s.data.toList.take i) (s.data.toList.drop i) := by
  have hsz : sub.size = 1 := by rw [← data_length, hsub]; rfl
  unfold big
  intro d
  induction d with
  | zero =>
    intro k s out i h1 h2 h3 h4 h5
    obtain ⟨k, rfl⟩ : ∃ m, k = m + 1 := ⟨k - 1, by omega⟩
    obtain rfl : i = s.size := by omega
    simp only [Psplit.natsjwt_split.l0]
    rw [hsz, wrap_in (by omega) (by omega), if_neg (by omega), if_pos (by omega)]
    refine ⟨_, rfl, ?_⟩
    rw [lists_append, lists_one]
    have hd : s.data.toList.drop s.size = [] := List.drop_of_length_le (by rw [data_length]; exact Nat.le_refl _)
    have ht : s.data.toList.take s.size = s.data.toList := List.take_of_length_le (by rw [data_length]; exact Nat.le_refl _)
    rw [hd, ht]
    rfl
  | succ d ih =>
    intro k s out i h1 h2 h3 h4 h5
    obtain ⟨k, rfl⟩ : ∃ m, k = m + 1 := ⟨k - 1, by omega⟩
    simp only [Psplit.natsjwt_split.l0]
    have e1 : ((1 : Nat) : Int) = 1 := rfl
    rw [hsz, wrap_in (x := (i : Int) + ((1 : Nat) : Int)) (by omega) (by omega), e1, if_pos (by omega), if_pos (by omega), if_pos (by omega)]
    have hlt : i < s.size := by omega
    have he : (s.extract ((i : Int)).toNat ((i : Int) + 1).toNat).toList = [s[i]] := by
      rw [Lib.extract_toList]
      have h1 : ((i : Int) + 1).toNat - ((i : Int)).toNat = 1 := by omega
      rw [h1, Int.toNat_natCast, drop_cons s i hlt]
      rfl
    rw [he, Lib.toList_data, hsub, drop_cons s i hlt]
    unfold toksA
    by_cases hc : s[i] = c
    · rw [if_pos (by rw [hc]), if_pos (by omega), if_pos (by omega), if_pos (by omega), if_pos hc]
      have e2 : ((i : Int) + 1).toNat = i + 1 := by omega
      rw [e2, Int.toNat_natCast]
      obtain ⟨r, hr, hl⟩ := ih k (s.extract (i + 1) s.size) (out ++ [s.extract 0 i]) 0 (Nat.zero_le _) (by rw [extract_size]; omega) (by omega) (by rw [extract_size]; omega) (by simp; omega)
      refine ⟨r, hr, ?_⟩
      rw [hl, lists_append, lists_one, extract_take, extract_rest]
      simp
    · rw [if_neg (by simpa using hc), if_neg hc]
      have e2 : ((i : Int) + 1) = ((i + 1 : Nat) : Int) := by omega
      rw [e2, wrap_in (by omega) (by omega)]
      obtain ⟨r, hr, hl⟩ := ih k s out (i + 1) (by omega) (by omega) (by omega) h4 (by omega)
      exact ⟨r, hr, by rw [hl, take_snoc s i hlt]⟩

theorem split_f (c : UInt8) (s sub : ByteArray) (hsub : sub.data.toList = [c]) (hs : s.size ≤ big) :
    ∃ r, Psplit.natsjwt_split.f (s.size + 1) s sub = some r ∧ lists r = toks c s.data.toList := by
  obtain ⟨r, h, hl⟩ := split_l0 c sub hsub s.size (s.size + 1) s [] 0 (Nat.zero_le _) rfl (Nat.lt_succ_self _) hs (by simpa using hs)
  exact ⟨r, h, hl⟩

theorem tokens_l0 (s : ByteArray) (hs : s.size ≤ big) : ∀ (d k : Nat) (out : List ByteArray) (a i : Nat), a ≤ i → i ≤ s.size → s.size - i = d → d + 1 < k → out.length + d ≤ big →
    ∃ r, PPlain.spec_Tokens.l0 k s out (a : Int) (i : Int) = some r ∧ lists r = lists out ++ toksA 46 ((s.data.toList.drop a).take (i - a)) (s.data.toList.drop i) := by
  unfold big at *
  intro d
  induction d with
  | zero =>
    intro k out a i ha h1 h2 h3 h5
    obtain ⟨k, rfl⟩ : ∃ m, k = m + 2 := ⟨k - 2, by omega⟩
    obtain rfl : i = s.size := by omega
    unfold PPlain.spec_Tokens.l0
    rw [if_pos (by omega), if_pos rfl, if_pos (by omega), if_pos (by omega), if_pos (by omega), wrap_in (by omega) (by omega)]
    unfold PPlain.spec_Tokens.l0
    rw [if_neg (by omega)]
    refine ⟨_, rfl, ?_⟩
    rw [lists_append, lists_one, Lib.extract_data]
    have hd : s.data.toList.drop s.size = [] := List.drop_of_length_le (by rw [data_length]; exact Nat.le_refl _)
    rw [hd]
    simp [toksA]
  | succ d ih =>
    intro k out a i ha h1 h2 h3 h5
    obtain ⟨k, rfl⟩ : ∃ m, k = m + 1 := ⟨k - 1, by omega⟩
    have hlt : i < s.size := by omega
    unfold PPlain.spec_Tokens.l0
    rw [if_pos (by omega), if_neg (by omega), if_pos (by omega), if_pos (by omega), drop_cons s i hlt]
    have hbt : bt s (i : Int) = (s[i].toNat : Int) := by
      unfold bt
      rw [dif_pos (by simpa using hlt)]
      simp
    have e2 : ((i : Int) + 1) = ((i + 1 : Nat) : Int) := by omega
    rw [e2, wrap_in (by omega) (by omega), hbt]
    unfold toksA
    by_cases hc : s[i] = 46
    · rw [if_pos (by rw [hc]; rfl), if_pos (by omega), if_pos (by omega), if_pos (by omega), if_pos hc]
      obtain ⟨r, hr, hl⟩ := ih k (out ++ [s.extract (a : Int).toNat (i : Int).toNat]) (i + 1) (i + 1) (Nat.le_refl _) (by omega) (by omega) (by omega) (by simp; omega)
      refine ⟨r, hr, ?_⟩
      rw [hl, lists_append, lists_one, Lib.extract_data]
      simp
    · have hn : ¬ (s[i].toNat : Int) = 46 := fun h => hc (UInt8.toNat_inj.1 (by simpa using (by omega : s[i].toNat = 46)))
      rw [if_neg hn, if_neg hc]
      obtain ⟨r, hr, hl⟩ := ih k out a (i + 1) (by omega) (by omega) (by omega) (by omega) (by omega)
      refine ⟨r, hr, ?_⟩
      rw [hl]
      congr 2
      have e3 : i + 1 - a = (i - a) + 1 := by omega
      rw [e3, List.take_succ_eq_append_getElem (by rw [List.length_drop, data_length]; omega)]
      congr 1
      rw [List.getElem_drop]
      simp only [show a + (i - a) = i from by omega]
      rfl

theorem tokens_f (s : ByteArray) (hs : s.size ≤ big) : ∃ r, PPlain.spec_Tokens.f (s.size + 2) s = some r ∧ lists r = toks 46 s.data.toList := by
  obtain ⟨r, h, hl⟩ := tokens_l0 s hs s.size (s.size + 2) [] 0 0 (Nat.le_refl _) (Nat.zero_le _) rfl (by omega) (by simpa using hs)
  exact ⟨r, h, hl⟩

theorem bt_get (s : ByteArray) (i : Nat) (h : i < s.size) : bt s (i : Int) = (s[i].toNat : Int) := by
  unfold bt
  rw [dif_pos (by simpa using h)]
  simp

theorem okc_iff (c : UInt8) : okc c = true ↔ (97 ≤ c.toNat ∧ c.toNat ≤ 122) ∨ (65 ≤ c.toNat ∧ c.toNat ≤ 90) ∨ (48 ≤ c.toNat ∧ c.toNat ≤ 57) ∨ c.toNat = 95 ∨ c.toNat = 36 := by
  have h : ∀ n : Nat, n < 256 → ((c = UInt8.ofNat n) ↔ c.toNat = n) := fun n hn => by
    constructor
    · rintro rfl; simp; omega
    · intro h; apply UInt8.toNat_inj.1; rw [h]; simp; omega
  have h1 : c = 95 ↔ c.toNat = 95 := h 95 (by omega)
  have h2 : c = 36 ↔ c.toNat = 36 := h 36 (by omega)
  unfold okc
  simp only [Bool.or_eq_true, Bool.and_eq_true, decide_eq_true_eq, beq_iff_eq, h1, h2]
  omega

section
open PPlain
theorem plain_l1 (x0 t : ByteArray) (x3 x10 : List ByteArray) (x11 x12 : Int) (k1 : Nat) (r : Bool) (ht : t.size ≤ big) (hn : spec_Plain.l0 k1 x0 x3 x10 x11 (wrap64 (x12 + 1)) = some r) : ∀ (d j : Nat), j ≤ t.size → t.size - j = d →
    spec_Plain.l1 (k1 + d + 1) x0 x3 t x10 x11 x12 (t.size : Int) (j : Int) = some ((t.data.toList.drop j).all okc && (!t.data.toList.isEmpty && r)) := by
  unfold big at ht
  intro d
  induction d with
  | zero =>
    intro j h1 h2
    obtain rfl : j = t.size := by omega
    have hd : t.data.toList.drop t.size = [] := List.drop_of_length_le (by rw [data_length]; exact Nat.le_refl _)
    unfold spec_Plain.l1
    rw [if_neg (by omega), hd, Lib.toList_data]
    by_cases he : t.data.toList = []
    · rw [if_pos he, he]; rfl
    · have he' : t.data.toList.isEmpty = false := by simpa using he
      rw [if_neg he, he', List.all_nil, Bool.true_and, Bool.not_false, Bool.true_and]
      exact hn
  | succ d ih =>
    intro j h1 h2
    have hlt : j < t.size := by omega
    have ih' := ih (j + 1) (by omega) (by omega)
    have e2 : ((j : Int) + 1) = ((j + 1 : Nat) : Int) := by omega
    have hw : wrap64 ((j : Int) + 1) = ((j + 1 : Nat) : Int) := by rw [e2, wrap_in (by omega) (by omega)]
    have hgo : ∀ b : Bool, okc t[j] = b → ((t.data.toList.drop j).all okc && (!t.data.toList.isEmpty && r)) = (b && ((t.data.toList.drop (j + 1)).all okc && (!t.data.toList.isEmpty && r))) := by
      intro b hb
      rw [drop_cons t j hlt, List.all_cons, hb, Bool.and_assoc]
    have hok := okc_iff t[j]
    have hb := bt_get t j hlt
    show spec_Plain.l1 ((k1 + d + 1) + 1) x0 x3 t x10 x11 x12 (t.size : Int) (j : Int) = _
    unfold spec_Plain.l1
    rw [hw, hb, if_pos (by omega), if_pos (by omega), if_pos (by omega)]
    cases hc : okc t[j] with
    | true =>
      have hk := hok.1 hc
      rw [hgo true hc, Bool.true_and, ← ih']
      generalize t[j].toNat = n at hk
      generalize spec_Plain.l1 (k1 + d + 1) x0 x3 t x10 x11 x12 (t.size : Int) ((j + 1 : Nat) : Int) = g
      repeat' split
      all_goals first | rfl | (exfalso; omega)
    | false =>
      have hk : ¬ _ := fun h => Bool.false_ne_true (hc.symm.trans (hok.2 h))
      rw [hgo false hc, Bool.false_and]
      generalize t[j].toNat = n at hk
      generalize spec_Plain.l1 (k1 + d + 1) x0 x3 t x10 x11 x12 (t.size : Int) ((j + 1 : Nat) : Int) = g
      repeat' split
      all_goals first | rfl | (exfalso; omega)

theorem plainT_cons (t : List UInt8) (r : List (List UInt8)) : plainT (t :: r) = (okt r.isEmpty t && plainT r) := by
  cases r with
  | nil => simp [plainT]
  | cons u v => simp [plainT]

theorem plain_l0 (s : ByteArray) (x : List ByteArray) (hl : x.length ≤ big) (hx : ∀ t ∈ x, t.size ≤ big) : ∀ (d i : Nat), i ≤ x.length → x.length - i = d →
    ∃ k, spec_Plain.l0 k s x x (x.length : Int) (i : Int) = some (plainT (lists (x.drop i)) && decide (s.size ≤ 60)) := by
  unfold big at hl
  intro d
  induction d with
  | zero =>
    intro i h1 h2
    obtain rfl : i = x.length := by omega
    refine ⟨1, ?_⟩
    unfold spec_Plain.l0
    rw [if_neg (by omega), List.drop_length]
    have : decide ((s.size : Int) ≤ 60) = decide (s.size ≤ 60) := by rw [decide_eq_decide]; omega
    rw [this]
    rfl
  | succ d ih =>
    intro i h1 h2
    have hlt : i < x.length := by omega
    obtain ⟨k1, hk1⟩ := ih (i + 1) (by omega) (by omega)
    have e2 : ((i : Int) + 1) = ((i + 1 : Nat) : Int) := by omega
    have hw : wrap64 ((i : Int) + 1) = ((i + 1 : Nat) : Int) := by rw [e2, wrap_in (by omega) (by omega)]
    have hlast : ((i : Int) == wrap64 ((x.length : Int) - 1)) = (lists (x.drop (i + 1))).isEmpty := by
      rw [wrap_in (by omega) (by omega), Bool.eq_iff_iff]
      simp only [beq_iff_eq, lists, List.isEmpty_iff, List.map_eq_nil_iff, List.drop_eq_nil_iff]
      omega
    have hrd : rdOf ByteArray.empty x (i : Int) = x[i] := by simp [rdOf, List.getD_eq_getElem?_getD, List.getElem?_eq_getElem hlt]
    have hd : lists (x.drop i) = x[i].data.toList :: lists (x.drop (i + 1)) := by
      rw [List.drop_eq_getElem_cons hlt]; rfl
    have ht := hx x[i] (List.getElem_mem hlt)
    have hch := plain_l1 s x[i] x x (x.length : Int) (i : Int) k1 _ ht (by rw [hw]; exact hk1) x[i].size 0 (Nat.zero_le _) rfl
    have hj : ∀ k, spec_Plain.j1 (k + 1) s x x[i] x (x.length : Int) (i : Int) true = spec_Plain.l0 k s x x (x.length : Int) ((i + 1 : Nat) : Int) := by
      intro k; unfold spec_Plain.j1; rw [if_pos rfl, hw]
    have hj2 : ∀ k, spec_Plain.j1 (k + 1) s x x[i] x (x.length : Int) (i : Int) false = spec_Plain.l1 k s x x[i] x (x.length : Int) (i : Int) (x[i].size : Int) 0 := by
      intro k; unfold spec_Plain.j1; rw [if_neg (by simp)]
    rw [hd, plainT_cons]
    have hfin : (okt (lists (x.drop (i + 1))).isEmpty x[i].data.toList && plainT (lists (x.drop (i + 1))) && decide (s.size ≤ 60)) = (okt (lists (x.drop (i + 1))).isEmpty x[i].data.toList && (plainT (lists (x.drop (i + 1))) && decide (s.size ≤ 60))) := Bool.and_assoc _ _ _
    rw [hfin]
    generalize hr : (plainT (lists (x.drop (i + 1))) && decide (s.size ≤ 60)) = r at *
    generalize (lists (x.drop (i + 1))).isEmpty = la at *
    have hword : ∀ (a : ByteArray), a.toList = a.data.toList := Lib.toList_data
    by_cases h42 : x[i].data.toList = [42]
    · refine ⟨k1 + 2, ?_⟩
      unfold spec_Plain.l0
      rw [hrd, if_pos (by omega), if_pos (by omega), if_pos (by omega), hword, if_pos h42, hj, hk1, h42]
      simp [okt]
    · by_cases h62 : x[i].data.toList = [62]
      · cases hla : la with
        | true =>
          refine ⟨k1 + 2, ?_⟩
          unfold spec_Plain.l0
          rw [hrd, if_pos (by omega), if_pos (by omega), if_pos (by omega), hword, if_neg h42, if_pos h62, hlast, hla, hj, hk1, h62]
          simp [okt]
        | false =>
          refine ⟨k1 + x[i].size + 1 + 2, ?_⟩
          unfold spec_Plain.l0
          rw [hrd, if_pos (by omega), if_pos (by omega), if_pos (by omega), hword, if_neg h42, if_pos h62, hlast, hla, hj2]
          have := hch
          rw [List.drop_zero] at this
          refine this.trans ?_
          rw [h62]
          congr 1
      · refine ⟨k1 + x[i].size + 1 + 2, ?_⟩
        unfold spec_Plain.l0
        rw [hrd, if_pos (by omega), if_pos (by omega), if_pos (by omega), hword, if_neg h42, if_neg h62, hj2]
        have := hch
        rw [List.drop_zero] at this
        refine this.trans ?_
        unfold okt
        rw [beq_eq_false_iff_ne.2 h42, beq_eq_false_iff_ne.2 h62, Bool.false_and, Bool.false_or, Bool.false_or, Bool.and_assoc]

theorem tok_size (l : List UInt8) (cur : List UInt8) : ∀ t ∈ toksA 46 cur l, t.length ≤ cur.length + l.length := by
  induction l generalizing cur with
  | nil => intro t ht; simp [toksA] at ht; subst ht; simp
  | cons c r ih =>
    intro t ht
    unfold toksA at ht
    split at ht
    · rcases List.mem_cons.1 ht with rfl | ht
      · simp
      · have := ih [] t ht; simp at this ⊢; omega
    · have := ih _ t ht; simp at this ⊢; omega

theorem plain_f (s : ByteArray) (hs : s.size ≤ 2147483647) : ∃ k, spec_Plain.f k s = some (plain s.data.toList) := by
  obtain ⟨x, hx, hl⟩ := tokens_f s (by unfold big; omega)
  have hlen : x.length = (toks 46 s.data.toList).length := by rw [← hl]; simp [lists]
  have hle := Pl.toksA_length 46 [] s.data.toList
  rw [data_length] at hle
  obtain ⟨k, hk⟩ := plain_l0 s x (by unfold big; rw [hlen]; unfold toks; omega) (fun t ht => by
    have h1 : t.data.toList ∈ toks 46 s.data.toList := by rw [← hl]; exact List.mem_map_of_mem ht
    have h2 := tok_size s.data.toList [] _ h1
    rw [data_length, data_length] at h2
    unfold big; simp at h2; omega) x.length 0 (Nat.zero_le _) rfl
  refine ⟨max (s.size + 2) k, ?_⟩
  unfold spec_Plain.f
  rw [at_rounds (g := fun k => spec_Tokens.f k s) (fun k => spec_Tokens.mono s k) (Nat.le_max_left (s.size + 2) k) hx]
  simp only [Option.bind_some]
  have := at_rounds (g := fun k => spec_Plain.l0 k s x x (x.length : Int) 0) (fun k => (spec_Plain.mono_l k).1 _ _ _ _ _) (Nat.le_max_right (s.size + 2) k) hk
  rw [this, List.drop_zero, hl]
  unfold plain
  rw [data_length]

theorem plain_any (s : ByteArray) (hs : s.size ≤ 2147483647) (w : World) :
    Calls Tryd.prog 11 #[.string s] w fun e w' => e = .returned (.bool (plain s.data.toList)) ∧ Below w.heap.size w w' := by
  obtain ⟨k, hk⟩ := plain_f s hs
  exact spec_Plain.calls k s _ w hk
end
end Go.Proofs.YtnbihmagbedfmaaDoorR
/- Contracts of the list of validation issues: Add, AddError, IsBlocking, CreateValidationResults. -/
namespace Go.Proofs.YtnbihmagbedfmaaDoorR
open Go.RowKit

/-- Block B is a list of at most N issues; it has one just if 'bad', and the first one blocks. -/
def VR (B N : Nat) (bad : Bool) (w : World) : Prop :=
  ∃ v xs, w.heap[B]? = some (.cells #[v] 89 (0, 0)) ∧ w.ownsRow (B + 1) 90 1 v xs.length xs ∧ xs.length ≤ N ∧ (bad = false → xs = []) ∧
    (bad = true → ∃ k d rest, xs = .pointer (some ⟨k, 0, none⟩) :: rest ∧ w.heap[k]? = some (.cells #[d, .bool true, .bool false] 92 (0, 0)))

theorem own_below {w w1 : World} {base : Nat} {e : TypeId} {size n : Nat} {v : Value} {xs : List Value} (h : w.ownsRow base e size v n xs) (hb : Below w.heap.size w w1) : w1.ownsRow base e size v n xs :=
  h.kept (row := none) ⟨hb.os, hb.tape, hb.output, hb.size, fun i hi _ => hb.block i hi⟩ (by cases v.ownBlock <;> simp)

theorem VR.lt {B N : Nat} {bad : Bool} {w : World} (h : VR B N bad w) : B < w.heap.size := by
  obtain ⟨v, xs, h1, _⟩ := h
  exact lt_of_block h1

theorem VR.below {B N : Nat} {bad : Bool} {w w1 : World} (h : VR B N bad w) (hb : Below w.heap.size w w1) : VR B N bad w1 := by
  obtain ⟨v, xs, h1, h2, h3, h4, h5⟩ := h
  refine ⟨v, xs, (hb.block B (lt_of_block h1)).trans h1, own_below h2 hb, h3, h4, fun hbad => ?_⟩
  obtain ⟨k, d, rest, h6, h7⟩ := h5 hbad
  exact ⟨k, d, rest, h6, (hb.block k (lt_of_block h7)).trans h7⟩

theorem VR.mono {B N N' : Nat} {bad : Bool} {w : World} (h : VR B N bad w) (hN : N ≤ N') : VR B N' bad w := by
  obtain ⟨v, xs, h1, h2, h3, h4, h5⟩ := h
  exact ⟨v, xs, h1, h2, by omega, h4, h5⟩

theorem VR.fresh (w : World) : VR w.heap.size 0 false (w.alloc (.cells #[.slice none 0 0] 89)) :=
  ⟨.slice none 0 0, [], heap_alloc_new w _, ⟨by simp, .inl ⟨rfl, rfl⟩⟩, by simp, fun _ => rfl, by simp⟩

theorem Tryd.infoIssue : (Tryd.prog.info? 90).map (fun i => (i.zero, i.size, i.bytes)) = some (some (.pointer none), 1, 8) := by kernel_rfl

/-- A store into the list's own block keeps what lies elsewhere. -/
theorem others_of_add {B : Nat} {v v' : Value} {w w0 w1 : World} {n : Nat} {xs : List Value} (hB : w.heap[B]? = some (.cells #[v] 89 (0, 0))) (hown : w.ownsRow (B + 1) 90 1 v n xs)
    (h0 : Below w.heap.size w w0) (hg : w0.grownBy w1 v.ownBlock) : w1.heap[B]? = some (.cells #[v] 89 (0, 0)) ∧ Below B w (w1.setCell ⟨B, 0, none⟩ v') ∧ Lib.OthersKept 90 (some B) w (w1.setCell ⟨B, 0, none⟩ v') := by
  have hlt := lt_of_block hB
  have hrow : ∀ k, v.ownBlock = some k → B + 1 ≤ k ∧ ∃ cur, w.heap[k]? = some (.cells cur 90 (0, 0)) := by
    intro k hk
    rcases hown.2 with ⟨rfl, _⟩ | ⟨g, cap, cur, rfl, hb, hh, _⟩
    · simp [Value.ownBlock] at hk
    · have : g = k := by simpa [Value.ownBlock] using hk
      subst this
      exact ⟨hb, cur, hh⟩
  have hsame : ∀ k, k < w.heap.size → some k ≠ v.ownBlock → w1.heap[k]? = w.heap[k]? := fun k hk hne => (hg.block k (Nat.lt_of_lt_of_le hk h0.size) hne).trans (h0.block k hk)
  have hBne : some B ≠ v.ownBlock := fun e => by have := (hrow B e.symm).1; omega
  refine ⟨(hsame B hlt hBne).trans hB, ?_, ?_⟩
  · have hbel : Below B w w1 := ⟨hg.os.trans h0.os, hg.tape.trans h0.tape, hg.output.trans h0.output, Nat.le_trans h0.size hg.size, fun k hk => hsame k (by omega) fun e => by have := (hrow k e.symm).1; omega⟩
    exact hbel.setCell (p := ⟨B, 0, none⟩) (Nat.le_refl _) _
  · intro k o hk hkB ho
    have hne : some k ≠ v.ownBlock := by
      intro e
      obtain ⟨cur, hc⟩ := (hrow k e.symm).2
      rw [hk] at hc
      exact ho cur _ (Option.some.inj hc)
    rw [Below.heap_setCell _ _ _ _ (fun e => hkB (by rw [e]))]
    exact (hsame k (lt_of_block hk) hne).trans hk

set_option maxRecDepth 100000 in
theorem add_any (B k : Nat) (v : Value) (xs : List Value) (w : World) (hB : w.heap[B]? = some (.cells #[v] 89 (0, 0))) (hown : w.ownsRow (B + 1) 90 1 v xs.length xs) (hn : xs.length ≤ 1000000) :
    Calls Tryd.prog 72 #[.pointer (some ⟨B, 0, none⟩), .pointer (some ⟨k, 0, none⟩)] w fun e w' => e = .returned (.tuple #[]) ∧ ∃ v', w'.heap[B]? = some (.cells #[v'] 89 (0, 0)) ∧ w'.ownsRow (B + 1) 90 1 v' (xs.length + 1) (xs ++ [.pointer (some ⟨k, 0, none⟩)]) ∧ Below B w w' ∧ Lib.OthersKept 90 (some B) w w' := by
  have hc := cell_of_one hB
  have hlt := lt_of_block hB
  obtain ⟨i0, hi, hz0, hz1, hz2⟩ := info_parts Tryd.infoIssue
  have HB := Lib.hid hB
  clear hB
  have HN := Lib.hid hn
  clear hn
  go_enter Tryd.func72, Tryd.ntmps72
  go_wp2_with (at_builtin; refine wpList_append_own _ rfl _ _ 87 rfl (B + 1) 90 i0 (.pointer none) 1 8 Tryd.underlying87 hi hz0 hz1 hz2 rfl (by decide) v xs.length xs rfl (hown.alloc _) ⟨w.heap.size, 0, none⟩ 1 1 [.pointer (some ⟨k, 0, none⟩)] rfl rfl ?c1 ?c2 ?c3 ?c4 ?c5 ?_)
  case c1 => exact cell_one_new _ _ _
  case c2 => intro u hu; simp at hu; subst hu; rfl
  case c3 => have := HN.out; unfold maxLen; omega
  case c4 => have := HN.out; omega
  case c5 => simp; omega
  intro v' w1 hown' hg hnn
  obtain ⟨g, cap, hv, _, _⟩ := hown'.form (by omega)
  rw [hv] at hown'
  rw [hv]
  clear hv hnn
  obtain ⟨v', hv'⟩ : ∃ v' : Value, v' = .slice (some ⟨g, 0, none⟩) (xs.length + 1) cap := ⟨_, rfl⟩
  obtain ⟨h1, h2, h3⟩ := others_of_add (v' := v') HB.out hown ((Below.refl _ _).alloc (Nat.le_refl _) _) hg
  have hc1 := cell_of_one h1
  have hf1 := free_of_one h1
  have F : (w1.setCell ⟨B, 0, none⟩ v').heap[B]? = some (.cells #[v'] 89 (0, 0)) ∧ (w1.setCell ⟨B, 0, none⟩ v').ownsRow (B + 1) 90 1 v' (xs.length + 1) (xs ++ [.pointer (some ⟨k, 0, none⟩)]) := ⟨one_setCell h1, ownsRow_setCell_below (hv' ▸ hown') (by simp) _⟩
  rw [hv'] at h2 h3 F
  clear hown' hg hown h1 hc HB hv'
  have H2 := Lib.hid h2
  have H3 := Lib.hid h3
  have HF := Lib.hid F
  clear h2 h3 F
  go_wp2
  go_end0
  exact ⟨rfl, _, HF.out.1, HF.out.2, H2.out, H3.out⟩

theorem VR.added {B N : Nat} {bad : Bool} {d v' : Value} {v : Value} {xs : List Value} {w w1 : World} (hB : w.heap[B]? = some (.cells #[v] 89 (0, 0))) (hN : xs.length ≤ N) (h4 : bad = false → xs = [])
    (h5 : bad = true → ∃ k d rest, xs = .pointer (some ⟨k, 0, none⟩) :: rest ∧ w.heap[k]? = some (.cells #[d, .bool true, .bool false] 92 (0, 0)))
    (h1 : w1.heap[B]? = some (.cells #[v'] 89 (0, 0))) (h2 : w1.ownsRow (B + 1) 90 1 v' (xs.length + 1) (xs ++ [.pointer (some ⟨w.heap.size, 0, none⟩)]))
    (ho : Lib.OthersKept 90 (some B) (w.alloc (.cells #[d, .bool true, .bool false] 92)) w1) : VR B (N + 1) true w1 := by
  refine ⟨v', xs ++ [.pointer (some ⟨w.heap.size, 0, none⟩)], h1, by simpa using h2, by simp; omega, by simp, fun _ => ?_⟩
  have hlt := lt_of_block hB
  cases xs with
  | nil =>
    refine ⟨w.heap.size, d, [], rfl, ho _ _ (heap_alloc_new w _) (by simp; omega) (fun c fz e => ?_)⟩
    injection e with _ e _
    exact absurd e (by decide)
  | cons x r =>
    have hbad : bad = true := by
      cases bad with
      | true => rfl
      | false => exact absurd (h4 rfl) (by simp)
    obtain ⟨k, d', rest, hx, hk⟩ := h5 hbad
    refine ⟨k, d', rest ++ [.pointer (some ⟨w.heap.size, 0, none⟩)], by rw [hx]; rfl, ho _ _ ((Below.heap_alloc _ _ _ (lt_of_block hk)).trans hk) ?_ (fun c fz e => ?_)⟩
    · intro e
      injection e with e
      subst e
      rw [hB] at hk
      injection hk with hk
      injection hk with _ hk _
      exact absurd hk (by decide)
    · injection e with _ e _
      exact absurd e (by decide)

set_option maxRecDepth 100000 in
theorem adderror_any (B N : Nat) (bad : Bool) (d : ByteArray) (w : World) (h : VR B N bad w) (hN : N ≤ 1000000) :
    Calls Tryd.prog 58 #[.pointer (some ⟨B, 0, none⟩), .string d] w fun e w' => e = .returned (.tuple #[]) ∧ VR B (N + 1) true w' ∧ Below B w w' ∧ Lib.OthersKept 90 (some B) w w' := by
  obtain ⟨v, xs, h1, h2, h3, h4, h5⟩ := h
  have hlt := lt_of_block h1
  have hadd := add_any B w.heap.size v xs (w.alloc (.cells #[.string d, .bool true, .bool false] 92)) ((Below.heap_alloc _ _ _ hlt).trans h1) (h2.alloc _) (by omega)
  have H1 := Lib.hid h1
  have H4 := Lib.hid h4
  have H5 := Lib.hid h5
  clear h1 h2 h4 h5
  go_enter Tryd.func58, Tryd.ntmps58
  go_wp2_with fail
  refine hadd.mono ?_
  rintro e w1 ⟨rfl, v', g1, g2, g3, g4⟩
  have G1 := Lib.hid g1
  have G2 := Lib.hid g2
  have G3 := Lib.hid g3
  have G4 := Lib.hid g4
  clear g1 g2 g3 g4 hadd
  go_wp2
  go_end0
  exact ⟨rfl, VR.added H1.out h3 H4.out H5.out G1.out G2.out G4.out, ((Below.refl B w).alloc (by omega) _).trans G3.out, ((Lib.OthersKept.refl _ _ w).alloc _).trans G4.out⟩

set_option maxRecDepth 100000 in
theorem create_any (w : World) :
    Calls Tryd.prog 56 #[] w fun e w' => e = .returned (.pointer (some ⟨w.heap.size, 0, none⟩)) ∧ w' = w.alloc (.cells #[.slice none 0 0] 89) := by
  go_enter Tryd.func56, Tryd.ntmps56
  go_wp2
  go_ret
  exact ⟨rfl, rfl⟩

set_option maxRecDepth 100000 in
theorem blocking_no (B N : Nat) (w : World) (h : VR B N false w) :
    Calls Tryd.prog 57 #[.pointer (some ⟨B, 0, none⟩), .bool true] w fun e w' => e = .returned (.bool false) ∧ w' = w := by
  obtain ⟨v, xs, h1, h2, h3, h4, h5⟩ := h
  obtain rfl := h4 rfl
  have hv : ∃ a c, v = .slice a 0 c := by
    rcases h2.2 with ⟨rfl, _⟩ | ⟨g, cap, cur, rfl, _⟩
    · exact ⟨_, _, rfl⟩
    · exact ⟨_, _, rfl⟩
  obtain ⟨a, c, rfl⟩ := hv
  have hc := cell_of_one h1
  clear h1 h2 h3 h4 h5
  go_enter Tryd.func57, Tryd.ntmps57
  go_wp2
  refine wp_loop_rounds 1 ?_
  rw [rounds_succ]
  go_wp2
  go_ret
  exact ⟨rfl, rfl⟩

set_option maxRecDepth 100000 in
theorem blocking_yes (B N : Nat) (w : World) (h : VR B N true w) :
    Calls Tryd.prog 57 #[.pointer (some ⟨B, 0, none⟩), .bool true] w fun e w' => e = .returned (.bool true) ∧ w' = w := by
  obtain ⟨v, xs, h1, h2, h3, h4, h5⟩ := h
  obtain ⟨k, d, rest, rfl, h6⟩ := h5 rfl
  obtain ⟨g, cap, rfl, _, _⟩ := h2.form (by simp)
  have hc := cell_of_one h1
  have hg : w.cell? ⟨g, 0, none⟩ = some (.pointer (some ⟨k, 0, none⟩)) := h2.cells (g := g) rfl 0 _ rfl
  have hk : w.cell? ⟨k, 1, none⟩ = some (.bool true) := by simp [World.cell?, h6]
  have hl : 0 < (Value.pointer (some ⟨k, 0, none⟩) :: rest).length := by simp
  generalize (Value.pointer (some ⟨k, 0, none⟩) :: rest).length = n at hl
  clear h1 h2 h3 h4 h5 h6
  go_enter Tryd.func57, Tryd.ntmps57
  go_wp2
  refine wp_loop_rounds 1 ?_
  rw [rounds_succ]
  go_wp2
  go_ret
  exact ⟨rfl, rfl⟩

theorem blocking_any (B N : Nat) (bad : Bool) (w : World) (h : VR B N bad w) :
    Calls Tryd.prog 57 #[.pointer (some ⟨B, 0, none⟩), .bool true] w fun e w' => e = .returned (.bool bad) ∧ w = w' := by
  cases bad with
  | true => exact (blocking_yes B N w h).mono fun _ _ ⟨he, hw⟩ => ⟨he, hw.symm⟩
  | false => exact (blocking_no B N w h).mono fun _ _ ⟨he, hw⟩ => ⟨he, hw.symm⟩
end Go.Proofs.YtnbihmagbedfmaaDoorR
/- Contracts of Subject.Validate, of fine and of Valid: a subject is valid just as 'Pl.valid' says. -/
namespace Go.Proofs.YtnbihmagbedfmaaDoorR
open Go.RowKit Go.Proofs.YtnbihmagbedfmaaDoorRW.PrintWords
open Pl (hasSub toks toksA valid plain plainT okt okc)

/-- The list of issues in block B, and what lies elsewhere as it lay in w0. -/
structure VS (B N : Nat) (bad : Bool) (w0 w : World) : Prop where
  vr : VR B N bad w
  below : Below B w0 w
  others : Lib.OthersKept 90 (some B) w0 w

theorem VS.start {B N : Nat} {bad : Bool} {w : World} (h : VR B N bad w) : VS B N bad w w := ⟨h, Below.refl _ _, Lib.OthersKept.refl _ _ _⟩
theorem VS.drawn {B N : Nat} {bad : Bool} {w0 w w1 : World} (h : VS B N bad w0 w) (hd : Drawn0 w w1) : VS B N bad w0 w1 :=
  ⟨h.vr.below hd.below, h.below.trans (hd.below.mono (Nat.le_of_lt h.vr.lt)), by
    obtain ⟨n, rfl⟩ := hd
    exact h.others⟩
theorem VS.mono {B N N' : Nat} {bad : Bool} {w0 w : World} (h : VS B N bad w0 w) (hN : N ≤ N') : VS B N' bad w0 w := ⟨h.vr.mono hN, h.below, h.others⟩
theorem VS.trans {B N N' : Nat} {bad bad' : Bool} {w0 w w1 : World} (h : VS B N bad w0 w) (k : VS B N' bad' w w1) : VS B N' bad' w0 w1 := ⟨k.vr, h.below.trans k.below, h.others.trans k.others⟩

theorem VS.contains {B N : Nat} {bad : Bool} {w0 w : World} (h : VS B N bad w0 w) (s sub : ByteArray) (hs : s.size ≤ big) (hb : sub.size ≤ big) :
    Calls Tryd.prog 50 #[.string s, .string sub] w fun e w' => e = .returned (.bool (hasSub sub.data.toList s.data.toList)) ∧ VS B N bad w0 w' :=
  (contains_any s sub hs hb w).mono fun _ _ ⟨he, hd⟩ => ⟨he, h.drawn hd⟩
theorem VS.add {B N : Nat} {bad : Bool} {w0 w : World} (h : VS B N bad w0 w) (d : ByteArray) (hN : N ≤ 1000000) :
    Calls Tryd.prog 58 #[.pointer (some ⟨B, 0, none⟩), .string d] w fun e w' => e = .returned (.tuple #[]) ∧ VS B (N + 1) true w0 w' :=
  (adderror_any B N bad d w h.vr hN).mono fun _ _ ⟨he, h1, h2, h3⟩ => ⟨he, h1, h.below.trans h2, h.others.trans h3⟩

theorem VS.close {B N M : Nat} {b c : Bool} {w0 w : World} (h : VS B M b w0 w) (hM : M ≤ N) (hb : b = c) : VS B N c w0 w := hb ▸ h.mono hM

theorem valid_tests (s : ByteArray) (h0 : 0 < s.size) :
    valid s.data.toList = (!hasSub [32] s.data.toList && !((s[0].toNat : Int) == 46) && !((s[s.size - 1].toNat : Int) == 46) && !hasSub [46, 46] s.data.toList) := by
  have hne : s.data.toList.isEmpty = false := by
    rw [List.isEmpty_eq_false_iff, ne_eq, ← List.length_eq_zero_iff, data_length]; omega
  have hh : s.data.toList.head? = some s[0] := by
    rw [List.head?_eq_getElem?, List.getElem?_eq_getElem (by rw [data_length]; exact h0)]; rfl
  have hl : s.data.toList.getLast? = some s[s.size - 1] := by
    rw [List.getLast?_eq_getElem?, data_length, List.getElem?_eq_getElem (by rw [data_length]; omega)]; rfl
  have hc : ∀ c : UInt8, (some c == some (46 : UInt8)) = ((c.toNat : Int) == 46) := by
    intro c
    rw [Bool.eq_iff_iff]
    simp only [beq_iff_eq, Option.some.injEq]
    constructor
    · rintro rfl; rfl
    · intro h; apply UInt8.toNat_inj.1; have : c.toNat = 46 := by omega
      rw [this]; rfl
  unfold valid
  rw [hne, hh, hl, hc, hc]
  simp

set_option maxRecDepth 100000 in
theorem validate_some (B N : Nat) (bad : Bool) (s : ByteArray) (w0 w : World) (h : VS B N bad w0 w) (hN : N ≤ 900000) (hs : s.size ≤ 4294967296) (h0 : 0 < s.size) :
    Calls Tryd.prog 44 #[.string s, .pointer (some ⟨B, 0, none⟩)] w fun e w' => e = .returned (.tuple #[]) ∧ VS B (N + 4) (bad || !valid s.data.toList) w0 w' := by
  have hne : ¬ s.data.toList = [] := by
    rw [← List.length_eq_zero_iff, data_length]; omega
  have e1 : s.toList.isEmpty = false := by rw [Lib.toList_data]; simpa using hne
  have e2 : (s.toList == []) = false := by rw [Lib.toList_data]; simpa using hne
  have HV := Lib.hid (valid_tests s h0)
  clear hne
  go_enter Tryd.func44, Tryd.ntmps44
  go_wp2_with (first | (go_at_call 50; refine (VS.contains (by assumption) _ _ hs (by decide)).mono ?_; rintro e w1 ⟨rfl, hv⟩) | (go_at_call 58; refine (VS.add (by assumption) _ (by omega)).mono ?_; rintro e w1 ⟨rfl, hv⟩))
  all_goals (go_end0; refine ⟨rfl, VS.close (by assumption) (by omega) ?_⟩; rw [HV.out]; clear HV)
  all_goals first | (simp [*]; done) | (simp_all; done)

set_option maxRecDepth 100000 in
theorem validate_none (B N : Nat) (bad : Bool) (s : ByteArray) (w0 w : World) (h : VS B N bad w0 w) (hN : N ≤ 900000) (h0 : s.data.toList = []) :
    Calls Tryd.prog 44 #[.string s, .pointer (some ⟨B, 0, none⟩)] w fun e w' => e = .returned (.tuple #[]) ∧ VS B (N + 1) true w0 w' := by
  have e1 : s.toList.isEmpty = true := by rw [Lib.toList_data]; simpa using h0
  have e2 : (s.toList == []) = true := by rw [Lib.toList_data]; simpa using h0
  clear h0
  go_enter Tryd.func44, Tryd.ntmps44
  go_wp2_with (go_at_call 58; refine (VS.add (by assumption) _ (by omega)).mono ?_; rintro e w1 ⟨rfl, hv⟩)
  refine bodyPost_ret (results_none rfl _ _ _) rfl ⟨rfl, hv⟩

/-- Subject.Validate: it tells an issue just where the subject is not valid. -/
theorem validate_any (B N : Nat) (bad : Bool) (s : ByteArray) (w0 w : World) (h : VS B N bad w0 w) (hN : N ≤ 900000) (hs : s.size ≤ 4294967296) :
    Calls Tryd.prog 44 #[.string s, .pointer (some ⟨B, 0, none⟩)] w fun e w' => e = .returned (.tuple #[]) ∧ VS B (N + 4) (bad || !valid s.data.toList) w0 w' := by
  rcases Nat.eq_zero_or_pos s.size with h0 | h0
  · have hl : s.data.toList = [] := List.eq_nil_of_length_eq_zero (by rw [data_length]; exact h0)
    refine (validate_none B N bad s w0 w h hN hl).mono fun e w' ⟨he, hv⟩ => ⟨he, hv.close (by omega) ?_⟩
    rw [hl, Pl.valid_nil]
    simp
  · exact validate_some B N bad s w0 w h hN hs h0

/-- What a check owes to 'fine': called behind the making of a list of issues, it comes back with issues just if 'bad', and turns nothing else. -/
def Checks (g : FuncId) (cap : Array Value) (base : Nat) (w : World) (bad : Bool) : Prop :=
  ∀ W : World, Below base w W → base ≤ W.heap.size → Calls Tryd.prog g (#[.pointer (some ⟨W.heap.size, 0, none⟩)] ++ cap) (W.alloc (.cells #[.slice none 0 0] 89)) fun e w' => e = .returned (.tuple #[]) ∧
    ∃ N, VS W.heap.size N bad (W.alloc (.cells #[.slice none 0 0] 89)) w'

set_option maxRecDepth 100000 in
theorem fine1_any (g : FuncId) (cap : Array Value) (bad : Bool) (base b : Nat) (w0 w : World) (hent : ∀ (r : Addr) (W : World), (callFunc g (#[.pointer (some r)] ++ cap)).run Tryd.prog W = .ok (.enter g (#[.pointer (some r)] ++ cap)) W)
    (hg : Checks g cap base w0 bad) (hb : Below base w0 w) (hbase : base ≤ w.heap.size)
    (hc : w.heap[b]? = some (.cells #[.func (.func g) #[] cap] 57 (0, 0))) (hd : w.heap[b + 1]? = some (.cells #[.bool false] 4 (0, 0))) (hbb : base ≤ b) :
    Calls Tryd.prog 55 #[.pointer (some ⟨b, 0, none⟩), .pointer (some ⟨b + 1, 0, none⟩)] w fun e w' => e = .returned (.tuple #[]) ∧ Below base w0 w' ∧ w'.heap[b + 1]? = some (.cells #[.bool (!bad)] 4 (0, 0)) ∧ w.heap.size ≤ w'.heap.size ∧ (∀ k, k < w.heap.size → k ≠ b + 1 → w'.heap[k]? = w.heap[k]?) := by
  have hlb := lt_of_block hc
  have hld := lt_of_block hd
  have c0 : ∀ o : Obj, (w.alloc o).cell? ⟨b, 0, none⟩ = some (.func (.func g) #[] cap) := fun o => cell_of_one ((Below.heap_alloc _ _ _ hlb).trans hc)
  have HG := Lib.hid (hg w hb hbase)
  have HC := Lib.hid hc
  have HD := Lib.hid hd
  clear hg hc hd
  go_enter Tryd.func55, Tryd.ntmps55
  go_wp2_with (go_at_call 56; refine (create_any _).mono ?_; rintro e w1 ⟨rfl, rfl⟩)
  refine HG.out.mono ?_
  rintro e w1 ⟨rfl, N, hv⟩
  have hd1 : w1.heap[b + 1]? = some (.cells #[.bool false] 4 (0, 0)) := (hv.below.block _ hld).trans ((Below.heap_alloc _ _ _ hld).trans HD.out)
  have hcd := cell_of_one hd1
  have hfd := free_of_one hd1
  have HD1 := Lib.hid hd1
  clear hd1 c0 hent
  go_wp2_with (go_at_call 57; refine (blocking_any _ N bad _ hv.vr).mono ?_; rintro e w2 ⟨rfl, rfl⟩)
  go_end0
  have hsz : w.heap.size ≤ w1.heap.size := by have := hv.below.size; simp at this; omega
  have hb1 : Below w.heap.size w w1 := ((Below.refl _ _).alloc (Nat.le_refl _) _).trans hv.below
  refine ⟨rfl, (hb.trans (hb1.mono hbase)).setCell (p := ⟨b + 1, 0, none⟩) (by show base ≤ b + 1; omega) _, one_setCell HD1.out, by simpa [World.setCell] using hsz, fun k hk hkb => ?_⟩
  rw [Below.heap_setCell _ _ _ _ hkb]
  exact hb1.block k hk

set_option maxRecDepth 100000 in
/-- fine: it hands back true just where the check leaves no issue. -/
theorem fine_any (g : FuncId) (cap : Array Value) (bad : Bool) (w : World) (hent : ∀ (r : Addr) (W : World), (callFunc g (#[.pointer (some r)] ++ cap)).run Tryd.prog W = .ok (.enter g (#[.pointer (some r)] ++ cap)) W)
    (hg : Checks g cap w.heap.size w bad) :
    Calls Tryd.prog 31 #[.func (.func g) #[] cap] w fun e w' => e = .returned (.bool (!bad)) ∧ Below w.heap.size w w' := by
  have hmf : ∀ (fn : Fn) (first cap : Array Value) (w : World), (Instr.makeFunc fn first cap).run Tryd.prog w = .ok (.func fn first cap) w := fun _ _ _ _ => rfl
  obtain ⟨w2, hw2⟩ : ∃ w2 : World, w2 = (w.alloc (.cells #[.func (.func g) #[] cap] 57)).alloc (.cells #[.bool false] 4) := ⟨_, rfl⟩
  have hs2 : w2.heap.size = w.heap.size + 2 := by rw [hw2]; simp
  have hb2 : Below w.heap.size w w2 := by rw [hw2]; exact ((Below.refl _ _).alloc (Nat.le_refl _) _).alloc (by simp) _
  have hc2 : w2.heap[w.heap.size]? = some (.cells #[.func (.func g) #[] cap] 57 (0, 0)) := by
    rw [hw2]; exact (Below.heap_alloc _ _ _ (by simp)).trans (heap_alloc_new w _)
  have hd2 : w2.heap[w.heap.size + 1]? = some (.cells #[.bool false] 4 (0, 0)) := by
    rw [hw2]
    have := heap_alloc_new (w.alloc (.cells #[.func (.func g) #[] cap] 57)) (.cells #[.bool false] 4)
    simpa using this
  have hold : ∀ k, k < w2.heap.size → (w2.alloc (.cells #[.bool false] 4)).heap[k]? = w2.heap[k]? := fun k hk => Below.heap_alloc _ _ _ hk
  have h1 := fine1_any g cap bad w.heap.size w.heap.size w (w2.alloc (.cells #[.bool false] 4)) hent hg (hb2.alloc (by omega) _) (by simp; omega)
    ((hold _ (by omega)).trans hc2) ((hold _ (by omega)).trans hd2) (Nat.le_refl _)
  have hq := quiet_any 55 #[.pointer (some ⟨w.heap.size, 0, none⟩), .pointer (some ⟨w.heap.size + 1, 0, none⟩)] w2 (fun w' => Below w.heap.size w w' ∧ w'.heap[w.heap.size + 1]? = some (.cells #[.bool (!bad)] 4 (0, 0))) (fun W => by simp [go_sem])
    (h1.mono fun e w' ⟨he, g1, g2, g3, g4⟩ => ⟨he, (g4 _ (by simp) (by omega)).trans (heap_alloc_new _ _), g1, g2⟩)
  have HQ := Lib.hid hq
  clear hq h1 hold hd2 hc2 hb2 hg hent
  have HS := Lib.hid hs2
  clear hs2
  go_enter Tryd.func31, Tryd.ntmps31
  go_wp2_with fail
  rw [← hw2]
  refine HQ.out.mono ?_
  rintro e w3 ⟨rfl, w1, h1, ⟨h2, h3⟩, hw3⟩
  have hb3 : Below w.heap.size w w3 := by rw [hw3]; exact h2.setCell (p := ⟨w2.heap.size, 0, none⟩) (by show w.heap.size ≤ w2.heap.size; have := HS.out; omega) _
  have hd3 : w3.heap[w.heap.size + 1]? = some (.cells #[.bool (!bad)] 4 (0, 0)) := by
    rw [hw3, Below.heap_setCell _ _ _ _ (by show w.heap.size + 1 ≠ w2.heap.size; have := HS.out; omega)]; exact h3
  clear hw3 h1 h2 h3 HQ HS hw2
  have hc3 := cell_of_one hd3
  have hf3 := free_of_one hd3
  have HB3 := Lib.hid hb3
  have HD3 := Lib.hid hd3
  clear hb3 hd3
  go_wp2
  have hcs := cell_of_one (one_setCell (u := .bool (!bad)) HD3.out)
  refine bodyPost_ret (v := .bool (!bad)) ?_ rfl ⟨rfl, HB3.out.setCell (p := ⟨w.heap.size + 1, 0, none⟩) (Nat.le_succ _) _⟩
  simp [results, Tryd.results31, go_sem]
  rw [hcs]

/-- The check of Valid. -/
theorem valid1_any (p : Addr) (s : ByteArray) (B N : Nat) (bad : Bool) (w0 w : World) (h : VS B N bad w0 w) (hN : N ≤ 900000) (hs : s.size ≤ 4294967296) (hc : w.cell? p = some (.string s)) :
    Calls Tryd.prog 43 #[.pointer (some ⟨B, 0, none⟩), .pointer (some p)] w fun e w' => e = .returned (.tuple #[]) ∧ VS B (N + 4) (bad || !valid s.data.toList) w0 w' := by
  go_enter Tryd.func43, Tryd.ntmps43
  go_wp2_with (go_at_call 44; refine (validate_any B N bad s w0 w h hN hs).mono ?_; rintro e w1 ⟨rfl, hv⟩)
  go_end0
  exact ⟨rfl, hv⟩

set_option maxRecDepth 100000 in
/-- Valid: a subject is valid just as 'Pl.valid' says. -/
theorem valid_any (s : ByteArray) (hs : s.size ≤ 4294967296) (w : World) :
    Calls Tryd.prog 25 #[.string s] w fun e w' => e = .returned (.bool (valid s.data.toList)) ∧ Below w.heap.size w w' := by
  have hmf : ∀ (fn : Fn) (first cap : Array Value) (w : World), (Instr.makeFunc fn first cap).run Tryd.prog w = .ok (.func fn first cap) w := fun _ _ _ _ => rfl
  have hch : Checks 43 #[.pointer (some ⟨w.heap.size, 0, none⟩)] (w.alloc (.cells #[.string s] 9)).heap.size (w.alloc (.cells #[.string s] 9)) (!valid s.data.toList) := by
    intro W hb hbase
    have hlt : w.heap.size < (w.alloc (.cells #[.string s] 9)).heap.size := by simp
    have hcell : (W.alloc (.cells #[.slice none 0 0] 89)).heap[w.heap.size]? = some (.cells #[.string s] 9 (0, 0)) :=
      (Below.heap_alloc _ _ _ (Nat.lt_of_lt_of_le hlt hbase)).trans ((hb.block _ hlt).trans (heap_alloc_new w _))
    refine (valid1_any ⟨w.heap.size, 0, none⟩ s W.heap.size 0 false _ _ (VS.start (VR.fresh W)) (by omega) hs (cell_of_one hcell)).mono fun e w' ⟨he, hv⟩ => ⟨he, 4, ?_⟩
    simpa using hv
  have HF := Lib.hid (fine_any _ _ _ (w.alloc (.cells #[.string s] 9)) (fun r W => by simp [go_sem]) hch)
  clear hch
  go_enter Tryd.func25, Tryd.ntmps25
  go_wp2_with fail
  refine HF.out.mono ?_
  rintro e w1 ⟨rfl, hb⟩
  go_wp2
  go_ret
  refine ⟨by simp, (Below.alloc (Below.refl _ _) (Nat.le_refl _) (.cells #[.string s] 9)).trans (hb.mono (by simp))⟩

theorem works_any (w : World) :
    Calls Tryd.prog 9 #[] w fun e w' => e = .returned (.bool true) ∧ Below w.heap.size w w' := by
  have h := valid_any ⟨#[97, 46, 98]⟩ (by decide) w
  have hv : valid (ByteArray.mk #[97, 46, 98]).data.toList = true := Pl.valid_ab
  rw [hv] at h
  have HF := Lib.hid h
  clear h hv
  go_enter Tryd.func9, Tryd.ntmps9
  go_wp2_with fail
  refine HF.out.mono ?_
  rintro e w1 ⟨rfl, hb⟩
  go_wp2
  go_ret
  exact ⟨rfl, hb⟩
end Go.Proofs.YtnbihmagbedfmaaDoorR
/- Laws on append, whatever the program: a copy of a slice of one-cell elements that is read ('append([]T(nil), xs...)'). -/
namespace Go.Proofs.YtnbihmagbedfmaaDoorR
open Go.RowKit Go.Proofs.YtnbihmagbedfmaaDoorRW.PrintWords
section
variable {P : Program}

theorem append_types (t u ty e e' : TypeId) (ht : P.underlying t = some (.slice e)) (hu : P.underlying u = some (.slice e')) (a : Option Addr) (n c : Nat) (x : Value) (w : World) :
    (Builtin.append_ #[t, u] ty #[.slice a n c, x]).run P w = (Builtin.append_ #[t, t] ty #[.slice a n c, x]).run P w := by
  unfold Builtin.append_
  simp only [List.getElem?_toArray, List.getElem?_cons_zero, List.getElem?_cons_succ, Sem.run_bind, run_underlying ht, run_underlying hu, Result.andThen_ok]

/-- append(nil, xs...), xs a slice of one-cell elements that is read. -/
theorem run_append_copy {α : Type} (enc : α → Value) (d : α) (h1 : ∀ x, (enc x).oneCell' = true) (w : World) (t u ty e e' : TypeId) (z : Value) (bytes : Nat) (ht : P.underlying t = some (.slice e)) (hu : P.underlying u = some (.slice e'))
    (hinfo : (P.info? e).map (fun i => (i.zero, i.size, i.bytes)) = some (some z, 1, bytes)) (hz : z.cells.size = 1) (A : Option Addr) (n c : Nat) (xs : List α) (hr : ReadsOf enc d w A n xs) (hb : n * bytes ≤ 140737488355328) (hb0 : 0 < bytes) :
    ∃ A' c' w', (Builtin.append_ #[t, u] ty #[.slice none 0 0, .slice A n c]).run P w = .ok (.slice A' n c') w' ∧ w'.ownsRow w.heap.size e 1 (.slice A' n c') n (encs enc xs) ∧ w.grownBy w' none := by
  obtain ⟨i0, hi, hzz⟩ := Option.map_eq_some_iff.1 hinfo
  simp only [Prod.mk.injEq] at hzz
  obtain ⟨hz0, hz1, hz2⟩ := hzz
  have hl := hr.1
  have hn0 : w.ownsRow w.heap.size e 1 (.slice none 0 0) 0 [] := own_nil _ _ _ _
  rw [append_types t u ty e e' ht hu]
  rcases A with _ | ad
  · have h0 : n = 0 := by
      rcases Nat.eq_zero_or_pos n with h0 | h0
      · exact h0
      · obtain ⟨ad, h, _⟩ := hr.2.2 h0
        cases h
    subst h0
    obtain rfl : xs = [] := List.eq_nil_of_length_eq_zero hl
    refine ⟨none, 0, w, ?_, hn0, World.grownBy.refl w _⟩
    simp [Builtin.append_, run_underlying ht, sizeOf, typeInfo, hi, Builtin.lenOf, Builtin.firstCells]
  · have hcells : ∀ j u, (encs enc xs)[j]? = some u → w.cell? (ad.add j) = some u := by
      intro j u hu
      have hj : j < xs.length := by
        rcases Nat.lt_or_ge j xs.length with h | h
        · exact h
        · simp [encs, List.getElem?_eq_none h] at hu
      obtain ⟨ad', h', hc⟩ := hr.2.2 (by omega)
      injection h' with h'
      subst h'
      have := hc j (by omega)
      simp [encs, List.getElem?_eq_getElem hj] at hu
      subst hu
      rw [this]
      simp [List.getD_eq_getElem?_getD, List.getElem?_eq_getElem hj]
    have hn2 : n ≤ 140737488355328 := Nat.le_trans (Nat.le_mul_of_pos_right _ hb0) hb
    obtain ⟨v1, w1, hrun, h2, h3, _, h5⟩ := run_append_own_at (P := P) w w.heap.size t ty e i0 z 1 bytes ht hi hz0 hz1 hz2 hz (by omega) (.slice none 0 0) 0 [] hn0 ad n c (encs enc xs) (by rw [encs_length]; omega) hcells
      (by intro u hu; simp only [encs, List.mem_map] at hu; obtain ⟨q, _, rfl⟩ := hu; exact h1 q) (by simp only [maxLen]; omega) (by rw [Nat.zero_add]; exact hb) (Nat.le_refl _)
    rw [Nat.zero_add, List.nil_append] at h2
    obtain ⟨A', c', rfl⟩ := own_slice h2
    exact ⟨A', c', w1, hrun, h2, h3⟩

theorem step_append_copy {ops : Array Oper} {o : Oper} {a : Act} {K : Act → World → Prop} {Q : Exit → Act → World → Prop} {E : Prop} {α : Type} (enc : α → Value) (d : α) (h1 : ∀ x, (enc x).oneCell' = true) (w : World) (hgd : o.guard = none) (s x : Operand) (t u e e' : TypeId)
    (ho : o.op = .call { callee := .builtin .append, args := #[s, x], argTypes := #[t, u] }) (z : Value) (bytes : Nat) (ht : P.underlying t = some (.slice e)) (hu : P.underlying u = some (.slice e'))
    (hinfo : (P.info? e).map (fun i => (i.zero, i.size, i.bytes)) = some (some z, 1, bytes)) (hz : z.cells.size = 1) (A : Option Addr) (n c : Nat) (xs : List α) (hs : a.eval s = .slice none 0 0) (hx : a.eval x = .slice A n c) (hr : ReadsOf enc d w A n xs) (hb : n * bytes ≤ 140737488355328) (hb0 : 0 < bytes)
    (h : ∀ A' c' w', w'.ownsRow w.heap.size e 1 (.slice A' n c') n (encs enc xs) → w.grownBy w' none → K (a.put o.dst (.slice A' n c')) w') :
    if Region.wanted o (yielded ops a.tmps) = true then Oper.wp P o a w K Q else E := by
  have hw : Region.wanted o (yielded ops a.tmps) = true := by simp [Region.wanted, hgd]
  rw [if_pos hw]
  obtain ⟨A', c', w', hrun, h2, h3⟩ := run_append_copy (P := P) enc d h1 w t u o.type e e' z bytes ht hu hinfo hz A n c xs hr hb hb0
  unfold Oper.wp execOp
  simp only [ho, resolve, invoke, builtin, Sem.run_bind, Sem.run_pure, Result.andThen_ok, List.map_toArray, List.map_cons, List.map_nil, hs, hx, hrun]
  exact h A' c' w' h2 h3

theorem wpList_append_copy {ops : Array Oper} {rest : List Oper} {o : Oper} {a : Act} {Q : Exit → Act → World → Prop} {α : Type} (enc : α → Value) (d : α) (h1 : ∀ x, (enc x).oneCell' = true) (w : World) (hgd : o.guard = none) (s x : Operand) (t u e e' : TypeId)
    (ho : o.op = .call { callee := .builtin .append, args := #[s, x], argTypes := #[t, u] }) (z : Value) (bytes : Nat) (ht : P.underlying t = some (.slice e)) (hu : P.underlying u = some (.slice e'))
    (hinfo : (P.info? e).map (fun i => (i.zero, i.size, i.bytes)) = some (some z, 1, bytes)) (hz : z.cells.size = 1) (A : Option Addr) (n c : Nat) (xs : List α) (hs : a.eval s = .slice none 0 0) (hx : a.eval x = .slice A n c) (hr : ReadsOf enc d w A n xs) (hb : n * bytes ≤ 140737488355328) (hb0 : 0 < bytes)
    (h : ∀ A' c' w', w'.ownsRow w.heap.size e 1 (.slice A' n c') n (encs enc xs) → w.grownBy w' none → wpList P ops Q rest (a.put o.dst (.slice A' n c')) w') : wpList P ops Q (o :: rest) a w := by
  refine wpList_plain hgd fun K hK => ?_
  obtain ⟨A', c', w', hrun, h2, h3⟩ := run_append_copy (P := P) enc d h1 w t u o.type e e' z bytes ht hu hinfo hz A n c xs hr hb hb0
  unfold Oper.wp execOp
  simp only [ho, resolve, invoke, builtin, Sem.run_bind, Sem.run_pure, Result.andThen_ok, List.map_toArray, List.map_cons, List.map_nil, hs, hx, hrun]
  exact hK _ _ (h A' c' w' h2 h3)
end

/-- A row of one-cell elements that the call owns reads as its list. -/
theorem reads_own {α : Type} (enc : α → Value) (d : α) {w : World} {base n : Nat} {e : TypeId} {A : Option Addr} {m c : Nat} {xs : List α} (h : w.ownsRow base e 1 (.slice A m c) n (encs enc xs)) : m = n ∧ xs.length = n ∧ ReadsOf enc d w A n xs := by
  have hl : xs.length = n := by have := h.1; rw [encs_length] at this; omega
  rcases h.2 with ⟨hv, h0⟩ | ⟨g, cap, cur, hv, _, hh, hnc, hcm, hcs, htk⟩
  · injection hv with ha hm hc
    subst ha; subst hm; subst h0
    exact ⟨rfl, hl, hl, by omega, fun hp => absurd hp (by omega)⟩
  · injection hv with ha hm hc
    subst ha; subst hm
    refine ⟨rfl, hl, hl, by unfold maxLen at hcm; omega, fun hp => ⟨_, rfl, fun j hj => ?_⟩⟩
    refine h.cells (g := g) rfl j _ ?_
    simp [encs, List.getElem?_eq_getElem (show j < xs.length by omega), List.getD_eq_getElem?_getD]
end Go.Proofs.YtnbihmagbedfmaaDoorR
/- zzFits3: a list of at most 2^31-1 texts, each of at most so many bytes. -/
namespace Go.Proofs.YtnbihmagbedfmaaDoorR
open Go.RowKit Go.Proofs.YtnbihmagbedfmaaDoorRW.PrintWords
open PzzFits3

def fitsOne (s : ByteArray) : Bool := decide (s.size ≤ 2147483647)
def fits (l : List ByteArray) : Bool := decide (l.length ≤ 2147483647) && l.all fitsOne

theorem rdOf_get (l : List ByteArray) (i : Nat) (h : i < l.length) : rdOf ByteArray.empty l (i : Int) = l[i] := by
  simp [rdOf, List.getD_eq_getElem?_getD, List.getElem?_eq_getElem h]

theorem fits_l0 (l : List ByteArray) (hl : l.length ≤ 2147483647) : ∀ (d k i : Nat), i ≤ l.length → l.length - i = d → d < k → laws_zzFits3.l0 k l (l.length : Int) (i : Int) = some ((l.drop i).all fitsOne) := by
  intro d
  induction d with
  | zero =>
    intro k i h1 h2 h3
    obtain ⟨k, rfl⟩ : ∃ m, k = m + 1 := ⟨k - 1, by omega⟩
    obtain rfl : i = l.length := by omega
    unfold laws_zzFits3.l0
    rw [if_neg (by omega), List.drop_length]
    rfl
  | succ d ih =>
    intro k i h1 h2 h3
    obtain ⟨k, rfl⟩ : ∃ m, k = m + 1 := ⟨k - 1, by omega⟩
    have hlt : i < l.length := by omega
    unfold laws_zzFits3.l0
    have e2 : ((i : Int) + 1) = ((i + 1 : Nat) : Int) := by omega
    rw [if_pos (by omega), if_pos (by omega), if_pos (by omega), rdOf_get l i hlt, e2, wrap_in (by omega) (by omega), List.drop_eq_getElem_cons hlt, List.all_cons]
    by_cases hs : l[i].size ≤ 2147483647
    · have hf : fitsOne l[i] = true := by simp [fitsOne, hs]
      rw [if_neg (by omega), hf, Bool.true_and]
      exact ih k (i + 1) (by omega) (by omega) (by omega)
    · have hf : fitsOne l[i] = false := by simp [fitsOne]; omega
      rw [if_pos (by omega), hf, Bool.false_and]

theorem fits_any (A : Option Addr) (c : Nat) (l : List ByteArray) (w : World) (hr : ReadsOf Value.string ByteArray.empty w A l.length l) (hc : l.length ≤ c) :
    Calls Tryd.prog 18 #[.slice A l.length c] w fun e w' => e = .returned (.bool (fits l)) ∧ Drawn0 w w' := by
  refine laws_zzFits3.calls (l.length + 1) A c l (fits l) w (Kd.C_of_reads hr) hc ?_
  unfold laws_zzFits3.f fits
  by_cases hl : l.length ≤ 2147483647
  · rw [if_neg (by omega), decide_eq_true hl, Bool.true_and]
    have := fits_l0 l hl l.length (l.length + 1) 0 (Nat.zero_le _) rfl (Nat.lt_succ_self _)
    simpa using this
  · rw [if_pos (by omega), decide_eq_false hl, Bool.false_and]
end Go.Proofs.YtnbihmagbedfmaaDoorR
/- What the printed function Words comes to: each text of 1 to 20 letters and digits, at most 20 of them. -/
namespace Go.Proofs.YtnbihmagbedfmaaDoorR
open Go.RowKit Go.Proofs.YtnbihmagbedfmaaDoorRW.PrintWords

namespace Pl
def wordc (c : UInt8) : Bool := (97 ≤ c.toNat && c.toNat ≤ 122) || (65 ≤ c.toNat && c.toNat ≤ 90) || (48 ≤ c.toNat && c.toNat ≤ 57)
def wordt (l : List UInt8) : Bool := l.all wordc && (decide (1 ≤ l.length) && decide (l.length ≤ 20))
def wordsT (l : List (List UInt8)) : Bool := l.all wordt
theorem wordc_iff (c : UInt8) : wordc c = true ↔ (97 ≤ c.toNat ∧ c.toNat ≤ 122) ∨ (65 ≤ c.toNat ∧ c.toNat ≤ 90) ∨ (48 ≤ c.toNat ∧ c.toNat ≤ 57) := by
  unfold wordc
  simp only [Bool.or_eq_true, Bool.and_eq_true, decide_eq_true_eq]
  omega
end Pl
open Pl (wordc wordt wordsT)

section
open PWords
theorem words_l1 (x0 : List ByteArray) (t : ByteArray) (x7 : List ByteArray) (x8 x9 : Int) (k1 : Nat) (r : Bool) (ht : t.size ≤ big) (hn : spec_Words.l0 k1 x0 x7 x8 (wrap64 (x9 + 1)) = some r) : ∀ (d j : Nat), j ≤ t.size → t.size - j = d →
    spec_Words.l1 (k1 + d + 1) x0 t x7 x8 x9 (t.size : Int) (j : Int) = some ((t.data.toList.drop j).all wordc && ((decide (1 ≤ t.size) && decide (t.size ≤ 20)) && r)) := by
  unfold big at ht
  intro d
  induction d with
  | zero =>
    intro j h1 h2
    obtain rfl : j = t.size := by omega
    have hd : t.data.toList.drop t.size = [] := List.drop_of_length_le (by rw [data_length]; exact Nat.le_refl _)
    unfold spec_Words.l1
    rw [if_neg (by omega), hd, List.all_nil, Bool.true_and]
    by_cases h1 : 1 ≤ t.size
    · rw [if_neg (by omega), decide_eq_true h1, Bool.true_and]
      by_cases h20 : t.size ≤ 20
      · rw [if_neg (by omega), decide_eq_true h20, Bool.true_and]; exact hn
      · rw [if_pos (by omega), decide_eq_false h20, Bool.false_and]
    · rw [if_pos (by omega), decide_eq_false h1, Bool.false_and, Bool.false_and]
  | succ d ih =>
    intro j h1 h2
    have hlt : j < t.size := by omega
    have ih' := ih (j + 1) (by omega) (by omega)
    have e2 : ((j : Int) + 1) = ((j + 1 : Nat) : Int) := by omega
    have hw : wrap64 ((j : Int) + 1) = ((j + 1 : Nat) : Int) := by rw [e2, wrap_in (by omega) (by omega)]
    have hgo : ∀ b : Bool, wordc t[j] = b → ((t.data.toList.drop j).all wordc && ((decide (1 ≤ t.size) && decide (t.size ≤ 20)) && r)) = (b && ((t.data.toList.drop (j + 1)).all wordc && ((decide (1 ≤ t.size) && decide (t.size ≤ 20)) && r))) := by
      intro b hb
      rw [drop_cons t j hlt, List.all_cons, hb, Bool.and_assoc]
    have hok := Pl.wordc_iff t[j]
    have hb := bt_get t j hlt
    show spec_Words.l1 ((k1 + d + 1) + 1) x0 t x7 x8 x9 (t.size : Int) (j : Int) = _
    unfold spec_Words.l1
    rw [hw, hb, if_pos (by omega), if_pos (by omega), if_pos (by omega)]
    cases hc : wordc t[j] with
    | true =>
      have hk := hok.1 hc
      rw [hgo true hc, Bool.true_and, ← ih']
      generalize t[j].toNat = n at hk
      generalize spec_Words.l1 (k1 + d + 1) x0 t x7 x8 x9 (t.size : Int) ((j + 1 : Nat) : Int) = g
      repeat' split
      all_goals first | rfl | (exfalso; omega)
    | false =>
      have hk : ¬ _ := fun h => Bool.false_ne_true (hc.symm.trans (hok.2 h))
      rw [hgo false hc, Bool.false_and]
      generalize t[j].toNat = n at hk
      generalize spec_Words.l1 (k1 + d + 1) x0 t x7 x8 x9 (t.size : Int) ((j + 1 : Nat) : Int) = g
      repeat' split
      all_goals first | rfl | (exfalso; omega)

theorem words_l0 (x : List ByteArray) (hl : x.length ≤ big) (hx : ∀ t ∈ x, t.size ≤ big) : ∀ (d i : Nat), i ≤ x.length → x.length - i = d →
    ∃ k, spec_Words.l0 k x x (x.length : Int) (i : Int) = some (wordsT (lists (x.drop i)) && decide (x.length ≤ 20)) := by
  unfold big at hl
  intro d
  induction d with
  | zero =>
    intro i h1 h2
    obtain rfl : i = x.length := by omega
    refine ⟨1, ?_⟩
    unfold spec_Words.l0
    rw [if_neg (by omega), List.drop_length]
    have : decide ((x.length : Int) ≤ 20) = decide (x.length ≤ 20) := by rw [decide_eq_decide]; omega
    rw [this]
    rfl
  | succ d ih =>
    intro i h1 h2
    have hlt : i < x.length := by omega
    obtain ⟨k1, hk1⟩ := ih (i + 1) (by omega) (by omega)
    have e2 : ((i : Int) + 1) = ((i + 1 : Nat) : Int) := by omega
    have hw : wrap64 ((i : Int) + 1) = ((i + 1 : Nat) : Int) := by rw [e2, wrap_in (by omega) (by omega)]
    have hrd : rdOf ByteArray.empty x (i : Int) = x[i] := by simp [rdOf, List.getD_eq_getElem?_getD, List.getElem?_eq_getElem hlt]
    have hd : lists (x.drop i) = x[i].data.toList :: lists (x.drop (i + 1)) := by
      rw [List.drop_eq_getElem_cons hlt]; rfl
    have ht := hx x[i] (List.getElem_mem hlt)
    have hch := words_l1 x x[i] x (x.length : Int) (i : Int) k1 _ ht (by rw [hw]; exact hk1) x[i].size 0 (Nat.zero_le _) rfl
    refine ⟨k1 + x[i].size + 1 + 1, ?_⟩
    unfold spec_Words.l0
    rw [if_pos (by omega), if_pos (by omega), if_pos (by omega), hrd, hd]
    refine Eq.trans hch ?_
    rw [List.drop_zero]
    unfold wordsT
    rw [List.all_cons]
    unfold wordt
    rw [data_length]
    simp only [Bool.and_assoc]

theorem words_f (x : List ByteArray) (hl : x.length ≤ big) (hx : ∀ t ∈ x, t.size ≤ big) : ∃ k, spec_Words.f k x = some (wordsT (lists x) && decide (x.length ≤ 20)) := by
  obtain ⟨k, hk⟩ := words_l0 x hl hx x.length 0 (Nat.zero_le _) rfl
  refine ⟨k, ?_⟩
  unfold spec_Words.f
  simpa using hk

theorem words_any (A : Option Addr) (c : Nat) (l : List ByteArray) (w : World) (hr : Kd.C Kd.string w A l.length l) (hc : l.length ≤ c) (hl : l.length ≤ big) (hx : ∀ t ∈ l, t.size ≤ big) :
    Calls Tryd.prog 7 #[.slice A l.length c] w fun e w' => e = .returned (.bool (wordsT (lists l) && decide (l.length ≤ 20))) ∧ Drawn0 w w' := by
  obtain ⟨k, hk⟩ := words_f l hl hx
  exact spec_Words.calls k A c l _ w hr hc hk
end
end Go.Proofs.YtnbihmagbedfmaaDoorR
/- The contract of spec.Small: a text in small letters of ASCII. -/
namespace Go.Proofs.YtnbihmagbedfmaaDoorR
open Go.RowKit Go.Proofs.YtnbihmagbedfmaaDoorRW.PrintWords

def smallT (s : ByteArray) : ByteArray := ⟨(Lib.toLowerA s.data.toList).toArray⟩

def half (l : List UInt8) (i j : Nat) (h : j < l.length) : UInt8 := if j < i then Lib.lowerB l[j] else l[j]

structure SmallAt (k : Nat) (l : List UInt8) (i : Nat) (w0 w : World) : Prop where
  below : Below w0.heap.size w0 w
  cell : ∀ j (hj : j < l.length), w.cell? ⟨k, j, none⟩ = some (.int .u8 ((half l i j hj).toNat : Int))
  free : ∀ j, j < l.length → w.frozen? ⟨k, j, none⟩ = false

theorem low_of {b : UInt8} : (65 ≤ b.toNat ∧ b.toNat ≤ 90) → (Lib.lowerB b).toNat = b.toNat + 32 := by
  intro h
  have h1 : Lib.isUpperB b = true := by
    unfold Lib.isUpperB
    simp only [Bool.and_eq_true, decide_eq_true_eq, UInt8.le_iff_toNat_le]
    exact ⟨h.1, h.2⟩
  unfold Lib.lowerB
  rw [if_pos h1, UInt8.toNat_add]
  have : (32 : UInt8).toNat = 32 := rfl
  omega
theorem low_not {b : UInt8} : ¬ (65 ≤ b.toNat ∧ b.toNat ≤ 90) → Lib.lowerB b = b := by
  intro h
  have h1 : ¬ Lib.isUpperB b = true := by
    unfold Lib.isUpperB
    simp only [Bool.and_eq_true, decide_eq_true_eq, UInt8.le_iff_toNat_le]
    exact h
  unfold Lib.lowerB
  rw [if_neg h1]

theorem smallAt_put {g : Nat} {l : List UInt8} {k : Nat} {w0 w : World} (h : SmallAt g l k w0 w) (hg : w0.heap.size ≤ g) (hlt : k < l.length) (n : Int) (hn : n = ((Lib.lowerB l[k]).toNat : Int)) : SmallAt g l (k + 1) w0 (w.setCell ⟨g, k, none⟩ (.int .u8 n)) := by
  have hold := h.cell k hlt
  subst hn
  refine ⟨h.below.setCell (p := ⟨g, k, none⟩) hg _, fun j hj => ?_, fun j hj => ?_⟩
  · by_cases hjk : j = k
    · subst hjk
      rw [World.cell?_setCell_same _ _ _ hold]
      simp [half]
    · rw [World.cell?_setCell_other _ _ _ _ (by intro e; injection e with _ e _; exact hjk e.symm)]
      rw [h.cell j hj]
      have : half l k j hj = half l (k + 1) j hj := by
        unfold half
        by_cases h1 : j < k
        · rw [if_pos h1, if_pos (by omega)]
        · rw [if_neg h1, if_neg (by omega)]
      rw [this]
  · rw [World.frozen?_setCell]; exact h.free j hj
theorem smallAt_same {g : Nat} {l : List UInt8} {k : Nat} {w0 w : World} (h : SmallAt g l k w0 w) (hlt : k < l.length) (hn : Lib.lowerB l[k] = l[k]) : SmallAt g l (k + 1) w0 w := by
  refine ⟨h.below, fun j hj => ?_, h.free⟩
  rw [h.cell j hj]
  have : half l k j hj = half l (k + 1) j hj := by
    unfold half
    by_cases h1 : j < k
    · rw [if_pos h1, if_pos (by omega)]
    · by_cases h2 : j = k
      · subst h2
        rw [if_neg h1, if_pos (by omega), hn]
      · rw [if_neg h1, if_neg (by omega)]
  rw [this]

set_option maxRecDepth 100000 in
set_option maxHeartbeats 2000000 in
theorem small_any (s : ByteArray) (hs : s.size ≤ 4294967296) (w : World) :
    Calls Tryd.prog 8 #[.string s] w fun e w' => e = .returned (.string (smallT s)) ∧ Below w.heap.size w w' := by
  have hconv := Lib.run_convert_string_bytes (P := Tryd.prog) w 9 28 5 s Tryd.underlying9 Tryd.underlying28 Tryd.underlying5
  obtain ⟨l, hl⟩ : ∃ l, l = s.data.toList := ⟨_, rfl⟩
  have hlen : s.size = l.length := by rw [hl, data_length]
  have hfz : ∀ j, j < l.length → (Lib.bytesWorld w 5 s).frozen? ⟨w.heap.size, j, none⟩ = false := fun j hj => by
    have h1 : s.size ≤ (Lib.bytesCells w 5 s).size := by
      have h2 : (s.data.map fun b => Value.int .u8 b.toNat).size = s.size := by simp
      unfold Lib.bytesCells; rw [Array.size_append, h2]; omega
    have h3 : ¬ (Lib.bytesCells w 5 s).size ≤ j := by omega
    simp [World.frozen?, Lib.bytesWorld_at_new, h3]
  have hst : SmallAt w.heap.size l 0 w (Lib.bytesWorld w 5 s) := by
    refine ⟨⟨rfl, rfl, rfl, by rw [Lib.bytesWorld_size]; omega, fun i hi => Lib.bytesWorld_at_old w _ s i hi⟩, fun j hj => ?_, fun j hj => ?_⟩
    · rw [Lib.bytesWorld_cell w _ s j (by omega)]
      subst hl
      simp [half, List.getD_eq_getElem?_getD, List.getElem?_eq_getElem hj]
    · exact hfz j hj
  generalize Lib.bytesWorld w 5 s = w1 at hconv hst
  generalize grownCap w s.size 0 5 = cap at hconv
  have hsm : smallT s = ⟨(l.map Lib.lowerB).toArray⟩ := by rw [hl]; rfl
  rw [hsm]
  clear hsm
  rw [hlen] at hconv
  have hl32 : l.length ≤ 4294967296 := by omega
  clear hl hlen hs
  go_enter Tryd.func8, Tryd.ntmps8
  go_wp2

  go_wp2

  go_loopw [10, 4, 5] (fun i _ _ wr => ∃ k : Nat, k ≤ l.length ∧ i = .int .i64 k ∧ SmallAt w.heap.size l k w wr) (fun i _ _ _ => l.length - (intOf i).toNat)
  case atStart => exact ⟨0, Nat.zero_le _, rfl, hst⟩
  case round =>
    clear hconv hst
    obtain ⟨k, hk, rfl, hv⟩ := hrel
    by_cases hlt : k < l.length
    · have hc := hv.cell k hlt
      have hf := hv.free k hlt
      have hh : half l k k hlt = l[k] := by simp [half]
      rw [hh] at hc
      have hnx := Lib.hid (smallAt_put hv (Nat.le_refl _) hlt)
      have hsame := Lib.hid (smallAt_same hv hlt)
      generalize l[k] = b at *
      by_cases h1 : 65 ≤ b.toNat ∧ b.toNat ≤ 90
      · have hlo := Lib.hid (low_of h1)
        obtain ⟨h1, h2⟩ := h1
        go_wp2
        go_roundw
        case rel => exact ⟨k + 1, by omega, by go_num, hnx.out _ (by have := hlo.out; omega)⟩
        case measure => simp [intOf]; omega
      · have hlo := Lib.hid (low_not h1)
        by_cases h2 : 65 ≤ b.toNat
        · have h3 : 90 < b.toNat := by omega
          clear h1
          go_wp2
          go_roundw
          case rel => exact ⟨k + 1, by omega, by go_num, hsame.out hlo.out⟩
          case measure => simp [intOf]; omega
        · clear h1
          go_wp2
          go_roundw
          case rel => exact ⟨k + 1, by omega, by go_num, hsame.out hlo.out⟩
          case measure => simp [intOf]; omega
    · obtain rfl : k = l.length := by omega
      have hback := run_convert_bytes_back (P := Tryd.prog) wr 28 9 5 ⟨w.heap.size, 0, none⟩ cap (l.map Lib.lowerB) Tryd.underlying28 Tryd.underlying5 Tryd.underlying9 (fun j hj => by
        have hj' : j < l.length := by simpa using hj
        have e : (⟨w.heap.size, 0, none⟩ : Addr).add j = ⟨w.heap.size, j, none⟩ := by unfold Addr.add; split <;> simp_all
        rw [e, hv.cell j hj']
        simp [half, hj'])
      rw [List.length_map] at hback
      have hb := Lib.hid hv.below
      clear hv hk hlt
      go_wp2
      go_ret
      exact ⟨rfl, hb.out⟩
end Go.Proofs.YtnbihmagbedfmaaDoorR
/- Contracts of strings.Builder's copyCheck and WriteString at this dump (the shelf's proofs, turned: the dump's copyCheck refuses where the shelf's panics). -/
namespace Go.Proofs.YtnbihmagbedfmaaDoorR
open Go.RowKit

theorem bx_size : (Tryd.prog.info? 66).map (·.size) = some 2 := by kernel_rfl
theorem bx_lies : liesAt Tryd.prog Tryd.prog.depth 66 (2 / Tryd.prog.cellsOf 66) 0 66 1 = true := by kernel_rfl
theorem bx_byte : (Tryd.prog.info? 5).map (fun i => (i.zero, i.size, i.bytes)) = some (some (.int .u8 0), 1, 1) := by kernel_rfl

abbrev Bd (B b : Nat) (bs : List Value) (w : World) : Prop := Lib.IsBuilder 66 5 B b bs w

set_option maxHeartbeats 1000000 in
set_option maxRecDepth 100000 in
theorem copycheck_used (b : Nat) (w : World) (h0 : w.cell? ⟨b, 0, none⟩ = some (.pointer (some ⟨b, 0, none⟩))) :
    Calls Tryd.prog 71 #[.pointer (some ⟨b, 0, none⟩)] w fun e w' => e = .returned (.tuple #[]) ∧ w' = w := by
  obtain ⟨j, hj, _⟩ := Option.map_eq_some_iff.1 bx_size
  go_enter Tryd.func71, Tryd.ntmps71
  go_wp2
  rw [Lib.run_neq_ptr_same w _ Tryd.underlying64 hj]
  go_wp2
  go_end0
  exact ⟨rfl, rfl⟩

set_option maxHeartbeats 1000000 in
set_option maxRecDepth 100000 in
theorem copycheck_fresh (b : Nat) (w : World) (h0 : w.cell? ⟨b, 0, none⟩ = some (.pointer none)) (hsh : w.shape? b = some (66, 2)) (hfz : w.frozen? ⟨b, 0, none⟩ = false) :
    Calls Tryd.prog 71 #[.pointer (some ⟨b, 0, none⟩)] w fun e w' => e = .returned (.tuple #[]) ∧ w' = w.setCell ⟨b, 0, none⟩ (.pointer (some ⟨b, 0, none⟩)) := by
  obtain ⟨j, hj, hjs⟩ := Option.map_eq_some_iff.1 bx_size
  go_enter Tryd.func71, Tryd.ntmps71
  go_wp2
  rw [Lib.run_to_unsafe w ⟨b, 0, none⟩ Tryd.underlying64 Tryd.underlying108 hj (by rw [hjs]; decide) hsh (Nat.zero_lt_succ 1)]
  simp only [Result.andThen]
  rw [Oper.upon_value]
  go_wp2
  rw [run_callFunc_extern Tryd.func88 (by kernel_rfl) (by kernel_rfl) (by kernel_rfl) (e := Extern.AbiNoEscape.same) (by kernel_rfl)]
  rw [Lib.run_noEscape]
  simp only [Result.andThen]
  rw [Oper.upon_value]
  go_wp2
  rw [Lib.run_from_unsafe w ⟨b, 0, none⟩ Tryd.underlying108 Tryd.underlying64 hj hsh bx_lies]
  simp only [Result.andThen]
  rw [Oper.upon_value]
  go_wp2
  go_end0
  exact ⟨rfl, rfl⟩

theorem copycheck_any (B b : Nat) (bs : List Value) (w : World) (h : Bd B b bs w) :
    Calls Tryd.prog 71 #[.pointer (some ⟨b, 0, none⟩)] w fun e w' => e = .returned (.tuple #[]) ∧ (Lib.BuilderAt 66 5 B b (.pointer (some ⟨b, 0, none⟩)) bs w' ∧ Below B w w' ∧ Lib.OthersKept 5 (some b) w w') := by
  rcases h with h | h
  · refine (copycheck_fresh b w h.cell0 h.shape h.frozen0).mono ?_
    rintro e w' ⟨rfl, rfl⟩
    exact ⟨rfl, h.used _, (Below.refl B w).setCell (p := ⟨b, 0, none⟩) h.1 _, (Lib.OthersKept.refl _ _ w).setCell ⟨b, 0, none⟩ rfl _⟩
  · refine (copycheck_used b w h.cell0).mono ?_
    rintro e w' ⟨rfl, rfl⟩
    exact ⟨rfl, h, Below.refl B _, Lib.OthersKept.refl _ _ _⟩

set_option maxHeartbeats 2000000 in
set_option maxRecDepth 100000 in
theorem writestring_any (B b : Nat) (bs : List Value) (s : ByteArray) (w : World) (h : Bd B b bs w) (hlen : bs.length + s.size ≤ 140737488355328) (hBw : B ≤ w.heap.size) :
    Calls Tryd.prog 53 #[.pointer (some ⟨b, 0, none⟩), .string s] w fun e w' => e = .returned (.tuple #[.int .i64 s.size, .nilIface]) ∧ (Bd B b (bs ++ Lib.strCells s) w' ∧ Below B w w' ∧ Lib.OthersKept 5 (some b) w w') := by
  obtain ⟨i0, hi, hz0, hz1, hz2⟩ := info_parts bx_byte
  have HC := Lib.hid (copycheck_any B b bs w h)
  clear h
  go_enter Tryd.func53, Tryd.ntmps53
  go_wp2_with fail
  refine HC.out.mono ?_
  rintro e w1 ⟨rfl, h1, hb1, hk1⟩
  obtain ⟨hB, v, hbk, hown, hne⟩ := h1
  have c0 : w1.cell? ⟨b, 0, none⟩ = some (.pointer (some ⟨b, 0, none⟩)) := by rw [Lib.cell_of_heap hbk]; rfl
  have c1 : w1.cell? ⟨b, 1, none⟩ = some v := by rw [Lib.cell_of_heap hbk]; rfl
  go_wp2_with (at_builtin; refine Lib.wpList_append_own_string _ rfl _ _ 28 9 rfl B 5 i0 Tryd.underlying28 Tryd.underlying9 hi hz0 hz1 hz2 _ _ _ rfl hown s rfl ?c3 ?c4 ?c5 ?_)
  case c3 => unfold maxLen; omega
  case c4 => omega
  case c5 => have := hb1.size; omega
  intro v' w2 hown' hgrow _
  have hlt : b < w1.heap.size := by
    rcases Nat.lt_or_ge b w1.heap.size with h' | h'
    · exact h'
    · simp [Array.getElem?_eq_none h'] at hbk
  have hb2 : w2.heap[b]? = some (.cells #[.pointer (some ⟨b, 0, none⟩), v] 66 (0, 0)) := by
    rw [hgrow.block b hlt (fun e => hne e.symm)]
    exact hbk
  have d0 : w2.cell? ⟨b, 0, none⟩ = some (.pointer (some ⟨b, 0, none⟩)) := by rw [Lib.cell_of_heap hb2]; rfl
  have d1 : w2.cell? ⟨b, 1, none⟩ = some v := by rw [Lib.cell_of_heap hb2]; rfl
  have f1 : w2.frozen? ⟨b, 1, none⟩ = false := Lib.frozen_of_heap hb2 1
  obtain ⟨ao, n', cap, rfl⟩ : ∃ ao n' cap, v' = .slice ao n' cap := by
    rcases hown'.2 with ⟨hv, _⟩ | ⟨g, cap, cur, hv, _⟩
    · exact ⟨_, _, _, hv⟩
    · exact ⟨_, _, _, hv⟩
  go_wp2
  go_ret2
  refine ⟨rfl, ?_, ?_, (hk1.grown hgrow (Lib.ownsRowF_kind (World.ownsRowF_of hown))).setCell ⟨b, 1, none⟩ rfl _⟩
  · exact .inr (Lib.BuilderAt.put (T := 66) (e := 5) hB hb2 (bs' := bs ++ Lib.strCells s) (by simpa [Lib.strCells_length] using hown') (by decide))
  · exact (hb1.grown hgrow (by have := hb1.size; omega) (fun k hk => (hown.lt k hk).1)).setCell (p := ⟨b, 1, none⟩) hB _
end Go.Proofs.YtnbihmagbedfmaaDoorR
/- The contract of RenamingSubject.ToSubject: each reference in its place a star; the other parts as they are. -/
namespace Go.Proofs.YtnbihmagbedfmaaDoorR
open Go.RowKit Go.Proofs.YtnbihmagbedfmaaDoorRW.PrintWords
open Pl (hasSub toks toksA)

namespace Pl
def join : List (List UInt8) → List UInt8
  | [] => []
  | [t] => t
  | t :: u :: r => t ++ 46 :: join (u :: r)
theorem join_cons {t : List UInt8} {r : List (List UInt8)} (h : r ≠ []) : join (t :: r) = t ++ 46 :: join r := by
  cases r with
  | nil => exact absurd rfl h
  | cons u v => rfl
theorem join_toksA (cur l : List UInt8) : join (toksA 46 cur l) = cur ++ l := by
  induction l generalizing cur with
  | nil => simp [toksA, join]
  | cons c r ih =>
    unfold toksA
    split
    · rename_i h
      rw [join_cons (toksA_ne _ _ _), ih, h]
      simp
    · rw [ih]; simp
end Pl
open Pl (join)

section
variable (cv : ByteArray → ByteArray) (r : List ByteArray)
def outs : Nat → List UInt8
  | 0 => []
  | k + 1 => outs k ++ ((cv (r.getD k ByteArray.empty)).data.toList ++ (if k + 1 = r.length then [] else [46]))
def rest (k : Nat) : List UInt8 := join ((r.drop k).map fun t => (cv t).data.toList)
theorem outs_step (k : Nat) (h : k < r.length) : outs cv r k ++ rest cv r k = outs cv r (k + 1) ++ rest cv r (k + 1) := by
  have hg : r.getD k ByteArray.empty = r[k] := by simp [List.getD_eq_getElem?_getD, List.getElem?_eq_getElem h]
  unfold rest
  rw [List.drop_eq_getElem_cons h, List.map_cons]
  show _ = (outs cv r k ++ _) ++ _
  rw [hg]
  by_cases hl : k + 1 = r.length
  · rw [if_pos hl, hl, List.drop_length]
    simp [join]
  · rw [if_neg hl, Pl.join_cons (by simp; omega)]
    simp
theorem outs_all : ∀ k, k ≤ r.length → outs cv r k ++ rest cv r k = rest cv r 0
  | 0, _ => rfl
  | k + 1, h => by rw [← outs_step cv r k (by omega)]; exact outs_all k (by omega)
theorem outs_end : outs cv r r.length = join (r.map fun t => (cv t).data.toList) := by
  have := outs_all cv r r.length (Nat.le_refl _)
  unfold rest at this
  simpa [join] using this
theorem outs_len (k : Nat) (h : k ≤ r.length) : (outs cv r k).length ≤ (join (r.map fun t => (cv t).data.toList)).length := by
  have := congrArg List.length (outs_all cv r k h)
  unfold rest at this
  simp only [List.length_append, List.drop_zero] at this
  omega
end

/-- What a round makes of a part. -/
inductive Turned (t u : ByteArray) : Prop
  | short (h : t.size ≤ 1) (e : u = t)
  | other (h : 1 < t.size) (hc : t[0] ≠ 36) (e : u = t)
  | ref (n : Int) (h : 1 < t.size) (hc : t[0] = 36) (hx : (t.extract 1 t.size).size ≤ 18) (hn : Lib.atoi (t.extract 1 t.size).data.toList = some n) (e : u = ⟨#[42]⟩)

theorem bd_below {b : Nat} {bs : List Value} {w w' : World} (h : Bd b b bs w) (hb : Below w.heap.size w w') : Bd b b bs w' := by
  have key : ∀ p, Lib.BuilderAt 66 5 b b p bs w → Lib.BuilderAt 66 5 b b p bs w' := fun p ⟨h1, v, h2, h3, h4⟩ => ⟨h1, v, (hb.block b (lt_of_block h2)).trans h2, own_below h3 hb, h4⟩
  rcases h with h | h
  · exact .inl (key _ h)
  · exact .inr (key _ h)

theorem row_others {b base n : Nat} {v : Value} {xs : List Value} {w w1 : World} (h : w.ownsRow base 9 1 v n xs) (ho : Lib.OthersKept 5 (some b) w w1) (hB : b < base) : w1.ownsRow base 9 1 v n xs := by
  refine own_move h fun k hk => ?_
  obtain ⟨cells, hc⟩ := own_typed h k hk
  have hb := own_base h k hk
  rw [hc]
  refine ho k _ hc (fun e => by injection e with e; omega) (fun c fz e1 => ?_)
  injection e1 with _ e1 _
  exact absurd e1 (by decide)

theorem bytes_below (w : World) (t : ByteArray) : Below w.heap.size w (Lib.bytesWorld w 5 t) :=
  ⟨rfl, rfl, rfl, by rw [Lib.bytesWorld_size]; omega, fun i hi => Lib.bytesWorld_at_old w _ t i hi⟩
theorem others_of_below {e : TypeId} {b : Option Nat} {w w' : World} (h : Below w.heap.size w w') : Lib.OthersKept e b w w' :=
  fun k _ hk _ _ => (h.block k (lt_of_block hk)).trans hk

/-- The builder in block b, the parts' row. -/
structure Sub (b n : Nat) (T : Value) (r : List ByteArray) (bs : List UInt8) (w0 w : World) : Prop where
  bd : Bd b b (Lib.byteCells bs) w
  row : w.ownsRow (b + 1) 9 1 T n (encs Value.string r)
  below : Below w0.heap.size w0 w
  size : b + 1 ≤ w.heap.size

theorem Sub.write {b n : Nat} {T : Value} {r : List ByteArray} {bs : List UInt8} {w0 w : World} (h : Sub b n T r bs w0 w) (hb : w0.heap.size = b) (s : ByteArray) (hlen : bs.length + s.size ≤ 1000000) :
    Calls Tryd.prog 53 #[.pointer (some ⟨b, 0, none⟩), .string s] w fun e w' => e = .returned (.tuple #[.int .i64 s.size, .nilIface]) ∧ Sub b n T r (bs ++ s.data.toList) w0 w' := by
  refine (writestring_any b b _ s w h.bd (by rw [Lib.byteCells_length]; omega) (by have := h.size; omega)).mono fun e w' ⟨he, h1, h2, h3⟩ => ⟨he, ?_, row_others h.row h3 (Nat.lt_succ_self _), h.below.trans (hb ▸ h2), Nat.le_trans h.size h2.size⟩
  rw [Lib.byteCells_append, ← Lib.strCells_eq]
  exact h1
theorem Sub.on {b n : Nat} {T : Value} {r : List ByteArray} {bs : List UInt8} {w0 w w' : World} (h : Sub b n T r bs w0 w) (hb : w0.heap.size = b) (k : Below w.heap.size w w') : Sub b n T r bs w0 w' :=
  ⟨bd_below h.bd k, own_below h.row k, h.below.trans (k.mono (by have := h.size; omega)), Nat.le_trans h.size k.size⟩

set_option maxRecDepth 100000 in
set_option maxHeartbeats 1000000 in
theorem tosubject_none (s : ByteArray) (hs : s.size ≤ 4294967296) (h : hasSub [36] s.data.toList = false) (w : World) :
    Calls Tryd.prog 30 #[.string s] w fun e w' => e = .returned (.string s) ∧ Below w.heap.size w w' := by
  have H0 := Acc.refl w
  have hc := contains_any s ⟨#[36]⟩ hs (by decide) w
  rw [show (⟨#[36]⟩ : ByteArray).data.toList = [36] from rfl, h] at hc
  have HC := Lib.hid hc
  clear hc h
  go_enter Tryd.func30, Tryd.ntmps30
  go_wp2_with fail
  refine HC.out.mono ?_
  rintro e w1 ⟨rfl, hd⟩
  obtain ⟨n, rfl⟩ := hd.out
  go_wp2
  go_ret
  exact ⟨rfl, (H0.drewN n).out⟩

theorem row_at_string {w : World} {base : Nat} {e : TypeId} {A : Option Addr} {c : Nat} {xs : List ByteArray} (h : w.ownsRow base e 1 (.slice A xs.length c) xs.length (encs Value.string xs)) (k : Nat) (hk : k < xs.length) :
    ∃ ad, A = some ad ∧ w.cell? (ad.add k) = some (.string xs[k]) := by
  obtain ⟨g, cap, hv, _, _⟩ := h.form (by omega)
  have hA : A = some ⟨g, 0, none⟩ := by injection hv
  subst hA
  refine ⟨_, rfl, h.cells (g := g) rfl k _ ?_⟩
  simp [encs, List.getElem?_eq_getElem hk]

set_option maxRecDepth 100000 in
set_option maxHeartbeats 4000000 in
theorem tosubject_some (cv : ByteArray → ByteArray) (s : ByteArray) (r : List ByteArray) (hs : s.size ≤ 4294967296) (h : hasSub [36] s.data.toList = true) (hr : Psplit.natsjwt_split.f (s.size + 1) s ⟨#[46]⟩ = some r)
    (ht : ∀ t ∈ r, Turned t (cv t) ∧ (cv t).size ≤ 100) (hj : (join (r.map fun t => (cv t).data.toList)).length ≤ 10000) (hl : 0 < r.length) (hrl : r.length ≤ 4294967296) (w : World) :
    Calls Tryd.prog 30 #[.string s] w fun e w' => e = .returned (.string ⟨(join (r.map fun t => (cv t).data.toList)).toArray⟩) ∧ Below w.heap.size w w' := by
  have hc := contains_any s ⟨#[36]⟩ hs (by decide) w
  rw [show (⟨#[36]⟩ : ByteArray).data.toList = [36] from rfl, h] at hc
  have HC := Lib.hid hc
  have HS := fun w' => Lib.hid (Psplit.natsjwt_split.calls (s.size + 1) s ⟨#[46]⟩ r w' hr)
  have HE := Lib.hid (outs_end cv r)
  have HL := Lib.hid (fun k hk => Nat.le_trans (outs_len cv r k hk) hj)
  have HT := Lib.hid ht
  clear hc h hr hj ht
  go_enter Tryd.func30, Tryd.ntmps30
  go_wp2_with fail
  refine HC.out.mono ?_
  rintro e w1 ⟨rfl, hd⟩
  have hb1 : Below w.heap.size w w1 := by obtain ⟨n, rfl⟩ := hd.out; exact ((Acc.refl w).drewN n).out
  clear hd HC
  go_wp2_with fail
  refine (HS _).out.mono ?_
  rintro e w2 ⟨v, rfl, hR, hb2⟩
  have hown := Kd.own_of_R hR
  obtain ⟨A, cap, rfl⟩ : ∃ A cap, v = .slice A r.length cap := by
    obtain ⟨g, cap, hv, _, _⟩ := hown.form hl
    exact ⟨_, cap, hv⟩
  have hst : Sub w1.heap.size r.length (.slice A r.length cap) r (outs cv r 0) w1 w2 := by
    refine ⟨bd_below (w := w1.alloc (.cells #[.pointer none, .slice none 0 0] 66)) (.inl ⟨Nat.le_refl _, _, heap_alloc_new _ _, ⟨rfl, .inl ⟨rfl, rfl⟩⟩, by simp [Value.ownBlock]⟩) hb2, by simpa using hown, (((Below.refl _ _).alloc (Nat.le_refl _) _).trans (hb2.mono (by simp))), ?_⟩
    have := hb2.size; simp at this; exact this
  clear hown hR hb2 HS
  generalize hgb : w1.heap.size = b at *
  have HB := Lib.hid hgb
  have HB1 := Lib.hid hb1
  clear hgb hb1
  go_wp2
  go_loopw [19, 5, 6, 7, 8, 9] (fun i _ _ _ _ _ wr => ∃ k : Nat, k ≤ r.length ∧ i = .int .i64 k ∧ Sub b r.length (.slice A r.length cap) r (outs cv r k) w1 wr) (fun i _ _ _ _ _ _ => r.length - (intOf i).toNat)
  case atStart => exact ⟨0, Nat.zero_le _, rfl, hst⟩
  case round =>
    clear hst
    obtain ⟨k, hk, rfl, hv⟩ := hrel
    by_cases hlt : k < r.length
    · obtain ⟨ad, hA, hcell⟩ := row_at_string hv.row k hlt
      cases hA
      have htk := HT.out r[k] (List.getElem_mem hlt)
      have hou : outs cv r (k + 1) = outs cv r k ++ ((cv r[k]).data.toList ++ (if k + 1 = r.length then [] else [46])) := by
        have hg : r.getD k ByteArray.empty = r[k] := by simp [List.getD_eq_getElem?_getD, List.getElem?_eq_getElem hlt]
        rw [← hg]; rfl
      have hle := HL.out k hk
      obtain ⟨htu, hsz⟩ := htk
      have HW := fun w' (h : Sub b r.length (.slice (some ad) r.length cap) r (outs cv r k) w1 w') => Lib.hid (h.write HB.out (cv r[k]) (by omega))
      have HV := Lib.hid hv
      clear hv
      generalize r[k] = t at *
      have HTu := Lib.hid htu
      generalize cv t = u at *
      have HSz := Lib.hid hsz
      have HOU := Lib.hid hou
      clear hsz htu hou
      cases HTu.out with
      | short h e =>
        subst e
        go_wp2_with fail
        refine (HW _ HV.out).out.mono ?_
        rintro e w3 ⟨rfl, hv3⟩
        have hou := HOU.out
        by_cases hle1 : k + 1 = r.length
        · rw [if_pos hle1, List.append_nil] at hou
          have HO := Lib.hid hou
          clear hou
          have hq : (k : Int) = (r.length : Int) - 1 := by omega
          go_wp2
          go_roundw
          case rel => exact ⟨k + 1, by omega, by go_num, by rw [HO.out]; exact hv3⟩
          case measure => simp [intOf]; omega
        · rw [if_neg hle1] at hou
          have HO := Lib.hid hou
          have HD := Lib.hid (hv3.write HB.out ⟨#[46]⟩ (by have h1 := HL.out k hk; have h2 := HSz.out; rw [List.length_append]; first | (rw [data_length]; show _ + 1 ≤ _; omega) | (show _ + 1 + 1 ≤ _; omega)))
          clear hou
          have hq : ¬ (k : Int) = (r.length : Int) - 1 := by omega
          go_wp2_with fail
          refine HD.out.mono ?_
          rintro e w4 ⟨rfl, hv4⟩
          go_wp2
          go_roundw
          case rel => exact ⟨k + 1, by omega, by go_num, by rw [HO.out, ← List.append_assoc]; exact hv4⟩
          case measure => simp [intOf]; omega
      | other h hc e =>
        subst e
        have hn : ((u[0].toNat : Int) == 36) = false := by
          rw [beq_eq_false_iff_ne]
          exact fun e => hc (UInt8.toNat_inj.1 (by have : (36 : UInt8).toNat = 36 := rfl; omega))
        clear hc
        go_wp2_with fail
        refine (HW _ HV.out).out.mono ?_
        rintro e w3 ⟨rfl, hv3⟩
        have hou := HOU.out
        by_cases hle1 : k + 1 = r.length
        · rw [if_pos hle1, List.append_nil] at hou
          have HO := Lib.hid hou
          clear hou
          have hq : (k : Int) = (r.length : Int) - 1 := by omega
          go_wp2
          go_roundw
          case rel => exact ⟨k + 1, by omega, by go_num, by rw [HO.out]; exact hv3⟩
          case measure => simp [intOf]; omega
        · rw [if_neg hle1] at hou
          have HO := Lib.hid hou
          have HD := Lib.hid (hv3.write HB.out ⟨#[46]⟩ (by have h1 := HL.out k hk; have h2 := HSz.out; rw [List.length_append]; first | (rw [data_length]; show _ + 1 ≤ _; omega) | (show _ + 1 + 1 ≤ _; omega)))
          clear hou
          have hq : ¬ (k : Int) = (r.length : Int) - 1 := by omega
          go_wp2_with fail
          refine HD.out.mono ?_
          rintro e w4 ⟨rfl, hv4⟩
          go_wp2
          go_roundw
          case rel => exact ⟨k + 1, by omega, by go_num, by rw [HO.out, ← List.append_assoc]; exact hv4⟩
          case measure => simp [intOf]; omega
      | ref n h hc hx hn e =>
        have hm : ((t[0].toNat : Int) == 36) = true := by rw [hc]; rfl
        have HA := fun w' => Lib.hid (Tryd.strconv_Atoi (t.extract 1 t.size) n hx hn w')
        clear hc hn hx
        subst e
        go_wp2_with fail
        refine (HA _).out.mono ?_
        rintro e w5 ⟨rfl, z, rfl⟩
        have hz := HV.out.on HB.out (bytes_below wr z)
        generalize Lib.bytesWorld wr 5 z = w5 at *
        have HV5 := Lib.hid hz
        clear hz
        go_wp2_with fail
        refine (HW _ HV5.out).out.mono ?_
        rintro e w3 ⟨rfl, hv3⟩
        have hou := HOU.out
        by_cases hle1 : k + 1 = r.length
        · rw [if_pos hle1, List.append_nil] at hou
          have HO := Lib.hid hou
          clear hou
          have hq : (k : Int) = (r.length : Int) - 1 := by omega
          go_wp2
          go_roundw
          case rel => exact ⟨k + 1, by omega, by go_num, by rw [HO.out]; exact hv3⟩
          case measure => simp [intOf]; omega
        · rw [if_neg hle1] at hou
          have HO := Lib.hid hou
          have HD := Lib.hid (hv3.write HB.out ⟨#[46]⟩ (by have h1 := HL.out k hk; have h2 := HSz.out; rw [List.length_append]; first | (rw [data_length]; show _ + 1 ≤ _; omega) | (show _ + 1 + 1 ≤ _; omega)))
          clear hou
          have hq : ¬ (k : Int) = (r.length : Int) - 1 := by omega
          go_wp2_with fail
          refine HD.out.mono ?_
          rintro e w4 ⟨rfl, hv4⟩
          go_wp2
          go_roundw
          case rel => exact ⟨k + 1, by omega, by go_num, by rw [HO.out, ← List.append_assoc]; exact hv4⟩
          case measure => simp [intOf]; omega
    · obtain rfl : k = r.length := by omega
      have HS := Lib.hid (Tryd.Builder_String_any b b (outs cv r r.length) wr hv.bd (by have := hv.size; omega))
      have HV := Lib.hid hv
      clear hv
      go_wp2_with fail
      refine HS.out.mono ?_
      rintro e w3 ⟨rfl, hb3⟩
      go_wp2
      go_ret
      refine ⟨by rw [HE.out]; rfl, ?_⟩
      have hbb := HB.out
      subst hbb
      exact HB1.out.trans ((HV.out.below.trans hb3).mono HB1.out.size)
end Go.Proofs.YtnbihmagbedfmaaDoorR
