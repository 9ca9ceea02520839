/- What the printed functions contains, Tokens, Plain, split come to, in lists; and contracts of them in those words. -/
import Derived.Test.YtnbihmagbedfmaaPcontainsx
import Derived.Test.YtnbihmagbedfmaaPPlainx
import Derived.Test.YtnbihmagbedfmaaPsplitx
import Derived.Test.YtnbihmagbedfmaaPure
namespace Go.Proofs.Ytnbihmagbedfmaa
open Go.RowKit Go.Proofs.YtnbihmagbedfmaaW.PrintWords
open Pl (hasSub toks toksA valid plain plainT okt okc)

def big : Nat := 4294967296
theorem wrap_in {x : Int} (h0 : 0 ≤ x) (h1 : x ≤ 9000000000000000000) : wrap64 x = x := by unfold wrap64; omega

theorem drop_cons (s : ByteArray) (i : Nat) (h : i < s.size) : s.data.toList.drop i = s[i] :: s.data.toList.drop (i + 1) := by
  rw [List.drop_eq_getElem_cons (by rw [data_length]; exact h)]
  rfl

theorem contains_l0 (s sub : ByteArray) (hs : s.size ≤ big) (hb : sub.size ≤ big) : ∀ (d k i : Nat), i ≤ s.size → s.size - i = d → d < k →
    Pcontains.natsjwt_contains.l0 k s sub (i : Int) = some (hasSub sub.data.toList (s.data.toList.drop i)) := by
  unfold big at hs hb
  intro d
  induction d with
  | zero =>
    intro k i h1 h2 h3
    obtain ⟨k, rfl⟩ : ∃ m, k = m + 1 := ⟨k - 1, by omega⟩
    obtain rfl : i = s.size := by omega
    simp only [Pcontains.natsjwt_contains.l0]
    rw [wrap_in (by omega) (by omega)]
    have hd : s.data.toList.drop s.size = [] := List.drop_of_length_le (by rw [data_length]; exact Nat.le_refl _)
    rw [hd]
    by_cases hz : sub.size = 0
    · have he : sub.data.toList = [] := List.eq_nil_of_length_eq_zero (by rw [data_length]; exact hz)
      rw [if_pos (by omega), if_pos (by omega), if_pos (by omega), if_pos ?_, he]
      · rfl
      · rw [Lib.extract_toList, Lib.toList_data, he, Int.toNat_natCast, hd, List.take_nil]
    · rw [if_neg (by omega), Pl.hasSub_short _ _ (by rw [data_length]; simp; omega)]
  | succ d ih =>
    intro k i h1 h2 h3
    obtain ⟨k, rfl⟩ : ∃ m, k = m + 1 := ⟨k - 1, by omega⟩
    simp only [Pcontains.natsjwt_contains.l0]
    rw [wrap_in (x := (i : Int) + sub.size) (by omega) (by omega)]
    by_cases hle : i + sub.size ≤ s.size
    · rw [if_pos (by omega), if_pos (by omega), if_pos (by omega)]
      have he : ((s.extract ((i : Int)).toNat ((i : Int) + (sub.size : Int)).toNat).toList = sub.toList) ↔ (sub.data.toList.isPrefixOf (s.data.toList.drop i) = true) := by
        rw [Lib.extract_toList, Lib.toList_data, Pl.isPrefixOf_eq, decide_eq_true_eq, data_length]
        have : ((i : Int) + (sub.size : Int)).toNat - ((i : Int)).toNat = sub.size := by omega
        rw [this, Int.toNat_natCast]
      rw [drop_cons s i (by omega)] at he ⊢
      unfold hasSub
      by_cases hp : sub.data.toList.isPrefixOf (s[i] :: s.data.toList.drop (i + 1)) = true
      · rw [if_pos (he.2 hp), hp, Bool.true_or]
      · rw [if_neg (fun h => hp (he.1 h)), (Bool.eq_false_iff.2 hp : sub.data.toList.isPrefixOf (s[i] :: s.data.toList.drop (i + 1)) = false), Bool.false_or, wrap_in (by omega) (by omega)]
        exact ih k (i + 1) (by omega) (by omega) (by omega)
    · rw [if_neg (by omega), Pl.hasSub_short _ _ (by rw [data_length, List.length_drop, data_length]; omega)]

theorem contains_any (s sub : ByteArray) (hs : s.size ≤ big) (hb : sub.size ≤ big) (w : World) :
    Calls Try.prog 42 #[.string s, .string sub] w fun e w' => e = .returned (.bool (hasSub sub.data.toList s.data.toList)) ∧ Drawn0 w w' :=
  Pcontains.natsjwt_contains.calls (s.size + 1) s sub _ w (contains_l0 s sub hs hb s.size (s.size + 1) 0 (by omega) (by omega) (by omega))

/-- The bytes of each text of a list. -/
def lists (r : List ByteArray) : List (List UInt8) := r.map fun b => b.data.toList
theorem lists_append (a b : List ByteArray) : lists (a ++ b) = lists a ++ lists b := by simp [lists]
theorem lists_one (a : ByteArray) : lists [a] = [a.data.toList] := rfl

theorem extract_take (s : ByteArray) (i : Nat) : (s.extract 0 i).data.toList = s.data.toList.take i := by
  rw [Lib.extract_data]; simp
theorem extract_rest (s : ByteArray) (i : Nat) : (s.extract i s.size).data.toList = s.data.toList.drop i := by
  rw [Lib.extract_data]; exact List.take_of_length_le (by rw [List.length_drop, data_length]; exact Nat.le_refl _)
theorem extract_size (s : ByteArray) (i : Nat) : (s.extract i s.size).size = s.size - i := by
  rw [← data_length, extract_rest, List.length_drop, data_length]
theorem take_snoc (s : ByteArray) (i : Nat) (h : i < s.size) : s.data.toList.take (i + 1) = s.data.toList.take i ++ [s[i]] := by
  rw [List.take_succ_eq_append_getElem (by rw [data_length]; exact h)]; rfl

theorem split_l0 (c : UInt8) (sub : ByteArray) (hsub : sub.data.toList = [c]) : ∀ (d k : Nat) (s : ByteArray) (out : List ByteArray) (i : Nat), i ≤ s.size → s.size - i = d → d < k → s.size ≤ big → out.length + d ≤ big →
    ∃ r, Psplit.natsjwt_split.l0 k s sub out (i : Int) = some r ∧ lists r = lists out ++ toksA c (s.data.toList.take i) (s.data.toList.drop i) := by
  have hsz : sub.size = 1 := by rw [← data_length, hsub]; rfl
  unfold big
  intro d
  induction d with
  | zero =>
    intro k s out i h1 h2 h3 h4 h5
    obtain ⟨k, rfl⟩ : ∃ m, k = m + 1 := ⟨k - 1, by omega⟩
    obtain rfl : i = s.size := by omega
    simp only [Psplit.natsjwt_split.l0]
    rw [hsz, wrap_in (by omega) (by omega), if_neg (by omega), if_pos (by omega)]
    refine ⟨_, rfl, ?_⟩
    rw [lists_append, lists_one]
    have hd : s.data.toList.drop s.size = [] := List.drop_of_length_le (by rw [data_length]; exact Nat.le_refl _)
    have ht : s.data.toList.take s.size = s.data.toList := List.take_of_length_le (by rw [data_length]; exact Nat.le_refl _)
    rw [hd, ht]
    rfl
  | succ d ih =>
    intro k s out i h1 h2 h3 h4 h5
    obtain ⟨k, rfl⟩ : ∃ m, k = m + 1 := ⟨k - 1, by omega⟩
    simp only [Psplit.natsjwt_split.l0]
    have e1 : ((1 : Nat) : Int) = 1 := rfl
    rw [hsz, wrap_in (x := (i : Int) + ((1 : Nat) : Int)) (by omega) (by omega), e1, if_pos (by omega), if_pos (by omega), if_pos (by omega)]
    have hlt : i < s.size := by omega
    have he : (s.extract ((i : Int)).toNat ((i : Int) + 1).toNat).toList = [s[i]] := by
      rw [Lib.extract_toList]
      have h1 : ((i : Int) + 1).toNat - ((i : Int)).toNat = 1 := by omega
      rw [h1, Int.toNat_natCast, drop_cons s i hlt]
      rfl
    rw [he, Lib.toList_data, hsub, drop_cons s i hlt]
    unfold toksA
    by_cases hc : s[i] = c
    · rw [if_pos (by rw [hc]), if_pos (by omega), if_pos (by omega), if_pos (by omega), if_pos hc]
      have e2 : ((i : Int) + 1).toNat = i + 1 := by omega
      rw [e2, Int.toNat_natCast]
      obtain ⟨r, hr, hl⟩ := ih k (s.extract (i + 1) s.size) (out ++ [s.extract 0 i]) 0 (Nat.zero_le _) (by rw [extract_size]; omega) (by omega) (by rw [extract_size]; omega) (by simp; omega)
      refine ⟨r, hr, ?_⟩
      rw [hl, lists_append, lists_one, extract_take, extract_rest]
      simp
    · rw [if_neg (by simpa using hc), if_neg hc]
      have e2 : ((i : Int) + 1) = ((i + 1 : Nat) : Int) := by omega
      rw [e2, wrap_in (by omega) (by omega)]
      obtain ⟨r, hr, hl⟩ := ih k s out (i + 1) (by omega) (by omega) (by omega) h4 (by omega)
      exact ⟨r, hr, by rw [hl, take_snoc s i hlt]⟩

theorem split_f (c : UInt8) (s sub : ByteArray) (hsub : sub.data.toList = [c]) (hs : s.size ≤ big) :
    ∃ r, Psplit.natsjwt_split.f (s.size + 1) s sub = some r ∧ lists r = toks c s.data.toList := by
  obtain ⟨r, h, hl⟩ := split_l0 c sub hsub s.size (s.size + 1) s [] 0 (Nat.zero_le _) rfl (Nat.lt_succ_self _) hs (by simpa using hs)
  exact ⟨r, h, hl⟩

theorem tokens_l0 (s : ByteArray) (hs : s.size ≤ big) : ∀ (d k : Nat) (out : List ByteArray) (a i : Nat), a ≤ i → i ≤ s.size → s.size - i = d → d + 1 < k → out.length + d ≤ big →
    ∃ r, PPlain.spec_Tokens.l0 k s out (a : Int) (i : Int) = some r ∧ lists r = lists out ++ toksA 46 ((s.data.toList.drop a).take (i - a)) (s.data.toList.drop i) := by
  unfold big at *
  intro d
  induction d with
  | zero =>
    intro k out a i ha h1 h2 h3 h5
    obtain ⟨k, rfl⟩ : ∃ m, k = m + 2 := ⟨k - 2, by omega⟩
    obtain rfl : i = s.size := by omega
    unfold PPlain.spec_Tokens.l0
    rw [if_pos (by omega), if_pos rfl, if_pos (by omega), if_pos (by omega), if_pos (by omega), wrap_in (by omega) (by omega)]
    unfold PPlain.spec_Tokens.l0
    rw [if_neg (by omega)]
    refine ⟨_, rfl, ?_⟩
    rw [lists_append, lists_one, Lib.extract_data]
    have hd : s.data.toList.drop s.size = [] := List.drop_of_length_le (by rw [data_length]; exact Nat.le_refl _)
    rw [hd]
    simp [toksA]
  | succ d ih =>
    intro k out a i ha h1 h2 h3 h5
    obtain ⟨k, rfl⟩ : ∃ m, k = m + 1 := ⟨k - 1, by omega⟩
    have hlt : i < s.size := by omega
    unfold PPlain.spec_Tokens.l0
    rw [if_pos (by omega), if_neg (by omega), if_pos (by omega), if_pos (by omega), drop_cons s i hlt]
    have hbt : bt s (i : Int) = (s[i].toNat : Int) := by
      unfold bt
      rw [dif_pos (by simpa using hlt)]
      simp
    have e2 : ((i : Int) + 1) = ((i + 1 : Nat) : Int) := by omega
    rw [e2, wrap_in (by omega) (by omega), hbt]
    unfold toksA
    by_cases hc : s[i] = 46
    · rw [if_pos (by rw [hc]; rfl), if_pos (by omega), if_pos (by omega), if_pos (by omega), if_pos hc]
      obtain ⟨r, hr, hl⟩ := ih k (out ++ [s.extract (a : Int).toNat (i : Int).toNat]) (i + 1) (i + 1) (Nat.le_refl _) (by omega) (by omega) (by omega) (by simp; omega)
      refine ⟨r, hr, ?_⟩
      rw [hl, lists_append, lists_one, Lib.extract_data]
      simp
    · have hn : ¬ (s[i].toNat : Int) = 46 := fun h => hc (UInt8.toNat_inj.1 (by simpa using (by omega : s[i].toNat = 46)))
      rw [if_neg hn, if_neg hc]
      obtain ⟨r, hr, hl⟩ := ih k out a (i + 1) (by omega) (by omega) (by omega) (by omega) (by omega)
      refine ⟨r, hr, ?_⟩
      rw [hl]
      congr 2
      have e3 : i + 1 - a = (i - a) + 1 := by omega
      rw [e3, List.take_succ_eq_append_getElem (by rw [List.length_drop, data_length]; omega)]
      congr 1
      rw [List.getElem_drop]
      simp only [show a + (i - a) = i from by omega]
      rfl

theorem tokens_f (s : ByteArray) (hs : s.size ≤ big) : ∃ r, PPlain.spec_Tokens.f (s.size + 2) s = some r ∧ lists r = toks 46 s.data.toList := by
  obtain ⟨r, h, hl⟩ := tokens_l0 s hs s.size (s.size + 2) [] 0 0 (Nat.le_refl _) (Nat.zero_le _) rfl (by omega) (by simpa using hs)
  exact ⟨r, h, hl⟩

theorem bt_get (s : ByteArray) (i : Nat) (h : i < s.size) : bt s (i : Int) = (s[i].toNat : Int) := by
  unfold bt
  rw [dif_pos (by simpa using h)]
  simp

theorem okc_iff (c : UInt8) : okc c = true ↔ (97 ≤ c.toNat ∧ c.toNat ≤ 122) ∨ (65 ≤ c.toNat ∧ c.toNat ≤ 90) ∨ (48 ≤ c.toNat ∧ c.toNat ≤ 57) ∨ c.toNat = 95 ∨ c.toNat = 36 := by
  have h : ∀ n : Nat, n < 256 → ((c = UInt8.ofNat n) ↔ c.toNat = n) := fun n hn => by
    constructor
    · rintro rfl; simp; omega
    · intro h; apply UInt8.toNat_inj.1; rw [h]; simp; omega
  have h1 : c = 95 ↔ c.toNat = 95 := h 95 (by omega)
  have h2 : c = 36 ↔ c.toNat = 36 := h 36 (by omega)
  unfold okc
  simp only [Bool.or_eq_true, Bool.and_eq_true, decide_eq_true_eq, beq_iff_eq, h1, h2]
  omega

section
open PPlain
theorem plain_l1 (x0 t : ByteArray) (x3 x10 : List ByteArray) (x11 x12 : Int) (k1 : Nat) (r : Bool) (ht : t.size ≤ big) (hn : spec_Plain.l0 k1 x0 x3 x10 x11 (wrap64 (x12 + 1)) = some r) : ∀ (d j : Nat), j ≤ t.size → t.size - j = d →
    spec_Plain.l1 (k1 + d + 1) x0 x3 t x10 x11 x12 (t.size : Int) (j : Int) = some ((t.data.toList.drop j).all okc && (!t.data.toList.isEmpty && r)) := by
  unfold big at ht
  intro d
  induction d with
  | zero =>
    intro j h1 h2
    obtain rfl : j = t.size := by omega
    have hd : t.data.toList.drop t.size = [] := List.drop_of_length_le (by rw [data_length]; exact Nat.le_refl _)
    unfold spec_Plain.l1
    rw [if_neg (by omega), hd, Lib.toList_data]
    by_cases he : t.data.toList = []
    · rw [if_pos he, he]; rfl
    · have he' : t.data.toList.isEmpty = false := by simpa using he
      rw [if_neg he, he', List.all_nil, Bool.true_and, Bool.not_false, Bool.true_and]
      exact hn
  | succ d ih =>
    intro j h1 h2
    have hlt : j < t.size := by omega
    have ih' := ih (j + 1) (by omega) (by omega)
    have e2 : ((j : Int) + 1) = ((j + 1 : Nat) : Int) := by omega
    have hw : wrap64 ((j : Int) + 1) = ((j + 1 : Nat) : Int) := by rw [e2, wrap_in (by omega) (by omega)]
    have hgo : ∀ b : Bool, okc t[j] = b → ((t.data.toList.drop j).all okc && (!t.data.toList.isEmpty && r)) = (b && ((t.data.toList.drop (j + 1)).all okc && (!t.data.toList.isEmpty && r))) := by
      intro b hb
      rw [drop_cons t j hlt, List.all_cons, hb, Bool.and_assoc]
    have hok := okc_iff t[j]
    have hb := bt_get t j hlt
    show spec_Plain.l1 ((k1 + d + 1) + 1) x0 x3 t x10 x11 x12 (t.size : Int) (j : Int) = _
    unfold spec_Plain.l1
    rw [hw, hb, if_pos (by omega), if_pos (by omega), if_pos (by omega)]
    cases hc : okc t[j] with
    | true =>
      have hk := hok.1 hc
      rw [hgo true hc, Bool.true_and, ← ih']
      generalize t[j].toNat = n at hk
      generalize spec_Plain.l1 (k1 + d + 1) x0 x3 t x10 x11 x12 (t.size : Int) ((j + 1 : Nat) : Int) = g
      repeat' split
      all_goals first | rfl | (exfalso; omega)
    | false =>
      have hk : ¬ _ := fun h => Bool.false_ne_true (hc.symm.trans (hok.2 h))
      rw [hgo false hc, Bool.false_and]
      generalize t[j].toNat = n at hk
      generalize spec_Plain.l1 (k1 + d + 1) x0 x3 t x10 x11 x12 (t.size : Int) ((j + 1 : Nat) : Int) = g
      repeat' split
      all_goals first | rfl | (exfalso; omega)

theorem plainT_cons (t : List UInt8) (r : List (List UInt8)) : plainT (t :: r) = (okt r.isEmpty t && plainT r) := by
  cases r with
  | nil => simp [plainT]
  | cons u v => simp [plainT]

theorem plain_l0 (s : ByteArray) (x : List ByteArray) (hl : x.length ≤ big) (hx : ∀ t ∈ x, t.size ≤ big) : ∀ (d i : Nat), i ≤ x.length → x.length - i = d →
    ∃ k, spec_Plain.l0 k s x x (x.length : Int) (i : Int) = some (plainT (lists (x.drop i)) && decide (s.size ≤ 60)) := by
  unfold big at hl
  intro d
  induction d with
  | zero =>
    intro i h1 h2
    obtain rfl : i = x.length := by omega
    refine ⟨1, ?_⟩
    unfold spec_Plain.l0
    rw [if_neg (by omega), List.drop_length]
    have : decide ((s.size : Int) ≤ 60) = decide (s.size ≤ 60) := by rw [decide_eq_decide]; omega
    rw [this]
    rfl
  | succ d ih =>
    intro i h1 h2
    have hlt : i < x.length := by omega
    obtain ⟨k1, hk1⟩ := ih (i + 1) (by omega) (by omega)
    have e2 : ((i : Int) + 1) = ((i + 1 : Nat) : Int) := by omega
    have hw : wrap64 ((i : Int) + 1) = ((i + 1 : Nat) : Int) := by rw [e2, wrap_in (by omega) (by omega)]
    have hlast : ((i : Int) == wrap64 ((x.length : Int) - 1)) = (lists (x.drop (i + 1))).isEmpty := by
      rw [wrap_in (by omega) (by omega), Bool.eq_iff_iff]
      simp only [beq_iff_eq, lists, List.isEmpty_iff, List.map_eq_nil_iff, List.drop_eq_nil_iff]
      omega
    have hrd : rdOf ByteArray.empty x (i : Int) = x[i] := by simp [rdOf, List.getD_eq_getElem?_getD, List.getElem?_eq_getElem hlt]
    have hd : lists (x.drop i) = x[i].data.toList :: lists (x.drop (i + 1)) := by
      rw [List.drop_eq_getElem_cons hlt]; rfl
    have ht := hx x[i] (List.getElem_mem hlt)
    have hch := plain_l1 s x[i] x x (x.length : Int) (i : Int) k1 _ ht (by rw [hw]; exact hk1) x[i].size 0 (Nat.zero_le _) rfl
    have hj : ∀ k, spec_Plain.j1 (k + 1) s x x[i] x (x.length : Int) (i : Int) true = spec_Plain.l0 k s x x (x.length : Int) ((i + 1 : Nat) : Int) := by
      intro k; unfold spec_Plain.j1; rw [if_pos rfl, hw]
    have hj2 : ∀ k, spec_Plain.j1 (k + 1) s x x[i] x (x.length : Int) (i : Int) false = spec_Plain.l1 k s x x[i] x (x.length : Int) (i : Int) (x[i].size : Int) 0 := by
      intro k; unfold spec_Plain.j1; rw [if_neg (by simp)]
    rw [hd, plainT_cons]
    have hfin : (okt (lists (x.drop (i + 1))).isEmpty x[i].data.toList && plainT (lists (x.drop (i + 1))) && decide (s.size ≤ 60)) = (okt (lists (x.drop (i + 1))).isEmpty x[i].data.toList && (plainT (lists (x.drop (i + 1))) && decide (s.size ≤ 60))) := Bool.and_assoc _ _ _
    rw [hfin]
    generalize hr : (plainT (lists (x.drop (i + 1))) && decide (s.size ≤ 60)) = r at *
    generalize (lists (x.drop (i + 1))).isEmpty = la at *
    have hword : ∀ (a : ByteArray), a.toList = a.data.toList := Lib.toList_data
    by_cases h42 : x[i].data.toList = [42]
    · refine ⟨k1 + 2, ?_⟩
      unfold spec_Plain.l0
      rw [hrd, if_pos (by omega), if_pos (by omega), if_pos (by omega), hword, if_pos h42, hj, hk1, h42]
      simp [okt]
    · by_cases h62 : x[i].data.toList = [62]
      · cases hla : la with
        | true =>
          refine ⟨k1 + 2, ?_⟩
          unfold spec_Plain.l0
          rw [hrd, if_pos (by omega), if_pos (by omega), if_pos (by omega), hword, if_neg h42, if_pos h62, hlast, hla, hj, hk1, h62]
          simp [okt]
        | false =>
          refine ⟨k1 + x[i].size + 1 + 2, ?_⟩
          unfold spec_Plain.l0
          rw [hrd, if_pos (by omega), if_pos (by omega), if_pos (by omega), hword, if_neg h42, if_pos h62, hlast, hla, hj2]
          have := hch
          rw [List.drop_zero] at this
          refine this.trans ?_
          rw [h62]
          congr 1
      · refine ⟨k1 + x[i].size + 1 + 2, ?_⟩
        unfold spec_Plain.l0
        rw [hrd, if_pos (by omega), if_pos (by omega), if_pos (by omega), hword, if_neg h42, if_neg h62, hj2]
        have := hch
        rw [List.drop_zero] at this
        refine this.trans ?_
        unfold okt
        rw [beq_eq_false_iff_ne.2 h42, beq_eq_false_iff_ne.2 h62, Bool.false_and, Bool.false_or, Bool.false_or, Bool.and_assoc]

theorem tok_size (l : List UInt8) (cur : List UInt8) : ∀ t ∈ toksA 46 cur l, t.length ≤ cur.length + l.length := by
  induction l generalizing cur with
  | nil => intro t ht; simp [toksA] at ht; subst ht; simp
  | cons c r ih =>
    intro t ht
    unfold toksA at ht
    split at ht
    · rcases List.mem_cons.1 ht with rfl | ht
      · simp
      · have := ih [] t ht; simp at this ⊢; omega
    · have := ih _ t ht; simp at this ⊢; omega

theorem plain_f (s : ByteArray) (hs : s.size ≤ 2147483647) : ∃ k, spec_Plain.f k s = some (plain s.data.toList) := by
  obtain ⟨x, hx, hl⟩ := tokens_f s (by unfold big; omega)
  have hlen : x.length = (toks 46 s.data.toList).length := by rw [← hl]; simp [lists]
  have hle := Pl.toksA_length 46 [] s.data.toList
  rw [data_length] at hle
  obtain ⟨k, hk⟩ := plain_l0 s x (by unfold big; rw [hlen]; unfold toks; omega) (fun t ht => by
    have h1 : t.data.toList ∈ toks 46 s.data.toList := by rw [← hl]; exact List.mem_map_of_mem ht
    have h2 := tok_size s.data.toList [] _ h1
    rw [data_length, data_length] at h2
    unfold big; simp at h2; omega) x.length 0 (Nat.zero_le _) rfl
  refine ⟨max (s.size + 2) k, ?_⟩
  unfold spec_Plain.f
  rw [at_rounds (g := fun k => spec_Tokens.f k s) (fun k => spec_Tokens.mono s k) (Nat.le_max_left (s.size + 2) k) hx]
  simp only [Option.bind_some]
  have := at_rounds (g := fun k => spec_Plain.l0 k s x x (x.length : Int) 0) (fun k => (spec_Plain.mono_l k).1 _ _ _ _ _) (Nat.le_max_right (s.size + 2) k) hk
  rw [this, List.drop_zero, hl]
  unfold plain
  rw [data_length]

theorem plain_any (s : ByteArray) (hs : s.size ≤ 2147483647) (w : World) :
    Calls Try.prog 7 #[.string s] w fun e w' => e = .returned (.bool (plain s.data.toList)) ∧ Below w.heap.size w w' := by
  obtain ⟨k, hk⟩ := plain_f s hs
  exact spec_Plain.calls k s _ w hk
end
end Go.Proofs.Ytnbihmagbedfmaa
