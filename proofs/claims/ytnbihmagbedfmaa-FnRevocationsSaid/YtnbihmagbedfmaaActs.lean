/- The acts on revocations, as lists of entries: what each makes of the list, and of the map's datum. -/
import Derived.Test.YtnbihmagbedfmaaRevSpec
import Derived.WideShapes
import Derived.WideAt
namespace Go.Proofs.Ytnbihmagbedfmaa
open Go.RowKit Go.Maps Go.WideMaps

def bb (a b : ByteArray) : Bool := bytesBefore a.data.toList b.data.toList
theorem bb_irrefl (a : ByteArray) : bb a a = false := WideAt.bytes_irrefl _
theorem bb_trans {a b c : ByteArray} (h1 : bb a b = true) (h2 : bb b c = true) : bb a c = true := WideShapes.bytes_trans _ _ _ h1 h2
theorem bb_asymm {a b : ByteArray} (h : bb a b = true) : bb b a = false := by
  cases h2 : bb b a with
  | false => rfl
  | true => have := bb_trans h h2; rw [bb_irrefl] at this; cases this
theorem bb_total {a b : ByteArray} (h : a ≠ b) : bb a b = true ∨ bb b a = true :=
  WideAt.bytes_total _ _ fun e => h (ByteArray.ext (Array.toList_inj.1 e))
theorem bb_ne {a b : ByteArray} (h : bb a b = true) : a ≠ b := fun e => by subst e; rw [bb_irrefl] at h; cases h

theorem up_cons {e : En} {r : List En} : Up (e :: r) ↔ (∀ x ∈ r, bb e.f0 x.f0 = true) ∧ Up r := List.pairwise_cons
theorem Up.nodup {L : List En} (h : Up L) : (L.map (·.f0)).Nodup := List.pairwise_map.2 (List.Pairwise.imp (fun hab => bb_ne hab) h)

/-- Revoked, as a list. -/
def revL : List En → ByteArray → Int → List En
  | [], s, t => [⟨s, t⟩]
  | e :: r, s, t => if bb e.f0 s = true then e :: revL r s t else if e.f0 = s then ⟨s, max e.f1 t⟩ :: r else ⟨s, t⟩ :: e :: r

theorem revL_mem (s : ByteArray) (t : Int) : ∀ (L : List En), ∀ x ∈ revL L s t, (∃ e ∈ L, e.f0 = x.f0) ∨ x.f0 = s
  | [], x, h => by simp [revL] at h; subst h; exact .inr rfl
  | e :: r, x, h => by
    unfold revL at h
    split at h
    · rcases List.mem_cons.1 h with rfl | h
      · exact .inl ⟨x, by simp, rfl⟩
      · rcases revL_mem s t r x h with ⟨y, hy, h1⟩ | h1
        · exact .inl ⟨y, by simp [hy], h1⟩
        · exact .inr h1
    · split at h
      · rcases List.mem_cons.1 h with rfl | h
        · exact .inr rfl
        · exact .inl ⟨x, by simp [h], rfl⟩
      · rcases List.mem_cons.1 h with rfl | h
        · exact .inr rfl
        · exact .inl ⟨x, h, rfl⟩
theorem revL_len (s : ByteArray) (t : Int) : ∀ (L : List En), (revL L s t).length ≤ L.length + 1
  | [] => by simp [revL]
  | e :: r => by
    have := revL_len s t r
    unfold revL
    split
    · simp; omega
    · split <;> simp

theorem revL_up (s : ByteArray) (t : Int) : ∀ (L : List En), Up L → Up (revL L s t)
  | [], _ => by unfold revL; exact List.pairwise_singleton _ _
  | e :: r, h => by
    obtain ⟨h1, h2⟩ := up_cons.1 h
    unfold revL
    split
    · next hb =>
      refine up_cons.2 ⟨fun x hx => ?_, revL_up s t r h2⟩
      rcases revL_mem s t r x hx with ⟨y, hy, h3⟩ | h3
      · rw [← h3]; exact h1 y hy
      · rw [h3]; exact hb
    · next hb =>
      split
      · next he => subst he; exact up_cons.2 ⟨h1, h2⟩
      · next he =>
        have hse : bb s e.f0 = true := (bb_total he).resolve_left hb
        refine up_cons.2 ⟨fun x hx => ?_, h⟩
        rcases List.mem_cons.1 hx with rfl | hx
        · exact hse
        · exact bb_trans hse (h1 x hx)

theorem filter_none {L : List En} {s : ByteArray} (h : ∀ e ∈ L, e.f0 ≠ s) : (L.filter fun e => decide (e.f0 ≠ s)) = L := by
  rw [List.filter_eq_self]
  intro e he
  simp [h e he]

theorem ins_revL (s : ByteArray) (t : Int) : ∀ (L : List En), Up L → (∀ e ∈ L, e.f0 = s → e.f1 ≤ t) → ins ⟨s, t⟩ (L.filter fun e => decide (e.f0 ≠ s)) = revL L s t
  | [], _, _ => rfl
  | y :: r, h, hc => by
    obtain ⟨h1, h2⟩ := up_cons.1 h
    by_cases hy : y.f0 = s
    · have hr : ∀ e ∈ r, e.f0 ≠ s := fun e he h3 => bb_ne (h1 e he) (hy.trans h3.symm)
      have hm := hc y (by simp) hy
      rw [List.filter_cons, decide_eq_false (by simp [hy]), if_neg (by decide), filter_none hr]
      unfold revL
      rw [hy, bb_irrefl, if_neg (by decide), if_pos rfl, show max y.f1 t = t by omega]
      cases r with
      | nil => rfl
      | cons z q =>
        have hz := h1 z (by simp)
        rw [hy] at hz
        unfold ins
        rw [if_pos (show bytesBefore s.data.toList z.f0.data.toList = true from hz)]
    · rw [List.filter_cons, decide_eq_true hy, if_pos rfl]
      unfold ins revL
      rcases bb_total hy with hb | hb
      · rw [if_neg (by show ¬ bb s y.f0 = true; rw [bb_asymm hb]; decide), if_pos hb]
        exact congrArg _ (ins_revL s t r h2 fun e he => hc e (by simp [he]))
      · have hr : ∀ e ∈ r, e.f0 ≠ s := fun e he h3 => by have := bb_asymm (h1 e he); rw [h3, hb] at this; cases this
        rw [if_pos (show bytesBefore s.data.toList y.f0.data.toList = true from hb), if_neg (by rw [bb_asymm hb]; decide), if_neg hy, filter_none hr]

theorem revL_kept (s : ByteArray) (t : Int) : ∀ (L : List En), Up L → (∃ e ∈ L, e.f0 = s ∧ t < e.f1) → revL L s t = L
  | [], _, h => by obtain ⟨e, he, _⟩ := h; cases he
  | y :: r, h, ⟨e, he, h3, h4⟩ => by
    obtain ⟨h1, h2⟩ := up_cons.1 h
    unfold revL
    rcases List.mem_cons.1 he with rfl | he
    · rw [h3, bb_irrefl, if_neg (by decide), if_pos rfl, show max e.f1 t = e.f1 by omega, ← h3]
    · rw [if_pos (by rw [← h3]; exact h1 e he), revL_kept s t r h2 ⟨e, he, h3, h4⟩]

theorem at_mem {L : List En} {s : ByteArray} {c : Int} (hat : (MD L).atKey (kl s) (i64 0) = i64 c) (hh : has (MD L) (kl s) = true) : (⟨s, c⟩ : En) ∈ L := by
  rw [at_MD] at hat
  rw [has_MD, List.any_eq_true] at hh
  obtain ⟨x, hx, hx2⟩ := hh
  cases hf : L.find? fun e => decide (e.f0 = s) with
  | none => exact absurd hx2 (List.find?_eq_none.1 hf x hx)
  | some a =>
    rw [hf] at hat
    have h1 := List.mem_of_find?_eq_some hf
    have h2 := List.find?_some hf
    simp [i64] at hat
    have h3 : a.f0 = s := by simpa using h2
    rw [← hat, ← h3]
    exact h1

/-- Revoke does to the map what Revoked does to the list. -/
theorem revD_MD {L : List En} (h : Up L) {s : ByteArray} {t c : Int} (hat : (MD L).atKey (kl s) (i64 0) = i64 c) : revD (MD L) s t c = MD (revL L s t) := by
  unfold revD
  by_cases hh : has (MD L) (kl s) = true
  · have hm := at_mem hat hh
    by_cases hc : c > t
    · rw [if_pos ⟨hh, hc⟩, revL_kept s t L h ⟨_, hm, rfl, hc⟩]
    · rw [if_neg (fun e => hc e.2), put_MD, ins_revL s t L h fun e he h1 => by have := one_key h.nodup he hm h1; subst this; simpa using hc]
  · rw [if_neg (fun e => hh e.1), put_MD, ins_revL s t L h fun e he h1 => (hh (by rw [has_MD, List.any_eq_true]; exact ⟨e, he, by simp [h1]⟩)).elim]

theorem atD_iff {L : List En} (h : Up L) {s : ByteArray} {t c : Int} (hat : (MD L).atKey (kl s) (i64 0) = i64 c) : atD (MD L) s t c = L.any fun e => decide (e.f0 = s) && decide (t ≤ e.f1) := by
  unfold atD
  rw [Bool.eq_iff_iff, Bool.and_eq_true, List.any_eq_true]
  constructor
  · rintro ⟨hh, ht⟩
    exact ⟨_, at_mem hat hh, by simpa using ht⟩
  · rintro ⟨e, he, h1⟩
    simp only [Bool.and_eq_true, decide_eq_true_eq] at h1
    have hh : has (MD L) (kl s) = true := by rw [has_MD, List.any_eq_true]; exact ⟨e, he, by simp [h1.1]⟩
    have := one_key h.nodup he (at_mem hat hh) h1.1
    subst this
    exact ⟨hh, by simpa using h1.2⟩
theorem is_MD {L : List En} (h : Up L) {s : ByteArray} {t c c' : Int} (hat : (MD L).atKey (kl starS) (i64 0) = i64 c) (hat' : (MD L).atKey (kl s) (i64 0) = i64 c') : (atD (MD L) starS t c || atD (MD L) s t c') = isL L s t := by
  rw [atD_iff h hat, atD_iff h hat']
  unfold isL
  rw [Bool.eq_iff_iff, Bool.or_eq_true, List.any_eq_true, List.any_eq_true, List.any_eq_true]
  constructor
  · rintro (⟨e, he, h1⟩ | ⟨e, he, h1⟩) <;> exact ⟨e, he, by simp_all⟩
  · rintro ⟨e, he, h1⟩
    simp only [Bool.and_eq_true, Bool.or_eq_true, decide_eq_true_eq] at h1
    rcases h1.1 with h2 | h2
    · exact .inr ⟨e, he, by simp [h2, h1.2]⟩
    · exact .inl ⟨e, he, by simp [h2, h1.2]⟩

theorem Up.filter {L : List En} (h : Up L) (p : En → Bool) : Up (L.filter p) := List.Pairwise.filter p h
theorem clearL_up {L : List En} (h : Up L) (s : ByteArray) : Up (clearL L s) := h.filter _
theorem compL_up {L : List En} (h : Up L) : Up (compL L) := by
  unfold compL
  split
  · exact h
  · exact h.filter _
theorem compL_sub (L : List En) : ∀ e ∈ compL L, e ∈ L := by
  unfold compL
  split
  · exact fun _ h => h
  · exact fun _ h => (List.mem_filter.1 h).1
theorem compL_len (L : List En) : (compL L).length ≤ L.length := by
  unfold compL
  split
  · exact Nat.le_refl _
  · exact List.length_filter_le _ _

abbrev Ac := PFnRevocations.S38
/-- What an act makes of the list; what it says. -/
def actL (L : List En) (a : Ac) : List En := if a.f0 = 0 then revL L a.f1 a.f2 else if a.f0 = 1 then clearL L a.f1 else if a.f0 = 3 then compL L else L
def sayL (L : List En) (a : Ac) : Bool := decide (a.f0 = 2) && isL L a.f1 a.f2
def runL (l : List Ac) : List En := l.foldl actL []
def saysL (l : List Ac) : List Bool := (List.range l.length).map fun k => sayL (runL (l.take k)) (l.getD k ⟨0, ByteArray.empty, 0⟩)

theorem runL_snoc {l : List Ac} {k : Nat} (h : k < l.length) : runL (l.take (k + 1)) = actL (runL (l.take k)) l[k] := by
  unfold runL
  rw [List.take_succ_eq_append_getElem h, List.foldl_append]
  rfl
theorem take_range (n k : Nat) (h : k ≤ n) : (List.range n).take k = List.range k := by
  rw [List.take_range, Nat.min_eq_left h]
theorem saysL_snoc {l : List Ac} {k : Nat} (h : k < l.length) : saysL (l.take (k + 1)) = saysL (l.take k) ++ [sayL (runL (l.take k)) l[k]] := by
  unfold saysL
  rw [List.length_take, List.length_take, Nat.min_eq_left (by omega), Nat.min_eq_left (by omega), List.range_succ, List.map_append]
  congr 1
  · apply List.map_congr_left
    intro j hj
    have hj : j < k := by simpa using hj
    rw [List.take_take, List.take_take, Nat.min_eq_left (by omega), Nat.min_eq_left (by omega)]
    simp [List.getD_eq_getElem?_getD, hj, Nat.lt_succ_of_lt hj]
  · simp [List.getD_eq_getElem?_getD, List.getElem?_take, List.take_take, h]

theorem act_revoke (L : List En) (s : ByteArray) (t : Int) : actL L ⟨0, s, t⟩ = revL L s t := rfl
theorem act_clear (L : List En) (s : ByteArray) (t : Int) : actL L ⟨1, s, t⟩ = clearL L s := rfl
theorem act_is (L : List En) (s : ByteArray) (t : Int) : actL L ⟨2, s, t⟩ = L := rfl
theorem act_comp (L : List En) (s : ByteArray) (t : Int) : actL L ⟨3, s, t⟩ = compL L := rfl
theorem say_is (L : List En) (s : ByteArray) (t : Int) : sayL L ⟨2, s, t⟩ = isL L s t := rfl
theorem say_no (L : List En) (a : Int) (s : ByteArray) (t : Int) (h : a ≠ 2) : sayL L ⟨a, s, t⟩ = false := by
  unfold sayL
  rw [decide_eq_false h]
  rfl
theorem saysL_len (l : List Ac) : (saysL l).length = l.length := by simp [saysL]
/-- An act that the statement speaks of. -/
def Fine (a : Ac) : Prop := 0 ≤ a.f0 ∧ a.f0 ≤ 3 ∧ a.f1.size ≤ 20 ∧ 0 ≤ a.f2 ∧ a.f2 ≤ 1099511627776

/-- What holds of the list behind k acts. -/
structure Ok (k : Nat) (L : List En) : Prop where
  up : Up L
  len : L.length ≤ k
  key : ∀ e ∈ L, e.f0.size ≤ 20
theorem Ok.nil (k : Nat) : Ok k [] := ⟨List.Pairwise.nil, Nat.zero_le _, fun _ h => by cases h⟩
theorem Ok.act {k : Nat} {L : List En} (h : Ok k L) {a : Ac} (ha : Fine a) : Ok (k + 1) (actL L a) := by
  unfold actL
  split
  · refine ⟨revL_up _ _ _ h.up, Nat.le_trans (revL_len _ _ _) (by have := h.len; omega), fun e he => ?_⟩
    rcases revL_mem _ _ _ e he with ⟨x, hx, h1⟩ | h1
    · rw [← h1]; exact h.key x hx
    · rw [h1]; exact ha.2.2.1
  · split
    · exact ⟨clearL_up h.up _, Nat.le_trans (List.length_filter_le _ _) (by have := h.len; omega), fun e he => h.key e (List.mem_filter.1 he).1⟩
    · split
      · exact ⟨compL_up h.up, Nat.le_trans (compL_len L) (by have := h.len; omega), fun e he => h.key e (compL_sub L e he)⟩
      · exact ⟨h.up, by have := h.len; omega, h.key⟩
theorem Ok.run {l : List Ac} : ∀ (k : Nat), k ≤ l.length → (∀ a ∈ l.take k, Fine a) → Ok k (runL (l.take k))
  | 0, _, _ => Ok.nil 0
  | k + 1, hk, h => by
    rw [runL_snoc hk]
    exact (Ok.run k (by omega) fun a ha => h a (List.take_subset_take_left l (Nat.le_succ k) ha)).act (h _ (by rw [List.take_succ_eq_append_getElem hk]; exact List.mem_append_right _ (List.mem_singleton.2 rfl)))

/-- What was collected of a map's entries. -/
def CollE (L : List En) (left : Lit → Bool) (es : List En) : Prop := es.Nodup ∧ ∀ e, e ∈ es ↔ (e ∈ L ∧ left (kl e.f0) = false)
theorem CollE.start (L : List En) : CollE L (has (MD L)) [] := ⟨List.nodup_nil, fun e => by
  constructor
  · intro h; cases h
  · rintro ⟨h1, h2⟩
    rw [has_MD] at h2
    have : (L.any fun x => decide (x.f0 = e.f0)) = true := List.any_eq_true.2 ⟨e, h1, by simp⟩
    rw [h2] at this; cases this⟩
theorem CollE.step {L : List En} (hL : Up L) {left : Lit → Bool} {es : List En} (h : CollE L left es) {x : ByteArray} {c : Int} (hlk : left (kl x) = true) (hat : ∀ zd, (MD L).atKey (kl x) zd = i64 c) :
    CollE L (fun z => left z && !z.sameKey (kl x)) (es ++ [⟨x, c⟩]) := by
  have hm : (⟨x, c⟩ : En) ∈ L := at_mem (hat _) (has_true_of_atKey hat)
  have hnew : (⟨x, c⟩ : En) ∉ es := fun hx => by have := ((h.2 _).1 hx).2; rw [hlk] at this; cases this
  refine ⟨List.nodup_append.2 ⟨h.1, by simp, fun a ha b hb => by simp at hb; subst hb; exact fun e => hnew (e ▸ ha)⟩, fun e => ?_⟩
  show _ ↔ (e ∈ L ∧ (left (kl e.f0) && !(kl e.f0).sameKey (kl x)) = false)
  rw [List.mem_append, h.2 e, List.mem_singleton, same_kl]
  by_cases he : e.f0 = x
  · constructor
    · rintro (⟨h1, _⟩ | rfl)
      · exact ⟨h1, by simp [he]⟩
      · exact ⟨hm, by simp⟩
    · rintro ⟨h1, _⟩
      exact .inr (one_key hL.nodup h1 hm he)
  · constructor
    · rintro (⟨h1, h2⟩ | rfl)
      · exact ⟨h1, by simp [h2]⟩
      · exact (he rfl).elim
    · rintro ⟨h1, h2⟩
      exact .inl ⟨h1, by simpa [he] using h2⟩
theorem Up.nodup' {L : List En} (h : Up L) : L.Nodup := List.Pairwise.imp (R := fun a b : En => bb a.f0 b.f0 = true) (fun hab e => by subst e; exact bb_ne hab rfl) h
theorem CollE.perm {L : List En} (hL : Up L) {left : Lit → Bool} {es : List En} (h : CollE L left es) (hl : ∀ k, left k = false) : es.Perm L :=
  (List.perm_ext_iff_of_nodup h.1 hL.nodup').2 fun e => by rw [h.2 e, hl]; simp
/-- What is sorted by keys is the list. -/
theorem sorted_is {L es : List En} (hL : Up L) (hp : es.Perm L) (hs : es.Pairwise fun a b => bb b.f0 a.f0 = false) : es = L := by
  refine List.Perm.eq_of_pairwise (le := fun a b => bb b.f0 a.f0 = false) (fun a b ha hb h1 h2 => ?_) hs (List.Pairwise.imp (R := fun a b : En => bb a.f0 b.f0 = true) (fun h => bb_asymm h) hL) hp
  refine one_key hL.nodup (hp.mem_iff.1 ha) hb ?_
  rcases Decidable.em (a.f0 = b.f0) with h | h
  · exact h
  · rcases bb_total h with h3 | h3
    · rw [h2] at h3; cases h3
    · rw [h1] at h3; cases h3
end Go.Proofs.Ytnbihmagbedfmaa
