/- Contracts of Header, and: laws.FnHeader hands back true. -/
import Derived.Test.YtnbihmagbedfmaaDoorRShelf
import Derived.Test.YtnbihmagbedfmaaDoorRSmall
import Derived.Test.YtnbihmagbedfmaaDoorRWords
import Derived.Test.YtnbihmagbedfmaaDoorRValid
import Derived.Test.YtnbihmagbedfmaaDoorRAcc
namespace Go.Proofs.YtnbihmagbedfmaaDoorR
open Go.RowKit Go.Proofs.YtnbihmagbedfmaaDoorRW.PrintWords
open Pl (wordc wordt wordsT)

def jwtU : List UInt8 := [74, 87, 84]
def jwtL : List UInt8 := [106, 119, 116]
def edL : List UInt8 := [101, 100, 50, 53, 53, 49, 57]
def nkeyL : List UInt8 := [101, 100, 50, 53, 53, 49, 57, 45, 110, 107, 101, 121]
def isJwt (l : List UInt8) : Bool := decide (Lib.toUpperA l = jwtU)
def isAlg (l : List UInt8) : Bool := decide (Lib.toLowerA l = edL) || decide (Lib.toLowerA l = nkeyL)

section
open Lib
theorem low_up (b : UInt8) : lowerB (upperB b) = lowerB b := by
  have h : ∀ n : Fin 256, lowerB (upperB (UInt8.ofNat n.val)) = lowerB (UInt8.ofNat n.val) := by decide +kernel
  have := h ⟨b.toNat, b.toNat_lt⟩
  simpa using this
theorem low_word (b : UInt8) (h : wordc b = true) : lowerB b ≠ 45 := by
  have h' : ∀ n : Fin 256, wordc (UInt8.ofNat n.val) = true → lowerB (UInt8.ofNat n.val) ≠ 45 := by decide +kernel
  have := h' ⟨b.toNat, b.toNat_lt⟩
  simp only [UInt8.ofNat_toNat] at this
  exact this h
theorem word_ascii (b : UInt8) (h : wordc b = true) : b.toNat < 128 := by
  have := (Pl.wordc_iff b).1 h
  omega

theorem jwt_law (kind : List UInt8) (h : kind = jwtU ∨ toLowerA kind ≠ jwtL) : isJwt kind = decide (kind = jwtU) := by
  unfold isJwt
  rw [decide_eq_decide]
  constructor
  · intro e
    rcases h with h | h
    · exact h
    · refine absurd ?_ h
      have : toLowerA (toUpperA kind) = toLowerA kind := by
        unfold toLowerA toUpperA
        rw [List.map_map]
        exact List.map_congr_left fun b _ => low_up b
      rw [← this, e]; decide
  · rintro rfl; decide

theorem alg_law (alg : List UInt8) (h1 : alg = toLowerA alg ∨ toLowerA alg ≠ edL) (h2 : alg = nkeyL ∨ alg = edL ∨ wordt alg = true) : isAlg alg = (decide (alg = nkeyL) || decide (alg = edL)) := by
  unfold isAlg
  rw [Bool.eq_iff_iff]
  simp only [Bool.or_eq_true, decide_eq_true_eq]
  constructor
  · intro h
    rcases h2 with h2 | h2 | h2
    · exact .inl h2
    · exact .inr h2
    · rcases h with h | h
      · rcases h1 with h1 | h1
        · exact .inr (h1.trans h)
        · exact absurd h h1
      · exfalso
        unfold wordt at h2
        simp only [Bool.and_eq_true, List.all_eq_true] at h2
        have hm : (45 : UInt8) ∈ toLowerA alg := by rw [h]; decide
        obtain ⟨b, hb, he⟩ := List.mem_map.1 hm
        exact low_word b (h2.1 b hb) he
  · rintro (rfl | rfl)
    · exact .inr (by decide)
    · exact .inl (by decide)
end

theorem beq_turn (a b : List UInt8) : (a == b) = decide (b = a) := by
  rw [Bool.eq_iff_iff, beq_iff_eq, decide_eq_true_eq]
  exact eq_comm
theorem ascii_get {l : List UInt8} (h : ∀ b ∈ l, b.toNat < 128) : ∀ (j : Nat) (b : UInt8), l[j]? = some b → b.toNat < 128 :=
  fun _ b e => h b (List.mem_of_getElem? e)

theorem new_any (s : ByteArray) (w : World) :
    Calls Tryd.prog 47 #[.string s] w fun e w' => (∃ t v, e = .returned (.iface t v)) ∧ Below w.heap.size w w' := by
  have H0 := Acc.refl w
  go_enter Tryd.func47, Tryd.ntmps47
  go_wp2
  go_ret
  exact ⟨⟨_, _, rfl⟩, (H0.alloc _).out⟩

/-- What Header.Valid hands back: nil, or an error. -/
def Said (b : Bool) (r : Value) : Prop := if b then r = .nilIface else ∃ t v, r = .iface t v
theorem Said.bad {b : Bool} (h : b = false) (t : TypeId) (v : Value) : Said b (.iface t v) := by subst h; exact ⟨t, v, rfl⟩
theorem Said.good {b : Bool} (h : b = true) : Said b .nilIface := by subst h; rfl

set_option maxRecDepth 100000 in
theorem hvalid_any (k : Nat) (kind alg : ByteArray) (w : World) (h0 : w.cell? ⟨k, 0, none⟩ = some (.string kind)) (h1 : w.cell? ⟨k, 1, none⟩ = some (.string alg)) (hk : ∀ b ∈ kind.data.toList, b.toNat < 128) (ha : ∀ b ∈ alg.data.toList, b.toNat < 128) (hs0 : kind.size ≤ 2147483647) (hs1 : alg.size ≤ 2147483647) :
    Calls Tryd.prog 28 #[.pointer (some ⟨k, 0, none⟩)] w fun e w' => (∃ r, e = .returned r ∧ Said (isJwt kind.data.toList && isAlg alg.data.toList) r) ∧ Below w.heap.size w w' := by
  have H0 := Acc.refl w
  have hup := Lib.hid (Tryd.strings_ToUpper_ascii kind w (by omega) (ascii_get hk))
  have hlo := fun w' => Tryd.strings_ToLower_ascii alg w' (by omega) (ascii_get ha)
  have e0 : ([74, 87, 84] == Lib.toUpperA kind.data.toList) = isJwt kind.data.toList := beq_turn _ _
  have e1 : ([101, 100, 50, 53, 53, 49, 57] == Lib.toLowerA alg.data.toList) = decide (Lib.toLowerA alg.data.toList = edL) := beq_turn _ _
  have e2 : ([101, 100, 50, 53, 53, 49, 57, 45, 110, 107, 101, 121] == Lib.toLowerA alg.data.toList) = decide (Lib.toLowerA alg.data.toList = nkeyL) := beq_turn _ _
  have e3 : decide (Lib.toLowerA alg.data.toList = edL) = true ∨ decide (Lib.toLowerA alg.data.toList = nkeyL) = true → Lib.hasPrefix (Lib.toLowerA alg.data.toList) edL = true := by
    simp only [decide_eq_true_eq]
    rintro (h | h) <;> rw [h] <;> rfl
  have hL : isAlg alg.data.toList = (decide (Lib.toLowerA alg.data.toList = edL) || decide (Lib.toLowerA alg.data.toList = nkeyL)) := rfl
  have hpre : ∀ w', Calls Tryd.prog 49 #[.string ⟨(Lib.toLowerA alg.data.toList).toArray⟩, .string ⟨#[101, 100, 50, 53, 53, 49, 57]⟩] w' fun e w'' => e = .returned (.bool (Lib.hasPrefix (Lib.toLowerA alg.data.toList) edL)) ∧ w'' = w' := fun w' => Tryd.strings_HasPrefix ⟨(Lib.toLowerA alg.data.toList).toArray⟩ ⟨#[101, 100, 50, 53, 53, 49, 57]⟩ w'
  rw [hL]
  clear hL
  generalize isJwt kind.data.toList = bU at *
  generalize decide (Lib.toLowerA alg.data.toList = edL) = b1 at *
  generalize decide (Lib.toLowerA alg.data.toList = nkeyL) = b2 at *
  generalize Lib.hasPrefix (Lib.toLowerA alg.data.toList) edL = b3 at *
  generalize Lib.toUpperA kind.data.toList = U at *
  generalize Lib.toLowerA alg.data.toList = L at *
  have E3 := Lib.hid e3
  have HL := Lib.hid hlo
  have HP := Lib.hid hpre
  clear hlo hk ha e3 hpre
  go_enter Tryd.func28, Tryd.ntmps28
  go_wp2_with fail
  refine hup.out.mono ?_
  rintro e w1 ⟨rfl, hb1⟩
  have c1 := pw_cell_below hb1 h1
  have H1 := Acc.step H0 hb1
  clear h0 h1 H0 hup
  cases bU
  · go_wp2_with (go_at_call 47; refine (new_any _ _).mono ?_; rintro e w2 ⟨⟨t, v, rfl⟩, hb2⟩; have H2 := Acc.step (by assumption) hb2)
    go_ret
    exact ⟨⟨_, rfl, Said.bad rfl _ _⟩, H2.out⟩
  · go_wp2_with fail
    refine (HL.out _).mono ?_
    rintro e w2 ⟨rfl, hb2⟩
    have H2 := Acc.step H1 hb2
    clear H1 hb1 hb2 c1
    go_wp2_with fail
    refine (HP.out _).mono ?_
    rintro e w3 ⟨rfl, rfl⟩
    cases b3
    · obtain ⟨rfl, rfl⟩ : b1 = false ∧ b2 = false := by
        have := E3.out
        cases b1 <;> cases b2 <;> simp at this ⊢
      go_wp2_with (go_at_call 47; refine (new_any _ _).mono ?_; rintro e w2 ⟨⟨t, v, rfl⟩, hb2⟩; have H3 := Acc.step (by assumption) hb2)
      go_ret
      exact ⟨⟨_, rfl, Said.bad rfl _ _⟩, H3.out⟩
    · cases b1
      · cases b2
        · go_wp2_with (go_at_call 47; refine (new_any _ _).mono ?_; rintro e w2 ⟨⟨t, v, rfl⟩, hb2⟩; have H3 := Acc.step (by assumption) hb2)
          go_ret
          exact ⟨⟨_, rfl, Said.bad rfl _ _⟩, H3.out⟩
        · go_wp2_with fail
          go_ret
          exact ⟨⟨_, rfl, Said.good rfl⟩, H2.out⟩
      · go_wp2_with fail
        go_ret
        exact ⟨⟨_, rfl, Said.good rfl⟩, H2.out⟩
end Go.Proofs.YtnbihmagbedfmaaDoorR
