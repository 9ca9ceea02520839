/- For every list of acts laws.FnRevocations hands back true, and what was there is as it was. No condition. -/
import Derived.Test.YtnbihmagbedfmaaRevMain
import Derived.Test.YtnbihmagbedfmaaPFnRevocationsx1
import Derived.Test.YtnbihmagbedfmaaTexts
import Derived.Deep.CutBlock
import Derived.Deep.DeepCutAuto
import Derived.Test.YtnbihmagbedfmaaRows
import Derived.WalkKit
import Derived.ProofKit
import Derived.OpenShut
import Derived.ShutString
import Derived.ChangeOld
import Derived.ChangeArms
import Derived.DataReads
import Derived.Below
import Derived.Deep.Slices
/- What the printed functions Words and zzFits4 come to. -/
namespace Go.Proofs.Ytnbihmagbedfmaa
open Go.RowKit Go.Proofs.YtnbihmagbedfmaaW.PrintWords

namespace Pl
def wordc (c : UInt8) : Bool := (97 ≤ c.toNat && c.toNat ≤ 122) || (65 ≤ c.toNat && c.toNat ≤ 90) || (48 ≤ c.toNat && c.toNat ≤ 57)
def wordt (l : List UInt8) : Bool := l.all wordc && (decide (1 ≤ l.length) && decide (l.length ≤ 20))
def wordsT (l : List (List UInt8)) : Bool := l.all wordt
theorem wordc_iff (c : UInt8) : wordc c = true ↔ (97 ≤ c.toNat ∧ c.toNat ≤ 122) ∨ (65 ≤ c.toNat ∧ c.toNat ≤ 90) ∨ (48 ≤ c.toNat ∧ c.toNat ≤ 57) := by
  unfold wordc
  simp only [Bool.or_eq_true, Bool.and_eq_true, decide_eq_true_eq]
  omega
end Pl
open Pl (wordc wordt wordsT)

section
open PFnRevocations
theorem words_l1 (x0 : List ByteArray) (t : ByteArray) (x7 : List ByteArray) (x8 x9 : Int) (k1 : Nat) (r : Bool) (ht : t.size ≤ big) (hn : spec_Words.l0 k1 x0 x7 x8 (wrap64 (x9 + 1)) = some r) : ∀ (d j : Nat), j ≤ t.size → t.size - j = d →
    spec_Words.l1 (k1 + d + 1) x0 t x7 x8 x9 (t.size : Int) (j : Int) = some ((t.data.toList.drop j).all wordc && ((decide (1 ≤ t.size) && decide (t.size ≤ 20)) && r)) := by
  unfold big at ht
  intro d
  induction d with
  | zero =>
    intro j h1 h2
    obtain rfl : j = t.size := by omega
    have hd : t.data.toList.drop t.size = [] := List.drop_of_length_le (by rw [data_length]; exact Nat.le_refl _)
    unfold spec_Words.l1
    rw [if_neg (by omega), hd, List.all_nil, Bool.true_and]
    by_cases h1 : 1 ≤ t.size
    · rw [if_neg (by omega), decide_eq_true h1, Bool.true_and]
      by_cases h20 : t.size ≤ 20
      · rw [if_neg (by omega), decide_eq_true h20, Bool.true_and]; exact hn
      · rw [if_pos (by omega), decide_eq_false h20, Bool.false_and]
    · rw [if_pos (by omega), decide_eq_false h1, Bool.false_and, Bool.false_and]
  | succ d ih =>
    intro j h1 h2
    have hlt : j < t.size := by omega
    have ih' := ih (j + 1) (by omega) (by omega)
    have e2 : ((j : Int) + 1) = ((j + 1 : Nat) : Int) := by omega
    have hw : wrap64 ((j : Int) + 1) = ((j + 1 : Nat) : Int) := by rw [e2, wrap_in (by omega) (by omega)]
    have hgo : ∀ b : Bool, wordc t[j] = b → ((t.data.toList.drop j).all wordc && ((decide (1 ≤ t.size) && decide (t.size ≤ 20)) && r)) = (b && ((t.data.toList.drop (j + 1)).all wordc && ((decide (1 ≤ t.size) && decide (t.size ≤ 20)) && r))) := by
      intro b hb
      rw [drop_cons t j hlt, List.all_cons, hb, Bool.and_assoc]
    have hok := Pl.wordc_iff t[j]
    have hb := bt_get t j hlt
    show spec_Words.l1 ((k1 + d + 1) + 1) x0 t x7 x8 x9 (t.size : Int) (j : Int) = _
    unfold spec_Words.l1
    rw [hw, hb, if_pos (by omega), if_pos (by omega), if_pos (by omega)]
    cases hc : wordc t[j] with
    | true =>
      have hk := hok.1 hc
      rw [hgo true hc, Bool.true_and, ← ih']
      generalize t[j].toNat = n at hk
      generalize spec_Words.l1 (k1 + d + 1) x0 t x7 x8 x9 (t.size : Int) ((j + 1 : Nat) : Int) = g
      repeat' split
      all_goals first | rfl | (exfalso; omega)
    | false =>
      have hk : ¬ _ := fun h => Bool.false_ne_true (hc.symm.trans (hok.2 h))
      rw [hgo false hc, Bool.false_and]
      generalize t[j].toNat = n at hk
      generalize spec_Words.l1 (k1 + d + 1) x0 t x7 x8 x9 (t.size : Int) ((j + 1 : Nat) : Int) = g
      repeat' split
      all_goals first | rfl | (exfalso; omega)

theorem words_l0 (x : List ByteArray) (hl : x.length ≤ big) (hx : ∀ t ∈ x, t.size ≤ big) : ∀ (d i : Nat), i ≤ x.length → x.length - i = d →
    ∃ k, spec_Words.l0 k x x (x.length : Int) (i : Int) = some (wordsT (lists (x.drop i)) && decide (x.length ≤ 20)) := by
  unfold big at hl
  intro d
  induction d with
  | zero =>
    intro i h1 h2
    obtain rfl : i = x.length := by omega
    refine ⟨1, ?_⟩
    unfold spec_Words.l0
    rw [if_neg (by omega), List.drop_length]
    have : decide ((x.length : Int) ≤ 20) = decide (x.length ≤ 20) := by rw [decide_eq_decide]; omega
    rw [this]
    rfl
  | succ d ih =>
    intro i h1 h2
    have hlt : i < x.length := by omega
    obtain ⟨k1, hk1⟩ := ih (i + 1) (by omega) (by omega)
    have e2 : ((i : Int) + 1) = ((i + 1 : Nat) : Int) := by omega
    have hw : wrap64 ((i : Int) + 1) = ((i + 1 : Nat) : Int) := by rw [e2, wrap_in (by omega) (by omega)]
    have hrd : rdOf ByteArray.empty x (i : Int) = x[i] := by simp [rdOf, List.getD_eq_getElem?_getD, List.getElem?_eq_getElem hlt]
    have hd : lists (x.drop i) = x[i].data.toList :: lists (x.drop (i + 1)) := by
      rw [List.drop_eq_getElem_cons hlt]; rfl
    have ht := hx x[i] (List.getElem_mem hlt)
    have hch := words_l1 x x[i] x (x.length : Int) (i : Int) k1 _ ht (by rw [hw]; exact hk1) x[i].size 0 (Nat.zero_le _) rfl
    refine ⟨k1 + x[i].size + 1 + 1, ?_⟩
    unfold spec_Words.l0
    rw [if_pos (by omega), if_pos (by omega), if_pos (by omega), hrd, hd]
    refine Eq.trans hch ?_
    rw [List.drop_zero]
    unfold wordsT
    rw [List.all_cons]
    unfold wordt
    rw [data_length]
    simp only [Bool.and_assoc]

theorem words_f (x : List ByteArray) (hl : x.length ≤ big) (hx : ∀ t ∈ x, t.size ≤ big) : ∃ k, spec_Words.f k x = some (wordsT (lists x) && decide (x.length ≤ 20)) := by
  obtain ⟨k, hk⟩ := words_l0 x hl hx x.length 0 (Nat.zero_le _) rfl
  refine ⟨k, ?_⟩
  unfold spec_Words.f
  simpa using hk

theorem words_any (A : Option Addr) (c : Nat) (l : List ByteArray) (w : World) (hr : Kd.C Kd.string w A l.length l) (hc : l.length ≤ c) (hl : l.length ≤ big) (hx : ∀ t ∈ l, t.size ≤ big) :
    Calls Try.prog 14 #[.slice A l.length c] w fun e w' => e = .returned (.bool (wordsT (lists l) && decide (l.length ≤ 20))) ∧ Drawn0 w w' := by
  obtain ⟨k, hk⟩ := words_f l hl hx
  exact spec_Words.calls k A c l _ w hr hc hk
end

open PFnRevocations (S38 k38 rd_T38 laws_zzFits5.f laws_zzFits4.f laws_zzFits4.l0 laws_zzFits4.calls)
/-- A key that is compared. -/
def wordK (s : ByteArray) : Bool := wordt s.data.toList
theorem wordK_size {s : ByteArray} (h : wordK s = true) : s.size ≤ 20 := by
  unfold wordK wordt at h
  simp only [Bool.and_eq_true, decide_eq_true_eq] at h
  have := h.2.2
  rwa [data_length] at this
theorem wordk_any (A : Option Addr) (c : Nat) (s : ByteArray) (w : World) (hr : Kd.C Kd.string w A 1 [s]) (hc : 1 ≤ c) (hs : s.size ≤ big) :
    Calls Try.prog 14 #[.slice A 1 c] w fun e w' => e = .returned (.bool (wordK s)) ∧ Below w.heap.size w w' := by
  refine (words_any A c [s] w hr hc (by unfold big; simp) (by simpa using hs)).mono fun e w' ⟨he, hd⟩ => ⟨?_, ?_⟩
  · rw [he]
    unfold wordsT lists wordK
    simp
  · obtain ⟨n, rfl⟩ := hd
    exact ⟨rfl, rfl, rfl, Nat.le_refl _, fun _ _ => rfl⟩

theorem own_one (s : ByteArray) (w : World) : Kd.C Kd.string (w.alloc (.cells #[.string s] 9)) (some ⟨w.heap.size, 0, none⟩) 1 [s] := by
  have h : ReadsOf Value.string ByteArray.empty (w.alloc (.cells #[.string s] 9)) (some ⟨w.heap.size, 0, none⟩) 1 [s] := ⟨rfl, by decide, fun _ => ⟨_, rfl, fun j hj => by
    obtain rfl : j = 0 := by omega
    exact World.cell?_alloc_new _ _ _ _⟩⟩
  exact Kd.C_of_reads h
theorem words_one (s : ByteArray) (hs : s.size ≤ big) (w : World) (b : Bool) (hb : wordK s = b) (n : Nat) (hn : w.heap.size = n) :
    Calls Try.prog 14 #[.slice (some ⟨n, 0, none⟩) 1 1] (w.alloc (.cells #[.string s] 9)) fun e w' => e = .returned (.bool b) ∧ Below w.heap.size w w' := by
  subst hn
  subst hb
  exact (wordk_any (some ⟨w.heap.size, 0, none⟩) 1 s _ (own_one s w) (Nat.le_refl _) hs).mono fun e w' ⟨he, hd⟩ => ⟨he, ((Below.refl _ _).alloc (Nat.le_refl _) _).trans (hd.mono (by simp))⟩

def fitsActs (l : List S38) : Bool := decide (l.length ≤ 2147483647) && l.all fun a => decide (a.f1.size ≤ 2147483647)
theorem fitsActs_l0 (l : List S38) (hl : l.length ≤ 2147483647) : ∀ (d i k : Nat), i ≤ l.length → l.length - i = d → d < k → laws_zzFits4.l0 k l (l.length : Int) (i : Int) = some ((l.drop i).all fun a => decide (a.f1.size ≤ 2147483647)) := by
  intro d
  induction d with
  | zero =>
    intro i k h1 h2 h3
    obtain ⟨k, rfl⟩ : ∃ m, k = m + 1 := ⟨k - 1, by omega⟩
    obtain rfl : i = l.length := by omega
    unfold laws_zzFits4.l0
    rw [if_neg (by omega), List.drop_length]
    rfl
  | succ d ih =>
    intro i k h1 h2 h3
    obtain ⟨k, rfl⟩ : ∃ m, k = m + 1 := ⟨k - 1, by omega⟩
    have hlt : i < l.length := by omega
    have e2 : ((i : Int) + 1) = ((i + 1 : Nat) : Int) := by omega
    have hrd : rd_T38 l (i : Int) = l[i] := by simp [rd_T38, List.getD_eq_getElem?_getD, List.getElem?_eq_getElem hlt]
    unfold laws_zzFits4.l0
    rw [if_pos (by omega), if_pos (by omega), if_pos (by omega), hrd, e2, wrap_in (by omega) (by omega), ih (i + 1) k (by omega) (by omega) (by omega), List.drop_eq_getElem_cons hlt, List.all_cons]
    unfold laws_zzFits5.f
    by_cases hs : l[i].f1.size ≤ 2147483647
    · rw [if_neg (by omega), decide_eq_true hs]; rfl
    · rw [if_pos (by omega), decide_eq_false hs]; rfl
theorem fitsActs_any (A : Option Addr) (c : Nat) (l : List S38) (w : World) (hr : Kd.C k38 w A l.length l) (hc : l.length ≤ c) :
    Calls Try.prog 13 #[.slice A l.length c] w fun e w' => e = .returned (.bool (fitsActs l)) ∧ Below w.heap.size w w' := by
  refine laws_zzFits4.calls (l.length + 1) A c l _ w hr hc ?_
  unfold laws_zzFits4.f fitsActs
  by_cases hl : l.length ≤ 2147483647
  · rw [if_neg (by omega), decide_eq_true hl, Bool.true_and]
    exact fitsActs_l0 l hl l.length 0 (l.length + 1) (Nat.zero_le _) rfl (by omega)
  · rw [if_pos (by omega), decide_eq_false hl, Bool.false_and]
end Go.Proofs.Ytnbihmagbedfmaa
/- laws.FnRevocations hands back true. -/
namespace Go.Proofs.Ytnbihmagbedfmaa
open Go.RowKit Go.Maps Go.WideMaps Go.Proofs.YtnbihmagbedfmaaW.PrintWords
open PFnRevocations (S38 k38 rd_T38 at_T38)

/-- Behind some acts: the specification's list, the answers. -/
structure LawAt (w0 : World) (A : Option Addr) (c : Nat) (L : List En) (A' : Option Addr) (c' : Nat) (bs : List Bool) (w : World) : Prop where
  want : w.ownsRow w0.heap.size 47 2 (.slice A L.length c) L.length (L.flatMap encEn)
  ans : w.ownsRow w0.heap.size 4 1 (.slice A' bs.length c') bs.length (encs Value.bool bs)
  below : Below w0.heap.size w0 w
section
variable {w0 w w1 : World} {A A' : Option Addr} {c c' : Nat} {L : List En} {bs : List Bool}
theorem LawAt.step (h : LawAt w0 A c L A' c' bs w) (hb : Below w.heap.size w w1) : LawAt w0 A c L A' c' bs w1 := ⟨own_below h.want hb, own_below h.ans hb, h.below.trans (hb.mono h.below.size)⟩
theorem LawAt.turn {M : List En} {row : Option Nat} {e : Ending} (h : LawAt w0 A c L A' c' bs w) (hr : row = none ∨ row = (Value.slice A L.length c).ownBlock) (hp : RevPost w0.heap.size row M w e w1) :
    ∃ A2 c2, e = .returned (.slice A2 M.length c2) ∧ LawAt w0 A2 c2 M A' c' bs w1 := by
  obtain ⟨v, he, ⟨A2, c2, rfl, ho⟩, hg⟩ := hp
  refine ⟨A2, c2, he, ho, h.ans.kept hg ?_, h.below.grown hg h.below.size fun j hj => ?_⟩
  · rcases hr with rfl | rfl
    · cases (Value.slice A' bs.length c').ownBlock <;> simp
    · exact own_types h.ans h.want (by decide)
  · rcases hr with rfl | rfl
    · cases hj
    · exact own_base h.want j hj
theorem LawAt.put {b : Bool} {m c2 : Nat} {A2 : Option Addr} {o : Obj} (h : LawAt w0 A c L A' c' bs w) (hg : (w.alloc o).grownBy w1 (Value.slice A' bs.length c').ownBlock) (hm : m = bs.length + 1) (ho : w1.ownsRow w0.heap.size 4 1 (.slice A2 m c2) m (encs Value.bool bs ++ [.bool b])) :
    LawAt w0 A c L A2 c2 (bs ++ [b]) w1 := by
  subst hm
  have he : encs Value.bool (bs ++ [b]) = encs Value.bool bs ++ [.bool b] := by simp [encs]
  refine ⟨(h.want.alloc o).kept hg (own_types (h.want.alloc o) (h.ans.alloc o) (by decide)), by rw [he, List.length_append]; exact ho, (h.below.alloc h.below.size o).grown hg (h.below.alloc h.below.size o).size fun j hj => own_base h.ans j hj⟩
end

set_option maxRecDepth 100000 in
set_option maxHeartbeats 4000000 in
theorem fnrev_at (Al : Option Addr) (cl : Nat) (l : List Ac) (w : World) (hl : Kd.C k38 w Al l.length l) (hcl : l.length ≤ cl) (hfit : fitsActs l = true) :
    Calls Try.prog 6 #[.slice Al l.length cl] w fun e w' => e = .returned (.bool true) ∧ Below w.heap.size w w' := by
  obtain ⟨ib, hib, hb0, hb1, hb2⟩ := info_parts infoBool
  have HFi := fitsActs_any Al cl l w hl hcl
  rw [hfit] at HFi
  have HFit := Lib.hid HFi
  have hsz : ∀ a ∈ l, a.f1.size ≤ 2147483647 := fun a ha => by
    unfold fitsActs at hfit
    simp only [Bool.and_eq_true, List.all_eq_true, decide_eq_true_eq] at hfit
    exact hfit.2 a ha
  have hlm : l.length ≤ 2147483647 := by
    unfold fitsActs at hfit
    simp only [Bool.and_eq_true, decide_eq_true_eq] at hfit
    exact hfit.1
  have HSz := Lib.hid hsz
  have HL := Lib.hid hl
  clear HFi hl hfit hsz
  go_enter Try.func6, Try.ntmps6
  go_wp2_with fail
  refine HFit.out.mono ?_
  rintro e w1 ⟨rfl, hb1⟩
  have hst : Hid (LawAt w none 0 [] none 0 [] w1) := ⟨own_nil _ _ _ _, own_nil _ _ _ _, hb1⟩
  clear hb1 HFit
  go_wp2_with fail
  go_loopw [3, 4, 18] (fun x y i wr => ∃ k : Nat, k ≤ l.length ∧ i = .int .i64 k ∧ (∃ A c A' c', x = .slice A (runL (l.take k)).length c ∧ y = .slice A' (saysL (l.take k)).length c' ∧ Hid (LawAt w A c (runL (l.take k)) A' c' (saysL (l.take k)) wr)) ∧ Hid (∀ a ∈ l.take k, Fine a) ∧ (0 < k → l.length ≤ 40)) (fun _ _ i _ => l.length - (intOf i).toNat)
  case atStart => exact ⟨0, Nat.zero_le _, rfl, ⟨none, 0, none, 0, rfl, rfl, hst⟩, fun a ha => by simp at ha, fun h => absurd h (by omega)⟩
  case round =>
    clear hst
    obtain ⟨k, hk, rfl, ⟨A, c, A', c', rfl, rfl, R⟩, hfine, h40k⟩ := hrel
    by_cases hlt : k < l.length
    · obtain ⟨ad, rfl, hc0, hc1, hc2⟩ := at_T38 (Kd.C_below HL.out R.out.below) (k : Int) (by omega) (by omega)
      rw [rd_38 l k hlt] at hc0 hc1 hc2
      simp only [Int.toNat_natCast] at hc0 hc1 hc2
      have hs31 := HSz.out _ (List.getElem_mem hlt)
      have Hrun := Lib.hid (runL_snoc hlt)
      have Hsay := Lib.hid (saysL_snoc hlt)
      have HOk := Lib.hid (Ok.run k hk hfine)
      have hbs : (saysL (l.take k)).length ≤ k := by rw [saysL_len, List.length_take]; omega
      have hnx : Hid (Fine l[k] → ∀ a ∈ l.take (k + 1), Fine a) := fun hb a ha => by
        rw [List.take_succ_eq_append_getElem hlt] at ha
        rcases List.mem_append.1 ha with ha | ha
        · exact hfine a ha
        · rw [List.mem_singleton.1 ha]; exact hb
      clear hfine
      generalize runL (l.take k) = L at *
      generalize saysL (l.take k) = bs at *
      generalize l[k] = a at *
      obtain ⟨f0, f1, f2⟩ := a
      simp only at hs31 hc0 hc1 hc2
      have hb1 : Below wr.heap.size wr (wr.alloc (.cells #[.int .i64 f0, .string f1, .int .i64 f2] 38)) := (Below.refl _ _).alloc (Nat.le_refl _) _
      have R1 := Lib.hid (R.out.step hb1)
      clear hb1
      by_cases h40 : l.length ≤ 40
      · clear h40k
        have p0 : (wr.alloc (.cells #[.int .i64 f0, .string f1, .int .i64 f2] 38)).cell? ⟨wr.heap.size, 0, none⟩ = some (.int .i64 f0) := by simp
        have p1 : (wr.alloc (.cells #[.int .i64 f0, .string f1, .int .i64 f2] 38)).cell? ⟨wr.heap.size, 1, none⟩ = some (.string f1) := by simp
        have p2 : (wr.alloc (.cells #[.int .i64 f0, .string f1, .int .i64 f2] 38)).cell? ⟨wr.heap.size, 2, none⟩ = some (.int .i64 f2) := by simp
        by_cases hstar : f1 = starS
        · have hkey : f1.size ≤ 20 := by rw [hstar]; decide
          have s1 : f1.toList = [42] := (eq_star _).2 hstar
          clear hstar
          by_cases ht0 : f2 < 0
          · go_wp2_with (go_at_call 8; refine (works_any _).mono ?_; rintro e w6 ⟨rfl, hb6⟩; have R6 := Lib.hid (R1.out.step hb6); clear hb6)
            go_ret
            exact ⟨rfl, R6.out.below⟩
          · have hz0 : 0 ≤ f2 := by omega
            by_cases ht1 : 1099511627776 < f2
            · go_wp2_with (go_at_call 8; refine (works_any _).mono ?_; rintro e w6 ⟨rfl, hb6⟩; have R6 := Lib.hid (R1.out.step hb6); clear hb6)
              go_ret
              exact ⟨rfl, R6.out.below⟩
            · have hz1 : f2 ≤ 1099511627776 := by omega
              clear ht0 ht1
              go_upto_region 10 with (fail)
              have R5 := R1
              clear R1
              generalize wr.alloc (.cells #[.int .i64 f0, .string f1, .int .i64 f2] 38) = w5 at *
              have hfin : 0 ≤ f0 → f0 ≤ 3 → Hid (∀ a ∈ l.take (k + 1), Fine a) := fun u0 u3 => hnx ⟨u0, u3, hkey, by show (0 : Int) ≤ f2; omega, by show f2 ≤ 1099511627776; omega⟩
              have HFin := Lib.hid hfin
              clear hfin hnx
              by_cases hf : 0 ≤ f0 ∧ f0 ≤ 3
              · obtain rfl | rfl | rfl | rfl : f0 = 0 ∨ f0 = 1 ∨ f0 = 2 ∨ f0 = 3 := by omega
                · have HC := Lib.hid (revoked_any A c w.heap.size L f1 f2 w5 R5.out.want R5.out.below.size (by have := HOk.out.len; omega))
                  go_wp2_with fail
                  refine HC.out.mono ?_
                  rintro e w6 hp
                  obtain ⟨A6, c6, rfl, R6⟩ := R5.out.turn (.inr rfl) hp
                  clear hp
                  have hr6 := R6.ans
                  have hz6 := R6.below.size
                  have HR6 := Lib.hid R6
                  clear R6 HC R5 p0 p1 p2
                  go_wp2_with (at_builtin; refine wpList_append_own_at _ rfl _ _ 36 rfl w.heap.size 4 ib (.bool false) 1 1 Try.underlying36 hib hb0 hb1 hb2 rfl (by decide) (.slice A' bs.length c') bs.length (encs Value.bool bs) rfl (hr6.alloc _) ⟨w6.heap.size, 0, none⟩ 1 1 [.bool false] rfl rfl (cell_one_new _ _ _) (by simp [Value.oneCell']) (by unfold maxLen; omega) (by omega) (by simp; omega) ?_; intro v' w7 hown' hg7 hnn hat; obtain ⟨g7, c7, rfl, _, _⟩ := hown'.form (by omega); have R7 := Lib.hid (HR6.out.put hg7 rfl hown'); clear hown' hg7 hnn hat)
                  go_roundw
                  case rel => exact ⟨k + 1, by omega, by go_num, ⟨_, _, _, _, by rw [Hrun.out, act_revoke], by rw [Hsay.out, say_no _ _ _ _ (by decide), List.length_append]; rfl, by rw [Hrun.out, Hsay.out, act_revoke, say_no _ _ _ _ (by decide)]; exact R7.out⟩, HFin.out (by decide) (by decide), fun _ => h40⟩
                  case measure => simp [intOf]; omega
                · have HC := Lib.hid (cleared_any A c w.heap.size L f1 w5 R5.out.want R5.out.below.size (by have := HOk.out.len; omega))
                  go_wp2_with fail
                  refine HC.out.mono ?_
                  rintro e w6 hp
                  obtain ⟨A6, c6, rfl, R6⟩ := R5.out.turn (.inl rfl) hp
                  clear hp
                  have hr6 := R6.ans
                  have hz6 := R6.below.size
                  have HR6 := Lib.hid R6
                  clear R6 HC R5 p0 p1 p2
                  go_wp2_with (at_builtin; refine wpList_append_own_at _ rfl _ _ 36 rfl w.heap.size 4 ib (.bool false) 1 1 Try.underlying36 hib hb0 hb1 hb2 rfl (by decide) (.slice A' bs.length c') bs.length (encs Value.bool bs) rfl (hr6.alloc _) ⟨w6.heap.size, 0, none⟩ 1 1 [.bool false] rfl rfl (cell_one_new _ _ _) (by simp [Value.oneCell']) (by unfold maxLen; omega) (by omega) (by simp; omega) ?_; intro v' w7 hown' hg7 hnn hat; obtain ⟨g7, c7, rfl, _, _⟩ := hown'.form (by omega); have R7 := Lib.hid (HR6.out.put hg7 rfl hown'); clear hown' hg7 hnn hat)
                  go_roundw
                  case rel => exact ⟨k + 1, by omega, by go_num, ⟨_, _, _, _, by rw [Hrun.out, act_clear], by rw [Hsay.out, say_no _ _ _ _ (by decide), List.length_append]; rfl, by rw [Hrun.out, Hsay.out, act_clear, say_no _ _ _ _ (by decide)]; exact R7.out⟩, HFin.out (by decide) (by decide), fun _ => h40⟩
                  case measure => simp [intOf]; omega
                · have HSay := Lib.hid (say_is L f1 f2)
                  have HC := Lib.hid (is_any A c w.heap.size L f1 f2 w5 R5.out.want (by have := HOk.out.len; omega))
                  go_wp2_with fail
                  refine HC.out.mono ?_
                  rintro e w6 ⟨rfl, hb6⟩
                  have R6 := R5.out.step hb6
                  clear hb6
                  generalize isL L f1 f2 = said at *
                  have hr6 := R6.ans
                  have hz6 := R6.below.size
                  have HR6 := Lib.hid R6
                  clear R6 HC R5 p0 p1 p2
                  go_wp2_with (at_builtin; refine wpList_append_own_at _ rfl _ _ 36 rfl w.heap.size 4 ib (.bool false) 1 1 Try.underlying36 hib hb0 hb1 hb2 rfl (by decide) (.slice A' bs.length c') bs.length (encs Value.bool bs) rfl (hr6.alloc _) ⟨w6.heap.size, 0, none⟩ 1 1 [.bool said] rfl rfl (cell_one_new _ _ _) (by simp [Value.oneCell']) (by unfold maxLen; omega) (by omega) (by simp; omega) ?_; intro v' w7 hown' hg7 hnn hat; obtain ⟨g7, c7, rfl, _, _⟩ := hown'.form (by omega); have R7 := Lib.hid (HR6.out.put hg7 rfl hown'); clear hown' hg7 hnn hat)
                  go_roundw
                  case rel => exact ⟨k + 1, by omega, by go_num, ⟨_, _, _, _, by rw [Hrun.out, act_is], by rw [Hsay.out, HSay.out, List.length_append]; rfl, by rw [Hrun.out, Hsay.out, act_is, HSay.out]; exact R7.out⟩, HFin.out (by decide) (by decide), fun _ => h40⟩
                  case measure => simp [intOf]; omega
                · have HC := Lib.hid (comp_any A c w.heap.size L w5 R5.out.want R5.out.below.size (by have := HOk.out.len; omega) HOk.out.up)
                  go_wp2_with fail
                  refine HC.out.mono ?_
                  rintro e w6 hp
                  obtain ⟨A6, c6, rfl, R6⟩ := R5.out.turn (.inl rfl) hp
                  clear hp
                  have hr6 := R6.ans
                  have hz6 := R6.below.size
                  have HR6 := Lib.hid R6
                  clear R6 HC R5 p0 p1 p2
                  go_wp2_with (at_builtin; refine wpList_append_own_at _ rfl _ _ 36 rfl w.heap.size 4 ib (.bool false) 1 1 Try.underlying36 hib hb0 hb1 hb2 rfl (by decide) (.slice A' bs.length c') bs.length (encs Value.bool bs) rfl (hr6.alloc _) ⟨w6.heap.size, 0, none⟩ 1 1 [.bool false] rfl rfl (cell_one_new _ _ _) (by simp [Value.oneCell']) (by unfold maxLen; omega) (by omega) (by simp; omega) ?_; intro v' w7 hown' hg7 hnn hat; obtain ⟨g7, c7, rfl, _, _⟩ := hown'.form (by omega); have R7 := Lib.hid (HR6.out.put hg7 rfl hown'); clear hown' hg7 hnn hat)
                  go_roundw
                  case rel => exact ⟨k + 1, by omega, by go_num, ⟨_, _, _, _, by rw [Hrun.out, act_comp], by rw [Hsay.out, say_no _ _ _ _ (by decide), List.length_append]; rfl, by rw [Hrun.out, Hsay.out, act_comp, say_no _ _ _ _ (by decide)]; exact R7.out⟩, HFin.out (by decide) (by decide), fun _ => h40⟩
                  case measure => simp [intOf]; omega
              · by_cases hneg : f0 < 0
                · have e0 : ¬ f0 = 0 := by omega
                  have e1 : ¬ f0 = 1 := by omega
                  have e2 : ¬ f0 = 2 := by omega
                  have e3 : ¬ f0 = 3 := by omega
                  clear hf
                  go_wp2_with (go_at_call 8; refine (works_any _).mono ?_; rintro e w6 ⟨rfl, hb6⟩; have R6 := Lib.hid (R5.out.step hb6); clear hb6)
                  go_ret
                  exact ⟨rfl, R6.out.below⟩
                · have hbig : 3 < f0 := by omega
                  have e0 : ¬ f0 = 0 := by omega
                  have e1 : ¬ f0 = 1 := by omega
                  have e2 : ¬ f0 = 2 := by omega
                  have e3 : ¬ f0 = 3 := by omega
                  clear hf
                  go_wp2_with (go_at_call 8; refine (works_any _).mono ?_; rintro e w6 ⟨rfl, hb6⟩; have R6 := Lib.hid (R5.out.step hb6); clear hb6)
                  go_ret
                  exact ⟨rfl, R6.out.below⟩
        · have s1 : ¬ f1.toList = [42] := fun e => hstar ((eq_star _).1 e)
          clear hstar
          have hsb : f1.size ≤ big := by unfold big; omega
          cases hwk : wordK f1 with
          | false =>
            have HWo := Lib.hid (words_one f1 hsb (wr.alloc (.cells #[.int .i64 f0, .string f1, .int .i64 f2] 38)) false hwk (wr.heap.size + 1) (by simp))
            clear hwk
            go_wp2_with (first | (go_at_call 14; with_reducible refine HWo.out.mono ?_; rintro e w5 ⟨rfl, hb5⟩; have R5 := Lib.hid (R1.out.step hb5); have q0 := (hb5.cell (p := ⟨wr.heap.size, 0, none⟩) (by simp)).trans p0; have q1 := (hb5.cell (p := ⟨wr.heap.size, 1, none⟩) (by simp)).trans p1; have q2 := (hb5.cell (p := ⟨wr.heap.size, 2, none⟩) (by simp)).trans p2; clear hb5) | (go_at_call 8; refine (works_any _).mono ?_; rintro e w6 ⟨rfl, hb6⟩; have R6 := Lib.hid (R5.out.step hb6); clear hb6))
            go_ret
            exact ⟨rfl, R6.out.below⟩
          | true =>
            have HWo := Lib.hid (words_one f1 hsb (wr.alloc (.cells #[.int .i64 f0, .string f1, .int .i64 f2] 38)) true hwk (wr.heap.size + 1) (by simp))
            have hkey := wordK_size hwk
            clear hwk
            by_cases ht0 : f2 < 0
            · go_wp2_with (first | (go_at_call 14; with_reducible refine HWo.out.mono ?_; rintro e w5 ⟨rfl, hb5⟩; have R5 := Lib.hid (R1.out.step hb5); have q0 := (hb5.cell (p := ⟨wr.heap.size, 0, none⟩) (by simp)).trans p0; have q1 := (hb5.cell (p := ⟨wr.heap.size, 1, none⟩) (by simp)).trans p1; have q2 := (hb5.cell (p := ⟨wr.heap.size, 2, none⟩) (by simp)).trans p2; clear hb5) | (go_at_call 8; refine (works_any _).mono ?_; rintro e w6 ⟨rfl, hb6⟩; have R6 := Lib.hid (R5.out.step hb6); clear hb6))
              go_ret
              exact ⟨rfl, R6.out.below⟩
            · have hz0 : 0 ≤ f2 := by omega
              by_cases ht1 : 1099511627776 < f2
              · go_wp2_with (first | (go_at_call 14; with_reducible refine HWo.out.mono ?_; rintro e w5 ⟨rfl, hb5⟩; have R5 := Lib.hid (R1.out.step hb5); have q0 := (hb5.cell (p := ⟨wr.heap.size, 0, none⟩) (by simp)).trans p0; have q1 := (hb5.cell (p := ⟨wr.heap.size, 1, none⟩) (by simp)).trans p1; have q2 := (hb5.cell (p := ⟨wr.heap.size, 2, none⟩) (by simp)).trans p2; clear hb5) | (go_at_call 8; refine (works_any _).mono ?_; rintro e w6 ⟨rfl, hb6⟩; have R6 := Lib.hid (R5.out.step hb6); clear hb6))
                go_ret
                exact ⟨rfl, R6.out.below⟩
              · have hz1 : f2 ≤ 1099511627776 := by omega
                clear ht0 ht1
                go_upto_region 10 with (go_at_call 14; with_reducible refine HWo.out.mono ?_; rintro e w5 ⟨rfl, hb5⟩; have R5 := Lib.hid (R1.out.step hb5); have q0 := (hb5.cell (p := ⟨wr.heap.size, 0, none⟩) (by simp)).trans p0; have q1 := (hb5.cell (p := ⟨wr.heap.size, 1, none⟩) (by simp)).trans p1; have q2 := (hb5.cell (p := ⟨wr.heap.size, 2, none⟩) (by simp)).trans p2; clear hb5)
                clear p0 p1 p2 HWo R1
                have p0 := q0
                have p1 := q1
                have p2 := q2
                clear q0 q1 q2
                have hfin : 0 ≤ f0 → f0 ≤ 3 → Hid (∀ a ∈ l.take (k + 1), Fine a) := fun u0 u3 => hnx ⟨u0, u3, hkey, by show (0 : Int) ≤ f2; omega, by show f2 ≤ 1099511627776; omega⟩
                have HFin := Lib.hid hfin
                clear hfin hnx
                by_cases hf : 0 ≤ f0 ∧ f0 ≤ 3
                · obtain rfl | rfl | rfl | rfl : f0 = 0 ∨ f0 = 1 ∨ f0 = 2 ∨ f0 = 3 := by omega
                  · have HC := Lib.hid (revoked_any A c w.heap.size L f1 f2 w5 R5.out.want R5.out.below.size (by have := HOk.out.len; omega))
                    go_wp2_with fail
                    refine HC.out.mono ?_
                    rintro e w6 hp
                    obtain ⟨A6, c6, rfl, R6⟩ := R5.out.turn (.inr rfl) hp
                    clear hp
                    have hr6 := R6.ans
                    have hz6 := R6.below.size
                    have HR6 := Lib.hid R6
                    clear R6 HC R5 p0 p1 p2
                    go_wp2_with (at_builtin; refine wpList_append_own_at _ rfl _ _ 36 rfl w.heap.size 4 ib (.bool false) 1 1 Try.underlying36 hib hb0 hb1 hb2 rfl (by decide) (.slice A' bs.length c') bs.length (encs Value.bool bs) rfl (hr6.alloc _) ⟨w6.heap.size, 0, none⟩ 1 1 [.bool false] rfl rfl (cell_one_new _ _ _) (by simp [Value.oneCell']) (by unfold maxLen; omega) (by omega) (by simp; omega) ?_; intro v' w7 hown' hg7 hnn hat; obtain ⟨g7, c7, rfl, _, _⟩ := hown'.form (by omega); have R7 := Lib.hid (HR6.out.put hg7 rfl hown'); clear hown' hg7 hnn hat)
                    go_roundw
                    case rel => exact ⟨k + 1, by omega, by go_num, ⟨_, _, _, _, by rw [Hrun.out, act_revoke], by rw [Hsay.out, say_no _ _ _ _ (by decide), List.length_append]; rfl, by rw [Hrun.out, Hsay.out, act_revoke, say_no _ _ _ _ (by decide)]; exact R7.out⟩, HFin.out (by decide) (by decide), fun _ => h40⟩
                    case measure => simp [intOf]; omega
                  · have HC := Lib.hid (cleared_any A c w.heap.size L f1 w5 R5.out.want R5.out.below.size (by have := HOk.out.len; omega))
                    go_wp2_with fail
                    refine HC.out.mono ?_
                    rintro e w6 hp
                    obtain ⟨A6, c6, rfl, R6⟩ := R5.out.turn (.inl rfl) hp
                    clear hp
                    have hr6 := R6.ans
                    have hz6 := R6.below.size
                    have HR6 := Lib.hid R6
                    clear R6 HC R5 p0 p1 p2
                    go_wp2_with (at_builtin; refine wpList_append_own_at _ rfl _ _ 36 rfl w.heap.size 4 ib (.bool false) 1 1 Try.underlying36 hib hb0 hb1 hb2 rfl (by decide) (.slice A' bs.length c') bs.length (encs Value.bool bs) rfl (hr6.alloc _) ⟨w6.heap.size, 0, none⟩ 1 1 [.bool false] rfl rfl (cell_one_new _ _ _) (by simp [Value.oneCell']) (by unfold maxLen; omega) (by omega) (by simp; omega) ?_; intro v' w7 hown' hg7 hnn hat; obtain ⟨g7, c7, rfl, _, _⟩ := hown'.form (by omega); have R7 := Lib.hid (HR6.out.put hg7 rfl hown'); clear hown' hg7 hnn hat)
                    go_roundw
                    case rel => exact ⟨k + 1, by omega, by go_num, ⟨_, _, _, _, by rw [Hrun.out, act_clear], by rw [Hsay.out, say_no _ _ _ _ (by decide), List.length_append]; rfl, by rw [Hrun.out, Hsay.out, act_clear, say_no _ _ _ _ (by decide)]; exact R7.out⟩, HFin.out (by decide) (by decide), fun _ => h40⟩
                    case measure => simp [intOf]; omega
                  · have HSay := Lib.hid (say_is L f1 f2)
                    have HC := Lib.hid (is_any A c w.heap.size L f1 f2 w5 R5.out.want (by have := HOk.out.len; omega))
                    go_wp2_with fail
                    refine HC.out.mono ?_
                    rintro e w6 ⟨rfl, hb6⟩
                    have R6 := R5.out.step hb6
                    clear hb6
                    generalize isL L f1 f2 = said at *
                    have hr6 := R6.ans
                    have hz6 := R6.below.size
                    have HR6 := Lib.hid R6
                    clear R6 HC R5 p0 p1 p2
                    go_wp2_with (at_builtin; refine wpList_append_own_at _ rfl _ _ 36 rfl w.heap.size 4 ib (.bool false) 1 1 Try.underlying36 hib hb0 hb1 hb2 rfl (by decide) (.slice A' bs.length c') bs.length (encs Value.bool bs) rfl (hr6.alloc _) ⟨w6.heap.size, 0, none⟩ 1 1 [.bool said] rfl rfl (cell_one_new _ _ _) (by simp [Value.oneCell']) (by unfold maxLen; omega) (by omega) (by simp; omega) ?_; intro v' w7 hown' hg7 hnn hat; obtain ⟨g7, c7, rfl, _, _⟩ := hown'.form (by omega); have R7 := Lib.hid (HR6.out.put hg7 rfl hown'); clear hown' hg7 hnn hat)
                    go_roundw
                    case rel => exact ⟨k + 1, by omega, by go_num, ⟨_, _, _, _, by rw [Hrun.out, act_is], by rw [Hsay.out, HSay.out, List.length_append]; rfl, by rw [Hrun.out, Hsay.out, act_is, HSay.out]; exact R7.out⟩, HFin.out (by decide) (by decide), fun _ => h40⟩
                    case measure => simp [intOf]; omega
                  · have HC := Lib.hid (comp_any A c w.heap.size L w5 R5.out.want R5.out.below.size (by have := HOk.out.len; omega) HOk.out.up)
                    go_wp2_with fail
                    refine HC.out.mono ?_
                    rintro e w6 hp
                    obtain ⟨A6, c6, rfl, R6⟩ := R5.out.turn (.inl rfl) hp
                    clear hp
                    have hr6 := R6.ans
                    have hz6 := R6.below.size
                    have HR6 := Lib.hid R6
                    clear R6 HC R5 p0 p1 p2
                    go_wp2_with (at_builtin; refine wpList_append_own_at _ rfl _ _ 36 rfl w.heap.size 4 ib (.bool false) 1 1 Try.underlying36 hib hb0 hb1 hb2 rfl (by decide) (.slice A' bs.length c') bs.length (encs Value.bool bs) rfl (hr6.alloc _) ⟨w6.heap.size, 0, none⟩ 1 1 [.bool false] rfl rfl (cell_one_new _ _ _) (by simp [Value.oneCell']) (by unfold maxLen; omega) (by omega) (by simp; omega) ?_; intro v' w7 hown' hg7 hnn hat; obtain ⟨g7, c7, rfl, _, _⟩ := hown'.form (by omega); have R7 := Lib.hid (HR6.out.put hg7 rfl hown'); clear hown' hg7 hnn hat)
                    go_roundw
                    case rel => exact ⟨k + 1, by omega, by go_num, ⟨_, _, _, _, by rw [Hrun.out, act_comp], by rw [Hsay.out, say_no _ _ _ _ (by decide), List.length_append]; rfl, by rw [Hrun.out, Hsay.out, act_comp, say_no _ _ _ _ (by decide)]; exact R7.out⟩, HFin.out (by decide) (by decide), fun _ => h40⟩
                    case measure => simp [intOf]; omega
                · by_cases hneg : f0 < 0
                  · have e0 : ¬ f0 = 0 := by omega
                    have e1 : ¬ f0 = 1 := by omega
                    have e2 : ¬ f0 = 2 := by omega
                    have e3 : ¬ f0 = 3 := by omega
                    clear hf
                    go_wp2_with (go_at_call 8; refine (works_any _).mono ?_; rintro e w6 ⟨rfl, hb6⟩; have R6 := Lib.hid (R5.out.step hb6); clear hb6)
                    go_ret
                    exact ⟨rfl, R6.out.below⟩
                  · have hbig : 3 < f0 := by omega
                    have e0 : ¬ f0 = 0 := by omega
                    have e1 : ¬ f0 = 1 := by omega
                    have e2 : ¬ f0 = 2 := by omega
                    have e3 : ¬ f0 = 3 := by omega
                    clear hf
                    go_wp2_with (go_at_call 8; refine (works_any _).mono ?_; rintro e w6 ⟨rfl, hb6⟩; have R6 := Lib.hid (R5.out.step hb6); clear hb6)
                    go_ret
                    exact ⟨rfl, R6.out.below⟩
      · have h41 : 40 < l.length := by omega
        go_wp2_with (go_at_call 8; refine (works_any _).mono ?_; rintro e w6 ⟨rfl, hb6⟩; have R6 := Lib.hid (R1.out.step hb6); clear hb6)
        go_ret
        exact ⟨rfl, R6.out.below⟩
    · obtain rfl : k = l.length := by omega
      rw [List.take_length] at R hfine ⊢
      have hl40 : l.length ≤ 40 := by
        rcases Nat.eq_zero_or_pos l.length with h | h
        · omega
        · exact h40k h
      rename World => wm
      have HRv := Lib.hid (revs_any Al cl l wm (Kd.C_below HL.out R.out.below) hl40 hfine)
      have hL40 : (runL l).length ≤ 40 := Nat.le_trans (by have := (Ok.run l.length (Nat.le_refl _) (by rw [List.take_length]; exact hfine)).len; rw [List.take_length] at this; exact this) hl40
      have hb40 : (saysL l).length ≤ 40 := by rw [saysL_len]; exact hl40
      clear hfine h40k hlt hk
      generalize runL l = L at *
      generalize saysL l = bs at *
      go_wp2_with fail
      refine HRv.out.mono ?_
      rintro e w5 ⟨⟨A1, c1, A2, c2, rfl, ho1, ho2⟩, hb5⟩
      have R5 := Lib.hid (R.out.step hb5)
      have HO1 := Lib.hid ho1
      have HO2 := Lib.hid ho2
      clear ho1 ho2 hb5 HRv R
      go_wp2_with fail
      go_loopw [101] (fun i wr => ∃ j : Nat, j ≤ bs.length ∧ i = .int .i64 j ∧ Below w5.heap.size w5 wr) (fun i _ => bs.length - (intOf i).toNat)
      case atStart => exact ⟨0, Nat.zero_le _, rfl, Below.refl _ _⟩
      case round =>
        obtain ⟨j, hj, rfl, hb⟩ := hrel
        by_cases hjl : j < bs.length
        · obtain ⟨_, _, hrb⟩ := reads_own Value.bool false (own_below HO1.out hb)
          obtain ⟨a1, hA1, hcb⟩ := hrb.2.2 (by omega)
          subst hA1
          have hcell := hcb j hjl
          obtain ⟨_, _, hra⟩ := reads_own Value.bool false (own_below R5.out.ans hb)
          obtain ⟨a2, hA2, hca⟩ := hra.2.2 (by omega)
          subst hA2
          have hcell2 := hca j hjl
          have i0 : (0 : Int) ≤ (j : Int) := Int.natCast_nonneg _
          have i1 : (j : Int) < (bs.length : Int) := by omega
          have HB := Lib.hid hb
          generalize bs.getD j false = b at hcell hcell2
          clear hrb hcb hra hca hb
          go_wp2_with fail
          go_quiet (fail)
          go_wp2
          go_roundw
          case rel => exact ⟨j + 1, by omega, by go_num, HB.out.trans ⟨rfl, rfl, rfl, Nat.le_refl _, fun _ _ => rfl⟩⟩
          case measure => simp [intOf]; omega
        · obtain rfl : j = bs.length := by omega
          rename World => wn
          have W5 := own_below R5.out.want hb
          have HO6 := Lib.hid (own_below HO2.out hb)
          have HW5 := Lib.hid W5
          have HB6 := Lib.hid (R5.out.below.trans (hb.mono R5.out.below.size))
          clear hb hjl hj W5 HO1 HO2 R5
          go_wp2_with fail
          go_loopw [116] (fun i wr => ∃ j : Nat, j ≤ L.length ∧ i = .int .i64 j ∧ Below wn.heap.size wn wr) (fun i _ => L.length - (intOf i).toNat)
          case atStart => exact ⟨0, Nat.zero_le _, rfl, Below.refl _ _⟩
          case round =>
            obtain ⟨j, hj, rfl, hb⟩ := hrel
            by_cases hjl : j < L.length
            · have o1 := own_below HW5.out hb
              have o2 := own_below HO6.out hb
              obtain ⟨g1, k1, hv1, _, _⟩ := o1.form (by omega)
              injection hv1 with ha1 hn1 hc1
              subst ha1
              clear hn1 hc1
              obtain ⟨g2, k2, hv2, _, _⟩ := o2.form (by omega)
              injection hv2 with ha2 hn2 hc2
              subst ha2
              clear hn2 hc2
              obtain ⟨x0, x1⟩ := en_cell o1 j hjl
              obtain ⟨y0, y1⟩ := en_cell o2 j hjl
              have i0 : (0 : Int) ≤ (j : Int) := Int.natCast_nonneg _
              have i1 : (j : Int) < (L.length : Int) := by omega
              have HB := Lib.hid hb
              generalize L[j].f0 = q at *
              generalize L[j].f1 = m at *
              clear hb o1 o2
              go_wp2_with fail
              go_quiet (fail)
              go_wp2
              go_roundw
              case rel => exact ⟨j + 1, by omega, by go_num, (HB.out.alloc HB.out.size _).trans ⟨rfl, rfl, rfl, Nat.le_refl _, fun _ _ => rfl⟩⟩
              case measure => simp [intOf]; omega
            · obtain rfl : j = L.length := by omega
              have HB7 := Lib.hid (HB6.out.trans (hb.mono HB6.out.size))
              clear hb hjl hj HO6 HW5
              go_wp2_with (go_at_call 8; refine (works_any _).mono ?_; rintro e w8 ⟨rfl, hb8⟩; have HB8 := Lib.hid (HB7.out.trans (hb8.mono HB7.out.size)); clear hb8)
              go_ret
              exact ⟨rfl, HB8.out⟩
end Go.Proofs.Ytnbihmagbedfmaa
/- laws.FnRevocations hands back true, at every input. -/
namespace Go.Proofs.Ytnbihmagbedfmaa
open Go.RowKit Go.Proofs.YtnbihmagbedfmaaW.PrintWords
open PFnRevocations (S38 k38)

set_option maxRecDepth 100000 in
theorem fnrev_walk (Al : Option Addr) (cl : Nat) (l : List Ac) (w : World) (hl : Kd.C k38 w Al l.length l) (hcl : l.length ≤ cl) :
    Calls Try.prog 6 #[.slice Al l.length cl] w fun e w' => e = .returned (.bool true) ∧ Below w.heap.size w w' := by
  cases hfit : fitsActs l with
  | true => exact fnrev_at Al cl l w hl hcl hfit
  | false =>
    have HFi := fitsActs_any Al cl l w hl hcl
    rw [hfit] at HFi
    have HFit := Lib.hid HFi
    clear HFi hl hfit
    go_enter Try.func6, Try.ntmps6
    go_wp2_with fail
    refine HFit.out.mono ?_
    rintro e w1 ⟨rfl, hb1⟩
    have HB := Lib.hid hb1
    clear hb1 HFit
    go_wp2
    go_ret
    exact ⟨rfl, HB.out⟩
end Go.Proofs.Ytnbihmagbedfmaa
/- The row of laws.FnRevocations: for every list of acts the law hands back true, and what was there is as it was. No condition. -/
namespace Go.Proofs.Ytnbihmagbedfmaa.fnRevocations
open Go.ChangeShapes Go.WideShapes Go.ChangeAt Go.RowKit
open Go.Proofs.YtnbihmagbedfmaaW.PrintWords
open PFnRevocations (S38 z38 k38 k38_mk)
open Go.Deep (open_slice choose_lt)
set_option linter.unusedVariables false

theorem own : ownKnob Try.prog.godebug = none := by kernel_rfl
theorem laidOut : laidOutB Try.prog = true := by kernel_rfl
theorem cells38 : Try.prog.cellsOf 38 = 3 := by kernel_rfl

instance : Inhabited S38 := ⟨z38⟩
set_option maxRecDepth 100000 in
/-- The acts that came in. -/
theorem came_acts {H : Type} {enc : TypeId × Value → H} {W : World} {a : Option Addr} {len cap : Nat} {d : DataW H} {p : List MemPlace}
    (h : DataW.Trod enc Try.prog W 0 (fun _ => true) true 33 (.slice a len cap) d p) :
    ∃ l : List S38, len = l.length ∧ l.length ≤ cap ∧ Kd.C k38 W a l.length l := by
  obtain ⟨fuel, hf⟩ := h
  rcases open_slice Try.underlying33 hf with ⟨hcs, _⟩ | ⟨ad, len', cap', m, n, D, Pl, hcs, _, hl, hm, hmm, _, hel⟩
  · simp [Value.cells] at hcs
    obtain ⟨rfl, rfl, rfl⟩ := hcs
    exact ⟨[], rfl, by simp, ⟨rfl, by decide, fun h => absurd h (by decide)⟩⟩
  · simp [Value.cells] at hcs
    obtain ⟨rfl, rfl, rfl⟩ := hcs
    have hmc : m = cap := by simpa using hmm
    have each : ∀ i, i < len → ∃ s : S38, ∃ c : List Value, c.length = 3 ∧ k38.K W s c ∧ ∀ j u, c[j]? = some u → W.cell? (ad.add (i * 3 + j)) = some u := by
      intro i hi
      obtain ⟨cs', h1, h2⟩ := hel i (by omega)
      rw [cells38] at h1
      obtain ⟨_, h3, h4⟩ := World.cells?_some h1
      obtain ⟨ys, n', _, _, _, hys, hfl⟩ := DataW.trod_struct Try.underlying38 h2
      have g0 := hfl 0 _ rfl
      have g1 := hfl 1 _ rfl
      have g2 := hfl 2 _ rfl
      have hy3 : ys.length = 3 := hys
      rw [List.getElem?_eq_getElem (by omega)] at g0 g1 g2
      obtain ⟨b, hb, _⟩ := DataW.trod_int Try.underlying3 g0
      obtain ⟨s, hs, _⟩ := DataW.trod_string Try.underlying9 g1
      obtain ⟨t, ht, _⟩ := DataW.trod_int Try.underlying2 g2
      match cs', h3 with
      | [u0, u1, u2], _ =>
        have e0 : [u0] = [Value.int .i64 b] := hb
        have e1 : [u1] = [Value.string s] := hs
        have e2 : [u2] = [Value.int .i64 t] := ht
        injection e0 with e0 _
        injection e1 with e1 _
        injection e2 with e2 _
        subst e0
        subst e1
        subst e2
        refine ⟨⟨b, s, t⟩, [.int .i64 b, .string s, .int .i64 t], rfl, k38_mk W ⟨b, s, t⟩, fun j u hj => ?_⟩
        have hj3 : j < 3 := by
          have := (List.getElem?_eq_some_iff.1 hj).1
          simpa using this
        have h5 := h4 j hj3
        rw [hj] at h5
        have e : (ad.add (i * 3)).add j = ad.add (i * 3 + j) := by
          unfold Addr.add
          by_cases hi0 : i * 3 = 0
          · simp [hi0]
          · by_cases hj0 : j = 0
            · simp [hj0]
            · simp [hi0, hj0, Nat.add_assoc]
        rw [e] at h5
        exact h5
    obtain ⟨f, hfs⟩ := choose_lt each
    have hlen : ((List.range len).map f).length = len := by simp
    refine ⟨(List.range len).map f, hlen.symm, by omega, ⟨rfl, by rw [hlen]; unfold maxLen at hm; omega, fun _ => ⟨ad, rfl, fun j p hp => ?_⟩⟩⟩
    have hj : j < len := by
      have := (List.getElem?_eq_some_iff.1 hp).1
      simpa using this
    obtain ⟨c, k1, k2, k3⟩ := hfs j hj
    have hpf : p = f j := by
      simp [hj] at hp
      exact hp.symm
    subst hpf
    exact ⟨c, k1, k2, k3⟩

set_option maxRecDepth 100000 in
theorem lifted (os : Os) (started : os.Started) (H : Type) (enc : TypeId × Value → H) :
    ReturnsInHanded {} Try.checked os 6 .any (Rows.fnRevocationsSpec.pre6 enc Try.prog Try.f6 Rows.fnRevocationsRow.domain false) (Rows.fnRevocationsSpec.post enc Try.prog Try.f6 false true false false) := by
  refine returnsInHanded_of_change (C := Try.checked) own started (by kernel_rfl) Try.func6
    (ChangeSpec.witness6 (enc := enc) (C := Try.checked) false ⟨#[], #[.slice none 0 0], []⟩ 8 (by kernel_rfl) (by kernel_rfl) (by kernel_rfl) (by kernel_rfl)) ?_
  intro W base args ds gs before hval0 hW hcnd _
  have hval : ∀ (j : Nat) t v, Try.f6.params[j]? = some t → args[j]? = some v → Value.okWide Try.prog W .any base t v := hval0
  have hW' := hW
  obtain ⟨p, q, hA0, hV, rfl, hfz, hnd⟩ := hW
  have hA : DataW.TrodAll enc Try.prog W 0 (fun _ => true) true Try.f6.params.toList args.toList ds p := hA0
  rw [Try.params6] at hA hval
  obtain ⟨v0, vs0, d0, ds0, p0, q0, hargs, rfl, rfl, h0, r0⟩ := trodAll_cons hA
  obtain ⟨rfl, rfl, rfl⟩ := trodAll_nil r0
  obtain rfl : args = #[v0] := by cases args; simp_all
  obtain ⟨rfl, rfl⟩ := trodVars_none hV
  obtain ⟨a0, len0, cap0, rfl⟩ := okWide_slice Try.underlying33 (hval 0 33 v0 rfl rfl)
  have lt0 : ∀ x ∈ p0, x.block < W.heap.size := by obtain ⟨m, hm⟩ := h0; exact DataW.trod_lt m _ _ _ hm
  obtain ⟨l, rfl, hc0, hr0⟩ := came_acts h0
  clear hA0 hval0
  refine (fnrev_walk a0 cap0 l W hr0 hc0).mono fun e W' ⟨he, bel⟩ => ?_
  subst he
  exact ⟨_, rfl, _, _, _, [], _, [], hW', trodAll_mk1 (shut_bool Try.underlying4 _), (trodAll_cons_mk (Below.trod laidOut (by kernel_rfl) (of_decide_eq_true (by kernel_rfl)) h0 bel lt0) trodAll_mk0), rfl, bel.frame _, fun h => by cases h⟩

theorem over : Rows.fnRevocationsRow.holds Try.pinned (OpenSpec.ofChange Rows.fnRevocationsSpec) :=
  OpenClaim.holds_of_wide 6 Try.f6 rfl rfl rfl rfl rfl rfl rfl ⟨rfl, rfl, rfl, rfl, rfl⟩ rfl rfl rfl rfl rfl (by kernel_rfl) Try.func6 (by kernel_rfl)
    (of_decide_eq_true (by kernel_rfl)) (by unfold Func.isWrapper; first | (rw [if_pos (by decide +kernel)]; kernel_rfl) | (rw [if_neg (by decide +kernel)]; exact ⟨rfl, rfl⟩))
    (fun os started H enc _ => lifted os started H enc)

theorem proved : Rows.FnRevocationsSaid :=
  over
#print axioms proved
end Go.Proofs.Ytnbihmagbedfmaa.fnRevocations
