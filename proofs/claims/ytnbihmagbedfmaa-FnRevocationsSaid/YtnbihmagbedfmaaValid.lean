/- Contracts of Subject.Validate, of fine and of Valid: a subject is valid just as 'Pl.valid' says. -/
import Derived.Test.YtnbihmagbedfmaaTexts
import Derived.Test.YtnbihmagbedfmaaIssues
import Derived.Test.YtnbihmagbedfmaaQuiet
namespace Go.Proofs.Ytnbihmagbedfmaa
open Go.RowKit Go.Proofs.YtnbihmagbedfmaaW.PrintWords
open Pl (hasSub toks toksA valid plain plainT okt okc)

/-- The list of issues in block B, and what lies elsewhere as it lay in w0. -/
structure VS (B N : Nat) (bad : Bool) (w0 w : World) : Prop where
  vr : VR B N bad w
  below : Below B w0 w
  others : Lib.OthersKept 94 (some B) w0 w

theorem VS.start {B N : Nat} {bad : Bool} {w : World} (h : VR B N bad w) : VS B N bad w w := ⟨h, Below.refl _ _, Lib.OthersKept.refl _ _ _⟩
theorem VS.drawn {B N : Nat} {bad : Bool} {w0 w w1 : World} (h : VS B N bad w0 w) (hd : Drawn0 w w1) : VS B N bad w0 w1 :=
  ⟨h.vr.below hd.below, h.below.trans (hd.below.mono (Nat.le_of_lt h.vr.lt)), by
    obtain ⟨n, rfl⟩ := hd
    exact h.others⟩
theorem VS.mono {B N N' : Nat} {bad : Bool} {w0 w : World} (h : VS B N bad w0 w) (hN : N ≤ N') : VS B N' bad w0 w := ⟨h.vr.mono hN, h.below, h.others⟩
theorem VS.trans {B N N' : Nat} {bad bad' : Bool} {w0 w w1 : World} (h : VS B N bad w0 w) (k : VS B N' bad' w w1) : VS B N' bad' w0 w1 := ⟨k.vr, h.below.trans k.below, h.others.trans k.others⟩

theorem VS.contains {B N : Nat} {bad : Bool} {w0 w : World} (h : VS B N bad w0 w) (s sub : ByteArray) (hs : s.size ≤ big) (hb : sub.size ≤ big) :
    Calls Try.prog 42 #[.string s, .string sub] w fun e w' => e = .returned (.bool (hasSub sub.data.toList s.data.toList)) ∧ VS B N bad w0 w' :=
  (contains_any s sub hs hb w).mono fun _ _ ⟨he, hd⟩ => ⟨he, h.drawn hd⟩
theorem VS.add {B N : Nat} {bad : Bool} {w0 w : World} (h : VS B N bad w0 w) (d : ByteArray) (hN : N ≤ 1000000) :
    Calls Try.prog 41 #[.pointer (some ⟨B, 0, none⟩), .string d] w fun e w' => e = .returned (.tuple #[]) ∧ VS B (N + 1) true w0 w' :=
  (adderror_any B N bad d w h.vr hN).mono fun _ _ ⟨he, h1, h2, h3⟩ => ⟨he, h1, h.below.trans h2, h.others.trans h3⟩

theorem VS.close {B N M : Nat} {b c : Bool} {w0 w : World} (h : VS B M b w0 w) (hM : M ≤ N) (hb : b = c) : VS B N c w0 w := hb ▸ h.mono hM

theorem valid_tests (s : ByteArray) (h0 : 0 < s.size) :
    valid s.data.toList = (!hasSub [32] s.data.toList && !((s[0].toNat : Int) == 46) && !((s[s.size - 1].toNat : Int) == 46) && !hasSub [46, 46] s.data.toList) := by
  have hne : s.data.toList.isEmpty = false := by
    rw [List.isEmpty_eq_false_iff, ne_eq, ← List.length_eq_zero_iff, data_length]; omega
  have hh : s.data.toList.head? = some s[0] := by
    rw [List.head?_eq_getElem?, List.getElem?_eq_getElem (by rw [data_length]; exact h0)]; rfl
  have hl : s.data.toList.getLast? = some s[s.size - 1] := by
    rw [List.getLast?_eq_getElem?, data_length, List.getElem?_eq_getElem (by rw [data_length]; omega)]; rfl
  have hc : ∀ c : UInt8, (some c == some (46 : UInt8)) = ((c.toNat : Int) == 46) := by
    intro c
    rw [Bool.eq_iff_iff]
    simp only [beq_iff_eq, Option.some.injEq]
    constructor
    · rintro rfl; rfl
    · intro h; apply UInt8.toNat_inj.1; have : c.toNat = 46 := by omega
      rw [this]; rfl
  unfold valid
  rw [hne, hh, hl, hc, hc]
  simp

set_option maxRecDepth 100000 in
theorem validate_some (B N : Nat) (bad : Bool) (s : ByteArray) (w0 w : World) (h : VS B N bad w0 w) (hN : N ≤ 900000) (hs : s.size ≤ 4294967296) (h0 : 0 < s.size) :
    Calls Try.prog 23 #[.string s, .pointer (some ⟨B, 0, none⟩)] w fun e w' => e = .returned (.tuple #[]) ∧ VS B (N + 4) (bad || !valid s.data.toList) w0 w' := by
  have hne : ¬ s.data.toList = [] := by
    rw [← List.length_eq_zero_iff, data_length]; omega
  have e1 : s.toList.isEmpty = false := by rw [Lib.toList_data]; simpa using hne
  have e2 : (s.toList == []) = false := by rw [Lib.toList_data]; simpa using hne
  have HV := Lib.hid (valid_tests s h0)
  clear hne
  go_enter Try.func23, Try.ntmps23
  go_wp2_with (first | (go_at_call 42; refine (VS.contains (by assumption) _ _ hs (by decide)).mono ?_; rintro e w1 ⟨rfl, hv⟩) | (go_at_call 41; refine (VS.add (by assumption) _ (by omega)).mono ?_; rintro e w1 ⟨rfl, hv⟩))
  all_goals (go_end0; refine ⟨rfl, VS.close (by assumption) (by omega) ?_⟩; rw [HV.out]; clear HV)
  all_goals first | (simp [*]; done) | (simp_all; done)

set_option maxRecDepth 100000 in
theorem validate_none (B N : Nat) (bad : Bool) (s : ByteArray) (w0 w : World) (h : VS B N bad w0 w) (hN : N ≤ 900000) (h0 : s.data.toList = []) :
    Calls Try.prog 23 #[.string s, .pointer (some ⟨B, 0, none⟩)] w fun e w' => e = .returned (.tuple #[]) ∧ VS B (N + 1) true w0 w' := by
  have e1 : s.toList.isEmpty = true := by rw [Lib.toList_data]; simpa using h0
  have e2 : (s.toList == []) = true := by rw [Lib.toList_data]; simpa using h0
  clear h0
  go_enter Try.func23, Try.ntmps23
  go_wp2_with (go_at_call 41; refine (VS.add (by assumption) _ (by omega)).mono ?_; rintro e w1 ⟨rfl, hv⟩)
  refine bodyPost_ret (results_none rfl _ _ _) rfl ⟨rfl, hv⟩

/-- Subject.Validate: it tells an issue just where the subject is not valid. -/
theorem validate_any (B N : Nat) (bad : Bool) (s : ByteArray) (w0 w : World) (h : VS B N bad w0 w) (hN : N ≤ 900000) (hs : s.size ≤ 4294967296) :
    Calls Try.prog 23 #[.string s, .pointer (some ⟨B, 0, none⟩)] w fun e w' => e = .returned (.tuple #[]) ∧ VS B (N + 4) (bad || !valid s.data.toList) w0 w' := by
  rcases Nat.eq_zero_or_pos s.size with h0 | h0
  · have hl : s.data.toList = [] := List.eq_nil_of_length_eq_zero (by rw [data_length]; exact h0)
    refine (validate_none B N bad s w0 w h hN hl).mono fun e w' ⟨he, hv⟩ => ⟨he, hv.close (by omega) ?_⟩
    rw [hl, Pl.valid_nil]
    simp
  · exact validate_some B N bad s w0 w h hN hs h0

/-- What a check owes to 'fine': called behind the making of a list of issues, it comes back with issues just if 'bad', and turns nothing else. -/
def Checks (g : FuncId) (cap : Array Value) (base : Nat) (w : World) (bad : Bool) : Prop :=
  ∀ W : World, Below base w W → base ≤ W.heap.size → Calls Try.prog g (#[.pointer (some ⟨W.heap.size, 0, none⟩)] ++ cap) (W.alloc (.cells #[.slice none 0 0] 93)) fun e w' => e = .returned (.tuple #[]) ∧
    ∃ N, VS W.heap.size N bad (W.alloc (.cells #[.slice none 0 0] 93)) w'

set_option maxRecDepth 100000 in
theorem fine1_any (g : FuncId) (cap : Array Value) (bad : Bool) (base b : Nat) (w0 w : World) (hent : ∀ (r : Addr) (W : World), (callFunc g (#[.pointer (some r)] ++ cap)).run Try.prog W = .ok (.enter g (#[.pointer (some r)] ++ cap)) W)
    (hg : Checks g cap base w0 bad) (hb : Below base w0 w) (hbase : base ≤ w.heap.size)
    (hc : w.heap[b]? = some (.cells #[.func (.func g) #[] cap] 53 (0, 0))) (hd : w.heap[b + 1]? = some (.cells #[.bool false] 4 (0, 0))) (hbb : base ≤ b) :
    Calls Try.prog 38 #[.pointer (some ⟨b, 0, none⟩), .pointer (some ⟨b + 1, 0, none⟩)] w fun e w' => e = .returned (.tuple #[]) ∧ Below base w0 w' ∧ w'.heap[b + 1]? = some (.cells #[.bool (!bad)] 4 (0, 0)) ∧ w.heap.size ≤ w'.heap.size ∧ (∀ k, k < w.heap.size → k ≠ b + 1 → w'.heap[k]? = w.heap[k]?) := by
  have hlb := lt_of_block hc
  have hld := lt_of_block hd
  have c0 : ∀ o : Obj, (w.alloc o).cell? ⟨b, 0, none⟩ = some (.func (.func g) #[] cap) := fun o => cell_of_one ((Below.heap_alloc _ _ _ hlb).trans hc)
  have HG := Lib.hid (hg w hb hbase)
  have HC := Lib.hid hc
  have HD := Lib.hid hd
  clear hg hc hd
  go_enter Try.func38, Try.ntmps38
  go_wp2_with (go_at_call 39; refine (create_any _).mono ?_; rintro e w1 ⟨rfl, rfl⟩)
  refine HG.out.mono ?_
  rintro e w1 ⟨rfl, N, hv⟩
  have hd1 : w1.heap[b + 1]? = some (.cells #[.bool false] 4 (0, 0)) := (hv.below.block _ hld).trans ((Below.heap_alloc _ _ _ hld).trans HD.out)
  have hcd := cell_of_one hd1
  have hfd := free_of_one hd1
  have HD1 := Lib.hid hd1
  clear hd1 c0 hent
  go_wp2_with (go_at_call 40; refine (blocking_any _ N bad _ hv.vr).mono ?_; rintro e w2 ⟨rfl, rfl⟩)
  go_end0
  have hsz : w.heap.size ≤ w1.heap.size := by have := hv.below.size; simp at this; omega
  have hb1 : Below w.heap.size w w1 := ((Below.refl _ _).alloc (Nat.le_refl _) _).trans hv.below
  refine ⟨rfl, (hb.trans (hb1.mono hbase)).setCell (p := ⟨b + 1, 0, none⟩) (by show base ≤ b + 1; omega) _, one_setCell HD1.out, by simpa [World.setCell] using hsz, fun k hk hkb => ?_⟩
  rw [Below.heap_setCell _ _ _ _ hkb]
  exact hb1.block k hk

set_option maxRecDepth 100000 in
/-- fine: it hands back true just where the check leaves no issue. -/
theorem fine_any (g : FuncId) (cap : Array Value) (bad : Bool) (w : World) (hent : ∀ (r : Addr) (W : World), (callFunc g (#[.pointer (some r)] ++ cap)).run Try.prog W = .ok (.enter g (#[.pointer (some r)] ++ cap)) W)
    (hg : Checks g cap w.heap.size w bad) :
    Calls Try.prog 21 #[.func (.func g) #[] cap] w fun e w' => e = .returned (.bool (!bad)) ∧ Below w.heap.size w w' := by
  have hmf : ∀ (fn : Fn) (first cap : Array Value) (w : World), (Instr.makeFunc fn first cap).run Try.prog w = .ok (.func fn first cap) w := fun _ _ _ _ => rfl
  obtain ⟨w2, hw2⟩ : ∃ w2 : World, w2 = (w.alloc (.cells #[.func (.func g) #[] cap] 53)).alloc (.cells #[.bool false] 4) := ⟨_, rfl⟩
  have hs2 : w2.heap.size = w.heap.size + 2 := by rw [hw2]; simp
  have hb2 : Below w.heap.size w w2 := by rw [hw2]; exact ((Below.refl _ _).alloc (Nat.le_refl _) _).alloc (by simp) _
  have hc2 : w2.heap[w.heap.size]? = some (.cells #[.func (.func g) #[] cap] 53 (0, 0)) := by
    rw [hw2]; exact (Below.heap_alloc _ _ _ (by simp)).trans (heap_alloc_new w _)
  have hd2 : w2.heap[w.heap.size + 1]? = some (.cells #[.bool false] 4 (0, 0)) := by
    rw [hw2]
    have := heap_alloc_new (w.alloc (.cells #[.func (.func g) #[] cap] 53)) (.cells #[.bool false] 4)
    simpa using this
  have hold : ∀ k, k < w2.heap.size → (w2.alloc (.cells #[.bool false] 4)).heap[k]? = w2.heap[k]? := fun k hk => Below.heap_alloc _ _ _ hk
  have h1 := fine1_any g cap bad w.heap.size w.heap.size w (w2.alloc (.cells #[.bool false] 4)) hent hg (hb2.alloc (by omega) _) (by simp; omega)
    ((hold _ (by omega)).trans hc2) ((hold _ (by omega)).trans hd2) (Nat.le_refl _)
  have hq := quiet_any 38 #[.pointer (some ⟨w.heap.size, 0, none⟩), .pointer (some ⟨w.heap.size + 1, 0, none⟩)] w2 (fun w' => Below w.heap.size w w' ∧ w'.heap[w.heap.size + 1]? = some (.cells #[.bool (!bad)] 4 (0, 0))) (fun W => by simp [go_sem])
    (h1.mono fun e w' ⟨he, g1, g2, g3, g4⟩ => ⟨he, (g4 _ (by simp) (by omega)).trans (heap_alloc_new _ _), g1, g2⟩)
  have HQ := Lib.hid hq
  clear hq h1 hold hd2 hc2 hb2 hg hent
  have HS := Lib.hid hs2
  clear hs2
  go_enter Try.func21, Try.ntmps21
  go_wp2_with fail
  rw [← hw2]
  refine HQ.out.mono ?_
  rintro e w3 ⟨rfl, w1, h1, ⟨h2, h3⟩, hw3⟩
  have hb3 : Below w.heap.size w w3 := by rw [hw3]; exact h2.setCell (p := ⟨w2.heap.size, 0, none⟩) (by show w.heap.size ≤ w2.heap.size; have := HS.out; omega) _
  have hd3 : w3.heap[w.heap.size + 1]? = some (.cells #[.bool (!bad)] 4 (0, 0)) := by
    rw [hw3, Below.heap_setCell _ _ _ _ (by show w.heap.size + 1 ≠ w2.heap.size; have := HS.out; omega)]; exact h3
  clear hw3 h1 h2 h3 HQ HS hw2
  have hc3 := cell_of_one hd3
  have hf3 := free_of_one hd3
  have HB3 := Lib.hid hb3
  have HD3 := Lib.hid hd3
  clear hb3 hd3
  go_wp2
  have hcs := cell_of_one (one_setCell (u := .bool (!bad)) HD3.out)
  refine bodyPost_ret (v := .bool (!bad)) ?_ rfl ⟨rfl, HB3.out.setCell (p := ⟨w.heap.size + 1, 0, none⟩) (Nat.le_succ _) _⟩
  simp [results, Try.results21, go_sem]
  rw [hcs]

/-- The check of Valid. -/
theorem valid1_any (p : Addr) (s : ByteArray) (B N : Nat) (bad : Bool) (w0 w : World) (h : VS B N bad w0 w) (hN : N ≤ 900000) (hs : s.size ≤ 4294967296) (hc : w.cell? p = some (.string s)) :
    Calls Try.prog 22 #[.pointer (some ⟨B, 0, none⟩), .pointer (some p)] w fun e w' => e = .returned (.tuple #[]) ∧ VS B (N + 4) (bad || !valid s.data.toList) w0 w' := by
  go_enter Try.func22, Try.ntmps22
  go_wp2_with (go_at_call 23; refine (validate_any B N bad s w0 w h hN hs).mono ?_; rintro e w1 ⟨rfl, hv⟩)
  go_end0
  exact ⟨rfl, hv⟩

set_option maxRecDepth 100000 in
/-- Valid: a subject is valid just as 'Pl.valid' says. -/
theorem valid_any (s : ByteArray) (hs : s.size ≤ 4294967296) (w : World) :
    Calls Try.prog 9 #[.string s] w fun e w' => e = .returned (.bool (valid s.data.toList)) ∧ Below w.heap.size w w' := by
  have hmf : ∀ (fn : Fn) (first cap : Array Value) (w : World), (Instr.makeFunc fn first cap).run Try.prog w = .ok (.func fn first cap) w := fun _ _ _ _ => rfl
  have hch : Checks 22 #[.pointer (some ⟨w.heap.size, 0, none⟩)] (w.alloc (.cells #[.string s] 9)).heap.size (w.alloc (.cells #[.string s] 9)) (!valid s.data.toList) := by
    intro W hb hbase
    have hlt : w.heap.size < (w.alloc (.cells #[.string s] 9)).heap.size := by simp
    have hcell : (W.alloc (.cells #[.slice none 0 0] 93)).heap[w.heap.size]? = some (.cells #[.string s] 9 (0, 0)) :=
      (Below.heap_alloc _ _ _ (Nat.lt_of_lt_of_le hlt hbase)).trans ((hb.block _ hlt).trans (heap_alloc_new w _))
    refine (valid1_any ⟨w.heap.size, 0, none⟩ s W.heap.size 0 false _ _ (VS.start (VR.fresh W)) (by omega) hs (cell_of_one hcell)).mono fun e w' ⟨he, hv⟩ => ⟨he, 4, ?_⟩
    simpa using hv
  have HF := Lib.hid (fine_any _ _ _ (w.alloc (.cells #[.string s] 9)) (fun r W => by simp [go_sem]) hch)
  clear hch
  go_enter Try.func9, Try.ntmps9
  go_wp2_with fail
  refine HF.out.mono ?_
  rintro e w1 ⟨rfl, hb⟩
  go_wp2
  go_ret
  refine ⟨by simp, (Below.alloc (Below.refl _ _) (Nat.le_refl _) (.cells #[.string s] 9)).trans (hb.mono (by simp))⟩

theorem works_any (w : World) :
    Calls Try.prog 8 #[] w fun e w' => e = .returned (.bool true) ∧ Below w.heap.size w w' := by
  have h := valid_any ⟨#[97, 46, 98]⟩ (by decide) w
  have hv : valid (ByteArray.mk #[97, 46, 98]).data.toList = true := Pl.valid_ab
  rw [hv] at h
  have HF := Lib.hid h
  clear h hv
  go_enter Try.func8, Try.ntmps8
  go_wp2_with fail
  refine HF.out.mono ?_
  rintro e w1 ⟨rfl, hb⟩
  go_wp2
  go_ret
  exact ⟨rfl, hb⟩
end Go.Proofs.Ytnbihmagbedfmaa
