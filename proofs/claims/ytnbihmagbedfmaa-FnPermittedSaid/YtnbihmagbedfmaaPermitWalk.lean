/- laws.FnPermitted hands back true, whatever the two lists. -/
import Derived.Test.YtnbihmagbedfmaaPermitted
import Derived.Test.YtnbihmagbedfmaaFits
namespace Go.Proofs.Ytnbihmagbedfmaa
open Go.RowKit Go.Proofs.YtnbihmagbedfmaaW.PrintWords
open Pl (hasSub toks toksA valid plain plainT okt okc)

set_option maxRecDepth 100000 in
theorem permit_large (A1 A2 : Option Addr) (c1 c2 : Nat) (xs ys : List ByteArray) (q : Bool) (w : World) (hc1 : xs.length ≤ c1) (hc2 : ys.length ≤ c2)
    (hr1 : ReadsOf Value.string ByteArray.empty w A1 xs.length xs) (hr2 : ReadsOf Value.string ByteArray.empty w A2 ys.length ys) (h : fits xs = false ∨ fits ys = false) :
    Calls Try.prog 5 #[.slice A1 xs.length c1, .slice A2 ys.length c2, .bool q] w fun e w' => e = .returned (.bool true) ∧ Below w.heap.size w w' := by
  have H1 := Lib.hid (fits_any A1 c1 xs w hr1 hc1)
  have hr2' : ∀ w1, Drawn0 w w1 → ReadsOf Value.string ByteArray.empty w1 A2 ys.length ys := fun w1 hd => reads_below hr2 hd.below
  have HR2 := Lib.hid hr2'
  have HC2 := Lib.hid hc2
  have H0 := Acc.refl w
  clear hr1 hr2 hr2' hc1 hc2
  cases hf : fits xs
  · go_enter Try.func5, Try.ntmps5
    go_wp2_with fail
    refine H1.out.mono ?_
    rintro e w1 ⟨rfl, hd⟩
    go_wp2
    go_ret
    exact ⟨rfl, hd.below⟩
  · have hg : fits ys = false := by
      rcases h with h | h
      · rw [hf] at h; cases h
      · exact h
    clear h
    go_enter Try.func5, Try.ntmps5
    go_wp2_with fail
    refine H1.out.mono ?_
    rintro e w1 ⟨rfl, hd⟩
    go_wp2_with fail
    refine (fits_any A2 c2 ys w1 (HR2.out w1 hd) HC2.out).mono ?_
    rintro e w2 ⟨rfl, hd2⟩
    go_wp2
    go_ret
    exact ⟨rfl, ((H0.step hd.below).step hd2.below).out⟩

/-- The texts are plain subjects. -/
def allPlain (l : List ByteArray) : Bool := l.all fun s => plain s.data.toList
theorem allPlain_snoc (l : List ByteArray) (k : Nat) (h : k < l.length) : allPlain (l.take (k + 1)) = (allPlain (l.take k) && plain l[k].data.toList) := by
  unfold allPlain
  rw [List.take_succ_eq_append_getElem h, List.all_append, List.all_cons, List.all_nil, Bool.and_true]

/-- A list of at most ten plain subjects. -/
structure Good (l : List ByteArray) : Prop where
  texts : allPlain l = true
  short : l.length ≤ 10

theorem fits_size {l : List ByteArray} (h : fits l = true) : ∀ s ∈ l, s.size ≤ 2147483647 := by
  intro s hs
  simp only [fits, Bool.and_eq_true, List.all_eq_true] at h
  have := h.2 s hs
  simpa [fitsOne] using this

theorem Good.each {l : List ByteArray} (h : Good l) (hf : fits l = true) : ∀ s ∈ l, s.size ≤ 4294967296 ∧ (32 : UInt8) ∉ s.data.toList := by
  intro s hs
  have hp : plain s.data.toList = true := by have := h.texts; simp only [allPlain, List.all_eq_true] at this; exact this s hs
  exact ⟨by have := fits_size hf s hs; omega, Pl.plain_no_blank hp⟩

theorem Good.valid {l : List ByteArray} (h : Good l) : allValid l = true := by
  have := h.texts
  simp only [allPlain, allValid, List.all_eq_true] at this ⊢
  exact fun s hs => Pl.plain_valid (this s hs)

theorem kept_block {w w1 : World} {k : Nat} {o : Obj} (h : Aside0 (w.heap[k]? = some o)) (hb : Below w.heap.size w w1) : Aside0 (w1.heap[k]? = some o) := ⟨(hb.block k (lt_of_block h.out)).trans h.out⟩

theorem reads_at_string {w : World} {A : Option Addr} {xs : List ByteArray} (h : ReadsOf Value.string ByteArray.empty w A xs.length xs) (k : Nat) (hk : k < xs.length) : ∃ ad, A = some ad ∧ w.cell? (ad.add k) = some (.string xs[k]) := by
  obtain ⟨ad, hA, hc⟩ := h.2.2 (by omega)
  refine ⟨ad, hA, ?_⟩
  rw [hc k hk, List.getD_eq_getElem?_getD, List.getElem?_eq_getElem hk]
  rfl

theorem olds_reads {α : Type} {enc : α → Value} {d : α} {w : World} {A : Option Addr} {n : Nat} {xs : List α} (h : ReadsOf enc d w A n xs) : ∀ b, A = some b → ∀ (j : Nat) (u : Value), (encs enc xs)[j]? = some u → w.cell? (b.add j) = some u := by
  intro b hb j u hu
  have hj : j < xs.length := by
    rcases Nat.lt_or_ge j xs.length with h | h
    · exact h
    · simp [encs, List.getElem?_eq_none h] at hu
  obtain ⟨ad, hA, hc⟩ := h.2.2 (by have := h.1; omega)
  rw [hb] at hA
  injection hA with hA
  subst hA
  rw [hc j (by have := h.1; omega)]
  simp [encs, List.getElem?_eq_getElem hj] at hu
  subst hu
  simp [List.getD_eq_getElem?_getD, List.getElem?_eq_getElem hj]
theorem nil_reads {α : Type} {enc : α → Value} {d : α} {w : World} {A : Option Addr} {n : Nat} {xs : List α} (h : ReadsOf enc d w A n xs) : A = none → n = 0 ∧ n = 0 := by
  intro hA
  rcases Nat.eq_zero_or_pos n with h0 | h0
  · exact ⟨h0, h0⟩
  · obtain ⟨ad, h1, _⟩ := h.2.2 h0
    rw [hA] at h1
    cases h1

set_option maxRecDepth 100000 in
set_option maxHeartbeats 1600000 in
theorem permit_small (A1 A2 : Option Addr) (c1 c2 : Nat) (xs ys : List ByteArray) (q : Bool) (w : World) (hc1 : xs.length ≤ c1) (hc2 : ys.length ≤ c2)
    (hr1 : ReadsOf Value.string ByteArray.empty w A1 xs.length xs) (hr2 : ReadsOf Value.string ByteArray.empty w A2 ys.length ys) (hf1 : fits xs = true) (hf2 : fits ys = true) :
    Calls Try.prog 5 #[.slice A1 xs.length c1, .slice A2 ys.length c2, .bool q] w fun e w' => e = .returned (.bool true) ∧ Below w.heap.size w w' := by
  have H1 := Lib.hid (fits_any A1 c1 xs w hr1 hc1)
  have hr1' : ∀ w1, Acc w w1 → ReadsOf Value.string ByteArray.empty w1 A1 xs.length xs := fun w1 hd => reads_below hr1 hd.out
  have hr2' : ∀ w1, Acc w w1 → ReadsOf Value.string ByteArray.empty w1 A2 ys.length ys := fun w1 hd => reads_below hr2 hd.out
  have HR1 := Lib.hid hr1'
  have HR2 := Lib.hid hr2'
  have HC2 := Lib.hid hc2
  have H0 := Acc.refl w
  have HF : Hid (fits xs = true ∧ fits ys = true) := ⟨hf1, hf2⟩
  have hl1 : xs.length ≤ 2147483647 := by simp only [fits, Bool.and_eq_true, decide_eq_true_eq] at hf1; exact hf1.1
  have hl2 : ys.length ≤ 2147483647 := by simp only [fits, Bool.and_eq_true, decide_eq_true_eq] at hf2; exact hf2.1
  clear hr1 hr2 hr1' hr2' hc1 hc2
  go_enter Try.func5, Try.ntmps5
  go_wp2_with fail
  refine H1.out.mono ?_
  rintro e w1 ⟨rfl, hd⟩
  have HA1 := H0.step hd.below
  go_wp2_with fail
  refine (fits_any A2 c2 ys w1 (HR2.out w1 HA1) HC2.out).mono ?_
  rintro e w2 ⟨rfl, hd2⟩
  have HA2 := HA1.step hd2.below
  clear hd hd2 HA1 H1
  go_wp2
  go_loopw [23] (fun i wr => Acc w wr ∧ Aside0 (wr.heap[w2.heap.size]? = some (.cells #[.slice A1 xs.length c1, .slice A2 ys.length c2] 26 (0, 0))) ∧ (i = .int .i64 0 ∨ (i = .int .i64 1 ∧ Good xs) ∨ (i = .int .i64 2 ∧ Good xs ∧ Good ys))) (fun i _ => 2 - (intOf i).toNat)
  case atStart => exact ⟨HA2.alloc _, ⟨heap_alloc_new _ _⟩, .inl rfl⟩
  case round =>
    clear HA2
    obtain ⟨hA, hN, rfl | ⟨rfl, hg1⟩ | ⟨rfl, G1, G2⟩⟩ := hrel
    · have hcl : wr.cell? ⟨w2.heap.size, 0, none⟩ = some (.slice A1 xs.length c1) := by simp [World.cell?, hN.out]
      go_wp2
      go_loopw [29] (fun i wq => ∃ k : Nat, k ≤ xs.length ∧ i = .int .i64 k ∧ Acc w wq ∧ Aside0 (wq.heap[w2.heap.size]? = some (.cells #[.slice A1 xs.length c1, .slice A2 ys.length c2] 26 (0, 0))) ∧ Aside0 (allPlain (xs.take k) = true)) (fun i _ => xs.length - (intOf i).toNat)
      case atStart => exact ⟨0, Nat.zero_le _, rfl, hA, hN, ⟨rfl⟩⟩
      case round =>
        clear hcl hA hN
        obtain ⟨k, hk, rfl, hA, hN, hpl⟩ := hrel
        by_cases hlt : k < xs.length
        · obtain ⟨ad, hAd, hcell⟩ := reads_at_string (HR1.out _ hA) k hlt
          cases hAd
          have hsz := fits_size HF.out.1 xs[k] (List.getElem_mem hlt)
          have hsn := Lib.hid (allPlain_snoc xs k hlt)
          generalize xs[k] = s at *
          cases hps : plain s.data.toList
          · go_wp2_with (first | (go_at_call 7; refine (plain_any _ (by omega) _).mono ?_; rintro e w3 ⟨rfl, hb⟩; have H3 := Acc.step (by assumption) hb) | (go_at_call 8; refine (works_any _).mono ?_; rintro e w3 ⟨rfl, hb⟩; have H3 := Acc.step (by assumption) hb))
            go_ret
            exact ⟨rfl, H3.out⟩
          · go_wp2_with (go_at_call 7; refine (plain_any _ (by omega) _).mono ?_; rintro e w3 ⟨rfl, hb⟩; have H3 := Acc.step (by assumption) hb; have hN3 := kept_block hN hb)
            go_roundw
            case rel => exact ⟨k + 1, by omega, by go_num, H3, hN3, ⟨by rw [hsn.out, hpl.out, hps]; rfl⟩⟩
            case measure => simp [intOf]; omega
        · obtain rfl : k = xs.length := by omega
          by_cases h10 : 10 < xs.length
          · go_wp2_with (go_at_call 8; refine (works_any _).mono ?_; rintro e w3 ⟨rfl, hb⟩; have H3 := Acc.step (by assumption) hb)
            go_ret
            exact ⟨rfl, H3.out⟩
          · have hgood : Good xs := ⟨by have := hpl.out; rwa [List.take_length] at this, by omega⟩
            go_wp2
            go_roundw
            case rel => exact ⟨hA, hN, .inr (.inl ⟨rfl, hgood⟩)⟩
            case measure => simp [intOf]
    · have HG1 := Lib.hid hg1
      clear hg1
      have hcl : wr.cell? ⟨w2.heap.size, 1, none⟩ = some (.slice A2 ys.length c2) := by simp [World.cell?, hN.out]
      go_wp2
      go_loopw [29] (fun i wq => ∃ k : Nat, k ≤ ys.length ∧ i = .int .i64 k ∧ Acc w wq ∧ Aside0 (wq.heap[w2.heap.size]? = some (.cells #[.slice A1 xs.length c1, .slice A2 ys.length c2] 26 (0, 0))) ∧ Aside0 (allPlain (ys.take k) = true)) (fun i _ => ys.length - (intOf i).toNat)
      case atStart => exact ⟨0, Nat.zero_le _, rfl, hA, hN, ⟨rfl⟩⟩
      case round =>
        clear hcl hA hN
        obtain ⟨k, hk, rfl, hA, hN, hpl⟩ := hrel
        by_cases hlt : k < ys.length
        · obtain ⟨ad, hAd, hcell⟩ := reads_at_string (HR2.out _ hA) k hlt
          cases hAd
          have hsz := fits_size HF.out.2 ys[k] (List.getElem_mem hlt)
          have hsn := Lib.hid (allPlain_snoc ys k hlt)
          generalize ys[k] = s at *
          cases hps : plain s.data.toList
          · go_wp2_with (first | (go_at_call 7; refine (plain_any _ (by omega) _).mono ?_; rintro e w3 ⟨rfl, hb⟩; have H3 := Acc.step (by assumption) hb) | (go_at_call 8; refine (works_any _).mono ?_; rintro e w3 ⟨rfl, hb⟩; have H3 := Acc.step (by assumption) hb))
            go_ret
            exact ⟨rfl, H3.out⟩
          · go_wp2_with (go_at_call 7; refine (plain_any _ (by omega) _).mono ?_; rintro e w3 ⟨rfl, hb⟩; have H3 := Acc.step (by assumption) hb; have hN3 := kept_block hN hb)
            go_roundw
            case rel => exact ⟨k + 1, by omega, by go_num, H3, hN3, ⟨by rw [hsn.out, hpl.out, hps]; rfl⟩⟩
            case measure => simp [intOf]; omega
        · obtain rfl : k = ys.length := by omega
          by_cases h10 : 10 < ys.length
          · go_wp2_with (go_at_call 8; refine (works_any _).mono ?_; rintro e w3 ⟨rfl, hb⟩; have H3 := Acc.step (by assumption) hb)
            go_ret
            exact ⟨rfl, H3.out⟩
          · have hgood : Good ys := ⟨by have := hpl.out; rwa [List.take_length] at this, by omega⟩
            go_wp2
            go_roundw
            case rel => exact ⟨hA, hN, .inr (.inr ⟨rfl, HG1.out, hgood⟩)⟩
            case measure => simp [intOf]
    · clear hN
      have hp1 := Lib.hid (permitted_any q A1 A2 c1 c2 xs ys wr (by have := G1.short; omega) (by have := G2.short; omega) (HR1.out _ hA) (HR2.out _ hA) (G1.each HF.out.1) (G2.each HF.out.2))
      have hv1 := G1.valid
      have hv2 := G2.valid
      go_wp2_with fail
      refine hp1.out.mono ?_
      rintro e w4 ⟨rfl, hb⟩
      have hA4 := hA.step hb
      clear hb hp1 hA
      obtain ⟨i0, hi, hz0, hz1, hz2⟩ := info_parts Try.infoString
      have hc2 := HC2.out
      have hl10 := G2.short
      have hr2 := HR2.out _ (hA4.alloc (.cells #[.string ⟨#[]⟩] 9))
      have HN := Lib.hid (nil_reads hr2)
      have HO := Lib.hid (olds_reads hr2)
      clear hr2 HR2
      go_wp2_with (at_builtin; refine wpList_append_grows _ rfl _ _ 26 rfl 9 i0 (.string ⟨#[]⟩) 1 16 Try.underlying26 hi hz0 hz1 hz2 rfl (by decide) A2 ys.length ys.length (encs Value.string ys) ?e0 ?e1 ?e2 ?e3 ⟨w4.heap.size, 0, none⟩ 1 1 [.string ⟨#[]⟩] rfl rfl ?c1 ?c2 ?c3 ?c4 ?c5 ?_)
      case e0 => simp [Act.eval]
      case e1 => exact HN.out
      case e2 => simp [encs]
      case e3 => exact HO.out
      case c1 => exact cell_one_new _ _ _
      case c2 => intro u hu; simp at hu; subst hu; rfl
      case c3 => omega
      case c4 => unfold maxLen; omega
      case c5 => omega
      intro v' w5 hown hgr
      have hfin : ∃ A' c', v' = .slice A' (ys ++ [ByteArray.mk #[]]).length c' ∧ ReadsOf Value.string ByteArray.empty w5 A' (ys ++ [ByteArray.mk #[]]).length (ys ++ [ByteArray.mk #[]]) := by
        obtain ⟨A', c', rfl⟩ := own_slice hown
        have hown' : w5.ownsRow (w4.heap.size + 1) 9 1 (.slice A' (ys.length + 1) c') (ys.length + 1) (encs Value.string (ys ++ [ByteArray.mk #[]])) := by simpa [encs] using hown
        have := (reads_own Value.string ByteArray.empty hown').2.2
        exact ⟨A', c', by simp, by simpa using this⟩
      obtain ⟨A', c', hv', hrd⟩ := hfin
      have hA5 : Acc w w5 := (hA4.alloc (.cells #[.string ⟨#[]⟩] 9)).step (below_of_grown hgr)
      have hp2 := permitted_any q A1 A' c1 c' xs (ys ++ [ByteArray.mk #[]]) w5 (by have := G1.short; omega) (by simp; omega) (HR1.out _ hA5) hrd (G1.each HF.out.1)
        (fun s hs => by
          rcases List.mem_append.1 hs with hs | hs
          · exact G2.each HF.out.2 s hs
          · rw [List.mem_singleton.1 hs]; exact ⟨by decide, by decide⟩)
      have hav : allValid (ys ++ [ByteArray.mk #[]]) = false := by
        simp only [allValid, List.all_append, List.all_cons, List.all_nil]
        have : valid (ByteArray.mk #[]).data.toList = false := Pl.valid_nil
        rw [this]
        simp
      rw [hav, Bool.and_false, show (ys ++ [ByteArray.mk #[]]).length = ys.length + 1 from by simp] at hp2
      have HP2 := Lib.hid hp2
      rw [show (ys ++ [ByteArray.mk #[]]).length = ys.length + 1 from by simp] at hv'
      rw [hv']
      clear hp2 hav hrd hown hgr hv' hi hz0 hz1 hz2 HO HN
      go_wp2_with fail
      refine HP2.out.mono ?_
      rintro e w6 ⟨rfl, hb⟩
      have hA6 := hA5.step hb
      go_wp2_with (go_at_call 8; refine (works_any _).mono ?_; rintro e w7 ⟨rfl, hb⟩; have H7 := Acc.step (by assumption) hb)
      go_ret
      exact ⟨rfl, H7.out⟩

theorem permit_walk (A1 A2 : Option Addr) (c1 c2 : Nat) (xs ys : List ByteArray) (q : Bool) (w : World) (hc1 : xs.length ≤ c1) (hc2 : ys.length ≤ c2)
    (hr1 : ReadsOf Value.string ByteArray.empty w A1 xs.length xs) (hr2 : ReadsOf Value.string ByteArray.empty w A2 ys.length ys) :
    Calls Try.prog 5 #[.slice A1 xs.length c1, .slice A2 ys.length c2, .bool q] w fun e w' => e = .returned (.bool true) ∧ Below w.heap.size w w' := by
  cases h1 : fits xs
  · exact permit_large A1 A2 c1 c2 xs ys q w hc1 hc2 hr1 hr2 (.inl h1)
  · cases h2 : fits ys
    · exact permit_large A1 A2 c1 c2 xs ys q w hc1 hc2 hr1 hr2 (.inr h2)
    · exact permit_small A1 A2 c1 c2 xs ys q w hc1 hc2 hr1 hr2 h1 h2
end Go.Proofs.Ytnbihmagbedfmaa
