/- laws.FnRenaming hands back true. -/
import Derived.Test.YtnbihmagbedfmaaDoorRRename
import Derived.Laws.IdiomStrings
namespace Go.Proofs.YtnbihmagbedfmaaDoorR
open Go.RowKit Go.Proofs.YtnbihmagbedfmaaDoorRW.PrintWords
open Pl (hasSub toks toksA join plain plainT okt okc)

theorem plain_parts {l : List UInt8} (h : plain l = true) : l.length ≤ 60 ∧ ∀ t ∈ toks 46 l, t ≠ [] := by
  simp only [plain, Bool.and_eq_true, decide_eq_true_eq] at h
  exact ⟨h.2, fun t ht => by obtain ⟨b, hb⟩ := Pl.plainT_mem h.1 t ht; exact Pl.okt_ne hb⟩

set_option maxRecDepth 100000 in
set_option maxHeartbeats 2000000 in
theorem renaming_at (s : ByteArray) (n : Int) (w : World) (hs : s.size ≤ 60) (hp : plain s.data.toList = true) (h1 : 1 ≤ n) (h9 : n ≤ 9) :
    Calls Tryd.prog 4 #[.string s, .int .i64 n] w fun e w' => e = .returned (.bool true) ∧ Below w.heap.size w w' := by
  have H0 := Acc.refl w
  obtain ⟨r, hr, hl⟩ := tokens_f s (by unfold big; omega)
  have hpl := plain_any s (by omega) w
  rw [hp] at hpl
  have HP := Lib.hid hpl
  have HT := fun w' => Lib.hid (PPlain.spec_Tokens.calls (s.size + 2) s r w' hr)
  have hlen : r.length = (toks 46 s.data.toList).length := by rw [← hl]; simp [lists]
  have hle := Pl.toksA_length 46 [] s.data.toList
  rw [data_length] at hle
  have hrl : r.length ≤ 61 := by rw [hlen]; unfold toks; omega
  have hne : ∀ t ∈ r, t.data.toList ∈ toks 46 s.data.toList ∧ 0 < t.size := fun t ht => by
    have h := lists_mem ht
    rw [hl] at h
    refine ⟨h, ?_⟩
    have := (plain_parts hp).2 _ h
    rw [← data_length]
    exact List.length_pos_iff.2 this
  have HN := Lib.hid hne
  have HL := Lib.hid hl
  have HLe := Lib.hid hlen
  clear hpl hr hl hlen hle hne hp
  go_enter Tryd.func4, Tryd.ntmps4
  go_wp2_with fail
  refine HP.out.mono ?_
  rintro e w1 ⟨rfl, hb1⟩
  have H1 := Acc.step H0 hb1
  clear hb1 H0 HP
  obtain ⟨d, hd⟩ : ∃ d : UInt8, (d.toNat : Int) = 48 + n := ⟨UInt8.ofNat (48 + n).toNat, by simp; omega⟩
  have hback : (convert 28 9 (.slice (some ⟨w1.heap.size, 0, none⟩) 1 1)).run Tryd.prog (w1.alloc (.cells #[.int .u8 (48 + n)] 5)) = .ok (.string ⟨#[d]⟩) (w1.alloc (.cells #[.int .u8 (48 + n)] 5)) :=
    run_convert_bytes_back (P := Tryd.prog) _ 28 9 5 ⟨w1.heap.size, 0, none⟩ 1 [d] Tryd.underlying28 Tryd.underlying5 Tryd.underlying9 (fun j hj => by
      obtain rfl : j = 0 := by simp at hj; omega
      show (w1.alloc (.cells #[.int .u8 (48 + n)] 5)).cell? ⟨w1.heap.size, 0, none⟩ = some (.int .u8 (d.toNat : Int))
      rw [hd]
      exact World.cell?_alloc_new _ _ _ _)
  have HD := Lib.hid hd
  clear hd
  go_wp2_with fail
  have H2 := Acc.alloc H1 (.cells #[.int .u8 (48 + n)] 5)
  refine (HT _).out.mono ?_
  rintro e w2 ⟨v, rfl, hR, hb2⟩
  have H3 := Acc.step H2 hb2
  have hown := Kd.own_of_R hR
  obtain ⟨A, cap, rfl⟩ : ∃ A cap, v = .slice A r.length cap := by
    obtain ⟨g, cap, hv, _, _⟩ := hown.form (by rw [HLe.out]; exact List.length_pos_iff.2 (Pl.toksA_ne _ _ _))
    exact ⟨_, cap, hv⟩
  have HO := Lib.hid hown
  clear hback H1 H2 hb2 hR HT hown HLe
  go_wp2
  go_loopw [32, 7] (fun i _ wr => wr = w2 ∧ ∃ k : Nat, k ≤ r.length ∧ i = .int .i64 k ∧ Hid (∀ t ∈ r.take k, t.data.toList.head? ≠ some 36)) (fun i _ _ => r.length - (intOf i).toNat)
  case atStart => exact ⟨rfl, 0, Nat.zero_le _, rfl, fun t ht => by simp at ht⟩
  case round =>
    obtain ⟨rfl, k, hk, rfl, hv⟩ := hrel
    by_cases hlt : k < r.length
    · obtain ⟨ad, hA, hcell⟩ := row_at_string HO.out k hlt
      cases hA
      have h0 := (HN.out r[k] (List.getElem_mem hlt)).2
      have hnx : ∀ h : 0 < r[k].size, r[k][0] ≠ 36 → Hid (∀ t ∈ r.take (k + 1), t.data.toList.head? ≠ some 36) := by
        intro h hne t ht
        rw [List.take_succ_eq_append_getElem hlt] at ht
        rcases List.mem_append.1 ht with ht | ht
        · exact hv t ht
        · obtain rfl := List.mem_singleton.1 ht
          have h5 : r[k].data.toList = r[k][0] :: r[k].data.toList.drop 1 := by
            have := drop_cons r[k] 0 h
            simpa using this
          rw [h5]
          simpa using hne
      have HX := Lib.hid hnx
      clear hnx hv
      generalize r[k] = t at *
      by_cases hc : t[0] = 36
      · have hm : ((t[0].toNat : Int) == 36) = true := by rw [hc]; rfl
        clear hc
        go_wp2_with (go_at_call 9; refine (works_any _).mono ?_; rintro e w1 ⟨rfl, hb⟩; have H4 := Acc.step H3 hb)
        go_ret
        exact ⟨rfl, H4.out⟩
      · have hn : ((t[0].toNat : Int) == 36) = false := by
          rw [beq_eq_false_iff_ne]
          exact fun e => hc (UInt8.toNat_inj.1 (by have : (36 : UInt8).toNat = 36 := rfl; omega))
        have HX := Lib.hid (HX.out h0 hc)
        clear hc
        go_wp2_with fail
        go_roundw
        case rel => exact ⟨trivial, k + 1, by omega, by go_num, HX.out⟩
        case measure => simp [intOf]; omega
    · obtain rfl : k = r.length := by omega
      have hh : ∀ t ∈ toks 46 s.data.toList, t.head? ≠ some 36 := by
        intro t ht
        rw [← HL.out] at ht
        obtain ⟨u, hu, rfl⟩ := List.mem_map.1 ht
        rw [List.take_length] at hv
        exact hv u hu
      have HS := fun w' => Lib.hid (tosub_any s s (subject_same s hs hh) w')
      clear hv hh hlt hk
      go_wp2_with fail
      refine (HS _).out.mono ?_
      rintro e w3 ⟨rfl, hb3⟩
      have H4 := Acc.step H3 hb3
      have HR := fun w' => Lib.hid (tosub_any ((⟨#[120, 46]⟩ : ByteArray) ++ (⟨#[36]⟩ ++ ⟨#[d]⟩) ++ ⟨#[46, 121]⟩) ⟨#[120, 46, 42, 46, 121]⟩ (subject_ref _ d (by have := HD.out; omega) (by have := HD.out; omega) (by simp [ByteArray.data_append])) w')
      go_wp2_with fail
      refine (HR _).out.mono ?_
      rintro e w4 ⟨rfl, hb4⟩
      have H5 := Acc.step H4 hb4
      clear hb3 hb4 H3 H4
      go_wp2_with (go_at_call 9; refine (works_any _).mono ?_; rintro e w1 ⟨rfl, hb⟩; have H6 := Acc.step H5 hb)
      go_ret
      exact ⟨rfl, H6.out⟩

set_option maxRecDepth 100000 in
theorem fnrenaming_walk (s : ByteArray) (n : Int) (w : World) :
    Calls Tryd.prog 4 #[.string s, .int .i64 n] w fun e w' => e = .returned (.bool true) ∧ Below w.heap.size w w' := by
  by_cases hs : s.size ≤ 2147483647
  · cases hp : plain s.data.toList with
    | true =>
      have hs60 := (plain_parts hp).1
      rw [data_length] at hs60
      by_cases hn : 1 ≤ n ∧ n ≤ 9
      · exact renaming_at s n w hs60 hp hn.1 hn.2
      · have H0 := Acc.refl w
        have hpl := plain_any s (by omega) w
        rw [hp] at hpl
        have HP := Lib.hid hpl
        clear hpl hp
        go_enter Tryd.func4, Tryd.ntmps4
        by_cases h1 : n < 1
        · clear hn
          go_wp2_with (first | (go_at_call 11; with_reducible refine HP.out.mono ?_; rintro e w1 ⟨rfl, hb⟩; have H1 := Acc.step (by assumption) hb) | (go_at_call 9; refine (works_any _).mono ?_; rintro e w1 ⟨rfl, hb⟩; have H1 := Acc.step (by assumption) hb))
          go_ret
          exact ⟨rfl, H1.out⟩
        · have h9 : 9 < n := by omega
          clear hn
          go_wp2_with (first | (go_at_call 11; with_reducible refine HP.out.mono ?_; rintro e w1 ⟨rfl, hb⟩; have H1 := Acc.step (by assumption) hb) | (go_at_call 9; refine (works_any _).mono ?_; rintro e w1 ⟨rfl, hb⟩; have H1 := Acc.step (by assumption) hb))
          go_ret
          exact ⟨rfl, H1.out⟩
    | false =>
      have H0 := Acc.refl w
      have hpl := plain_any s (by omega) w
      rw [hp] at hpl
      have HP := Lib.hid hpl
      clear hpl hp
      go_enter Tryd.func4, Tryd.ntmps4
      go_wp2_with (first | (go_at_call 11; with_reducible refine HP.out.mono ?_; rintro e w1 ⟨rfl, hb⟩; have H1 := Acc.step (by assumption) hb) | (go_at_call 9; refine (works_any _).mono ?_; rintro e w1 ⟨rfl, hb⟩; have H1 := Acc.step (by assumption) hb))
      go_ret
      exact ⟨rfl, H1.out⟩
  · have H0 := Acc.refl w
    have hC : 2147483647 < s.size := by omega
    clear hs
    go_enter Tryd.func4, Tryd.ntmps4
    go_wp2
    go_ret
    exact ⟨rfl, H0.out⟩
end Go.Proofs.YtnbihmagbedfmaaDoorR
