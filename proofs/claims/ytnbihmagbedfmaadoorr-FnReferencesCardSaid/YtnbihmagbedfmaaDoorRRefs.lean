/- The contract of RenamingSubject.Validate, where each part of the renaming subject is a reference of one digit, or short and no star. -/
import Derived.Test.YtnbihmagbedfmaaDoorRStars
import Derived.Test.YtnbihmagbedfmaaDoorRValid
import Derived.Test.YtnbihmagbedfmaaDoorRSubject
namespace Go.Proofs.YtnbihmagbedfmaaDoorR
open Go.RowKit Go.Proofs.YtnbihmagbedfmaaDoorRW.PrintWords
open Pl (hasSub toks toksA valid plain plainT okt okc)

def rfL : List UInt8 → Option Int
  | [36, d] => Lib.atoi [d]
  | _ => none
def okTok (t : List UInt8) : Bool := (rfL t).isSome || (decide (t.length < 2) && t != [42])
def good (fc : Nat) (t : List UInt8) : Bool := match rfL t with | some n => decide (n ≤ fc) | none => false
def wrong (fc : Nat) (t : List UInt8) : Bool := match rfL t with | some n => decide ((fc : Int) < n) | none => false
def cnt (fc : Nat) (T : List (List UInt8)) : Nat := T.countP (good fc)
def err (fc : Nat) (T : List (List UInt8)) : Bool := T.any (wrong fc)

theorem rfL_some {t : List UInt8} {n : Int} (h : rfL t = some n) : ∃ d, t = [36, d] ∧ Lib.atoi [d] = some n := by
  unfold rfL at h
  split at h
  · exact ⟨_, rfl, h⟩
  · cases h

theorem vs_below0 {B N : Nat} {bad : Bool} {w0 w w1 : World} (h : VS B N bad w0 w) (hb : Below w.heap.size w w1) : VS B N bad w0 w1 :=
  ⟨h.vr.below hb, h.below.trans (hb.mono (Nat.le_of_lt h.vr.lt)), h.others.trans (fun k _ hk _ _ => (hb.block k (lt_of_block hk)).trans hk)⟩

theorem own_issue {B base n : Nat} {v : Value} {xs : List Value} {w w1 : World} (h : w.ownsRow base 9 1 v n xs) (ho : Lib.OthersKept 90 (some B) w w1) (hB : B < base) : w1.ownsRow base 9 1 v n xs := by
  refine own_move h fun k hk => ?_
  obtain ⟨cells, hc⟩ := own_typed h k hk
  have hb := own_base h k hk
  rw [hc]
  refine ho k _ hc (fun e => by injection e with e; omega) (fun c fz e1 => ?_)
  injection e1 with _ e1 _
  exact absurd e1 (by decide)

theorem lists_take (r : List ByteArray) (k : Nat) (h : k < r.length) : lists (r.take (k + 1)) = lists (r.take k) ++ [r[k].data.toList] := by
  rw [List.take_succ_eq_append_getElem h, lists_append, lists_one]
theorem cnt_take (fc : Nat) (r : List ByteArray) (k : Nat) (h : k < r.length) : cnt fc (lists (r.take (k + 1))) = cnt fc (lists (r.take k)) + if good fc r[k].data.toList then 1 else 0 := by
  unfold cnt
  rw [lists_take r k h, List.countP_append, List.countP_singleton]
theorem err_take (fc : Nat) (r : List ByteArray) (k : Nat) (h : k < r.length) : err fc (lists (r.take (k + 1))) = (err fc (lists (r.take k)) || wrong fc r[k].data.toList) := by
  unfold err
  rw [lists_take r k h, List.any_append, List.any_cons, List.any_nil, Bool.or_false]
theorem cnt_le (fc : Nat) (r : List ByteArray) (k : Nat) : cnt fc (lists (r.take k)) ≤ k := by
  unfold cnt
  refine Nat.le_trans List.countP_le_length ?_
  unfold lists
  rw [List.length_map, List.length_take]
  exact Nat.min_le_left _ _

set_option maxRecDepth 100000 in
set_option maxHeartbeats 4000000 in
theorem rvalidate_any (B N : Nat) (bad : Bool) (v f : ByteArray) (w0 w : World) (h : VS B N bad w0 w) (hN : N ≤ 1000) (hv : v.size ≤ 10000) (hf : f.size ≤ 10000) (hf0 : (f.data.toList == []) = false)
    (hbl : hasSub [32] v.data.toList = false) (hsuf : isSuf v.data.toList = isSuf f.data.toList) (hok : ∀ t ∈ toks 46 v.data.toList, okTok t = true) (fc : Nat) (hfc : stars (toks 46 f.data.toList) = fc) :
    Calls Tryd.prog 33 #[.string v, .string f, .pointer (some ⟨B, 0, none⟩)] w fun e w' => e = .returned (.tuple #[]) ∧
      VS B 100000 (((bad || !valid v.data.toList) || err fc (toks 46 v.data.toList)) || !(cnt fc (toks 46 v.data.toList) == fc)) w0 w' := by
  have hf0' : (f.toList == []) = false := by rw [Lib.toList_data]; exact hf0
  obtain ⟨r, hr, hl⟩ := split_f 46 v ⟨#[46]⟩ rfl (by unfold big; omega)
  have hlen : r.length = (toks 46 v.data.toList).length := by rw [← hl]; simp [lists]
  have hle := Pl.toksA_length 46 [] v.data.toList
  rw [data_length] at hle
  have hrl : r.length ≤ 10001 := by rw [hlen]; unfold toks; omega
  have hr0 : 0 < r.length := by rw [hlen]; exact List.length_pos_iff.2 (Pl.toksA_ne _ _ _)
  have hokr : ∀ t ∈ r, okTok t.data.toList = true := fun t ht => hok _ (by rw [← hl]; exact List.mem_map_of_mem ht)
  rw [← hl]
  have HV := Lib.hid (validate_any B N bad v w0 w h (by omega) (by omega))
  have HX := Lib.hid hsuf
  have HS1 := fun w' => Lib.hid (suffix_any v (by omega) w')
  have HS2 := fun w' => Lib.hid (suffix_any f (by omega) w')
  have HC := fun w' => Lib.hid (count_any f (by omega) w')
  have HT := fun w' => Lib.hid (Psplit.natsjwt_split.calls (v.size + 1) v ⟨#[46]⟩ r w' hr)
  have HCo := fun w' => Lib.hid (contains_any v ⟨#[32]⟩ (by unfold big; omega) (by decide) w')
  simp only [hbl] at HCo
  simp only [hsuf] at HS1
  simp only [hfc] at HC
  have HK := Lib.hid hokr
  clear h hbl hsuf hok hfc hlen hle hl hr hokr hf0
  generalize isSuf f.data.toList = sf at *
  go_enter Tryd.func33, Tryd.ntmps33
  go_wp2_with fail
  refine HV.out.mono ?_
  rintro e w1 ⟨rfl, hv1⟩
  go_wp2_with fail
  refine (HCo _).out.mono ?_
  rintro e w2 ⟨rfl, hd2⟩
  have hv2 := hv1.drawn hd2
  clear hv1 hd2 HV HCo
  go_wp2_with fail
  refine (HS1 _).out.mono ?_
  rintro e w3 ⟨rfl, hb3⟩
  have hv3 := vs_below0 hv2 hb3
  clear hv2 hb3 HS1
  go_wp2_with fail
  refine (HS2 _).out.mono ?_
  rintro e w4 ⟨rfl, hb4⟩
  have hv4 := vs_below0 hv3 hb4
  clear hv3 hb4 HS2
  go_wp2_with fail
  refine (HC _).out.mono ?_
  rintro e w5 ⟨rfl, hb5⟩
  have hv5 := vs_below0 hv4 hb5
  clear hv4 hb5 HC
  go_wp2_with fail
  refine (HT _).out.mono ?_
  rintro e w6 ⟨u, rfl, hR, hb6⟩
  have hv6 := vs_below0 hv5 hb6
  have hown := Kd.own_of_R hR
  obtain ⟨A, cap, rfl⟩ : ∃ A cap, u = .slice A r.length cap := by
    obtain ⟨g, cap, hv, _, _⟩ := hown.form hr0
    exact ⟨_, cap, hv⟩
  have hown1 := own_weaken (base' := B + 1) hown (by have := hv5.vr.lt; omega)
  have HO := Lib.hid hown1
  have HW := Lib.hid hv6
  have hst := VS.start hv6.vr
  clear hR hb6 hown hown1 hv5 hv6 HT
  generalize hbad : (bad || !valid v.data.toList) = bd at *
  have HBd := Lib.hid hbad
  clear hbad
  go_wp2
  go_loopw [40, 9, 11, 12, 13] (fun i c _ _ _ wr => ∃ k : Nat, k ≤ r.length ∧ i = .int .i64 k ∧ c = .int .i64 (cnt fc (lists (r.take k))) ∧ VS B (N + 4 + k) (bd || err fc (lists (r.take k))) w6 wr) (fun i _ _ _ _ _ => r.length - (intOf i).toNat)
  case atStart => exact ⟨0, Nat.zero_le _, rfl, rfl, hst.close (by omega) (by simp [lists, err])⟩
  case round =>
    clear hst
    obtain ⟨k, hk, rfl, rfl, hv⟩ := hrel
    by_cases hlt : k < r.length
    · obtain ⟨ad, hA, hcell⟩ := row_at_string (own_issue HO.out hv.others (Nat.lt_succ_self _)) k hlt
      cases hA
      have hct := cnt_take fc r k hlt
      have het := err_take fc r k hlt
      have hot := HK.out r[k] (List.getElem_mem hlt)
      have hck := cnt_le fc r k
      have HCt := Lib.hid hct
      have HEt := Lib.hid het
      clear hct het
      generalize hcn : cnt fc (lists (r.take k)) = cn at *
      generalize hen : err fc (lists (r.take k)) = er at *
      clear hcn hen
      generalize r[k] = t at *
      cases hrf : rfL t.data.toList with
      | none =>
        have hg : good fc t.data.toList = false := by unfold good; rw [hrf]
        have hw : wrong fc t.data.toList = false := by unfold wrong; rw [hrf]
        rw [hg] at HCt
        rw [hw] at HEt
        have h2 : t.size < 2 ∧ (t.toList == [42]) = false := by
          unfold okTok at hot
          rw [hrf] at hot
          simp only [Option.isSome_none, Bool.false_or, Bool.and_eq_true, decide_eq_true_eq, bne_iff_ne, ne_eq, data_length] at hot
          refine ⟨hot.1, ?_⟩
          rw [Lib.toList_data, beq_eq_false_iff_ne]
          exact hot.2
        obtain ⟨h2, h3⟩ := h2
        clear hrf hg hw hot
        go_wp2_with fail
        go_roundw
        case rel => exact ⟨k + 1, by omega, by go_num, by rw [HCt.out]; rfl, by rw [HEt.out]; exact hv.close (by omega) (by simp)⟩
        case measure => simp [intOf]; omega
      | some n =>
        obtain ⟨d, hd, hn⟩ := rfL_some hrf
        have hg : good fc t.data.toList = decide (n ≤ fc) := by unfold good; rw [hrf]
        have hw : wrong fc t.data.toList = decide ((fc : Int) < n) := by unfold wrong; rw [hrf]
        rw [hg] at HCt
        rw [hw] at HEt
        have hts : t.size = 2 := by rw [← data_length, hd]; rfl
        have h3 : (t.toList == [42]) = false := by rw [Lib.toList_data, hd]; rfl
        have h1 : 1 < t.size := by omega
        have h0 : 0 < t.size := by omega
        have hm : (((t[0]'h0).toNat : Int) == 36) = true := by
          have h5 : t.data.toList = t[0] :: t.data.toList.drop 1 := by
            have := drop_cons t 0 (by omega)
            simpa using this
          rw [hd] at h5
          injection h5 with h5 _
          rw [← h5]; rfl
        have HA := fun w' => Lib.hid (Tryd.strconv_Atoi (t.extract 1 t.size) n (by rw [extract_size]; omega) (by rw [extract_rest, hd]; exact hn) w')
        clear hrf hg hw hot hd hn hts
        go_wp2_with fail
        refine (HA _).out.mono ?_
        rintro e w7 ⟨rfl, z, rfl⟩
        have hv7 := vs_below0 hv (bytes_below wr z)
        generalize Lib.bytesWorld wr 5 z = w7 at *
        clear hv HA
        by_cases hle : n ≤ fc
        · rw [decide_eq_true hle] at HCt
          have hnf : ¬ (fc : Int) < n := by omega
          rw [decide_eq_false hnf] at HEt
          go_wp2_with fail
          go_roundw
          case rel => exact ⟨k + 1, by omega, by go_num, by rw [HCt.out]; go_num, by rw [HEt.out]; exact hv7.close (by omega) (by simp)⟩
          case measure => simp [intOf]; omega
        · rw [decide_eq_false hle] at HCt
          have hnf : (fc : Int) < n := by omega
          rw [decide_eq_true hnf] at HEt
          go_wp2_with (go_at_call 58; refine (hv7.add _ (by omega)).mono ?_; rintro e w8 ⟨rfl, hv8⟩)
          go_roundw
          case rel => exact ⟨k + 1, by omega, by go_num, by rw [HCt.out]; rfl, by rw [HEt.out]; exact hv8.close (by omega) (by simp)⟩
          case measure => simp [intOf]; omega
    · obtain rfl : k = r.length := by omega
      rw [List.take_length] at hv ⊢
      have hvw := HW.out
      generalize hcn : cnt fc (lists r) = cn at *
      generalize her : err fc (lists r) = er at *
      have HCn := Lib.hid hcn
      have HEr := Lib.hid her
      clear hcn her
      by_cases hce : cn = fc
      · have hq : (cn : Int) = (fc : Int) := by omega
        have HQ := Lib.hid hce
        clear hce
        go_wp2_with fail
        go_end0
        refine ⟨rfl, (hvw.trans hv).close (by omega) (by rw [HBd.out, HEr.out, HCn.out, HQ.out]; simp)⟩
      · have hq : ¬ (cn : Int) = (fc : Int) := by omega
        have hq2 : (cn == fc) = false := by rw [beq_eq_false_iff_ne]; exact hce
        have HQ := Lib.hid hq2
        clear hce hq2
        go_wp2_with (go_at_call 58; refine (hv.add _ (by omega)).mono ?_; rintro e w8 ⟨rfl, hv8⟩)
        go_end0
        refine ⟨rfl, (hvw.trans hv8).close (by omega) (by rw [HBd.out, HEr.out, HCn.out, HQ.out]; simp)⟩
end Go.Proofs.YtnbihmagbedfmaaDoorR
