/- The contract of RenamingSubject.ToSubject: each reference in its place a star; the other parts as they are. -/
import Derived.Test.YtnbihmagbedfmaaDoorRBuilder
import Derived.Test.YtnbihmagbedfmaaDoorRTexts
import Derived.WalkKit
import Derived.Lib.ConvBytes
import Derived.Test.YtnbihmagbedfmaaDoorRIssues
namespace Go.Proofs.YtnbihmagbedfmaaDoorR
open Go.RowKit Go.Proofs.YtnbihmagbedfmaaDoorRW.PrintWords
open Pl (hasSub toks toksA)

namespace Pl
def join : List (List UInt8) → List UInt8
  | [] => []
  | [t] => t
  | t :: u :: r => t ++ 46 :: join (u :: r)
theorem join_cons {t : List UInt8} {r : List (List UInt8)} (h : r ≠ []) : join (t :: r) = t ++ 46 :: join r := by
  cases r with
  | nil => exact absurd rfl h
  | cons u v => rfl
theorem join_toksA (cur l : List UInt8) : join (toksA 46 cur l) = cur ++ l := by
  induction l generalizing cur with
  | nil => simp [toksA, join]
  | cons c r ih =>
    unfold toksA
    split
    · rename_i h
      rw [join_cons (toksA_ne _ _ _), ih, h]
      simp
    · rw [ih]; simp
end Pl
open Pl (join)

section
variable (cv : ByteArray → ByteArray) (r : List ByteArray)
def outs : Nat → List UInt8
  | 0 => []
  | k + 1 => outs k ++ ((cv (r.getD k ByteArray.empty)).data.toList ++ (if k + 1 = r.length then [] else [46]))
def rest (k : Nat) : List UInt8 := join ((r.drop k).map fun t => (cv t).data.toList)
theorem outs_step (k : Nat) (h : k < r.length) : outs cv r k ++ rest cv r k = outs cv r (k + 1) ++ rest cv r (k + 1) := by
  have hg : r.getD k ByteArray.empty = r[k] := by simp [List.getD_eq_getElem?_getD, List.getElem?_eq_getElem h]
  unfold rest
  rw [List.drop_eq_getElem_cons h, List.map_cons]
  show _ = (outs cv r k ++ _) ++ _
  rw [hg]
  by_cases hl : k + 1 = r.length
  · rw [if_pos hl, hl, List.drop_length]
    simp [join]
  · rw [if_neg hl, Pl.join_cons (by simp; omega)]
    simp
theorem outs_all : ∀ k, k ≤ r.length → outs cv r k ++ rest cv r k = rest cv r 0
  | 0, _ => rfl
  | k + 1, h => by rw [← outs_step cv r k (by omega)]; exact outs_all k (by omega)
theorem outs_end : outs cv r r.length = join (r.map fun t => (cv t).data.toList) := by
  have := outs_all cv r r.length (Nat.le_refl _)
  unfold rest at this
  simpa [join] using this
theorem outs_len (k : Nat) (h : k ≤ r.length) : (outs cv r k).length ≤ (join (r.map fun t => (cv t).data.toList)).length := by
  have := congrArg List.length (outs_all cv r k h)
  unfold rest at this
  simp only [List.length_append, List.drop_zero] at this
  omega
end

/-- What a round makes of a part. -/
inductive Turned (t u : ByteArray) : Prop
  | short (h : t.size ≤ 1) (e : u = t)
  | other (h : 1 < t.size) (hc : t[0] ≠ 36) (e : u = t)
  | ref (n : Int) (h : 1 < t.size) (hc : t[0] = 36) (hx : (t.extract 1 t.size).size ≤ 18) (hn : Lib.atoi (t.extract 1 t.size).data.toList = some n) (e : u = ⟨#[42]⟩)

theorem bd_below {b : Nat} {bs : List Value} {w w' : World} (h : Bd b b bs w) (hb : Below w.heap.size w w') : Bd b b bs w' := by
  have key : ∀ p, Lib.BuilderAt 66 5 b b p bs w → Lib.BuilderAt 66 5 b b p bs w' := fun p ⟨h1, v, h2, h3, h4⟩ => ⟨h1, v, (hb.block b (lt_of_block h2)).trans h2, own_below h3 hb, h4⟩
  rcases h with h | h
  · exact .inl (key _ h)
  · exact .inr (key _ h)

theorem row_others {b base n : Nat} {v : Value} {xs : List Value} {w w1 : World} (h : w.ownsRow base 9 1 v n xs) (ho : Lib.OthersKept 5 (some b) w w1) (hB : b < base) : w1.ownsRow base 9 1 v n xs := by
  refine own_move h fun k hk => ?_
  obtain ⟨cells, hc⟩ := own_typed h k hk
  have hb := own_base h k hk
  rw [hc]
  refine ho k _ hc (fun e => by injection e with e; omega) (fun c fz e1 => ?_)
  injection e1 with _ e1 _
  exact absurd e1 (by decide)

theorem bytes_below (w : World) (t : ByteArray) : Below w.heap.size w (Lib.bytesWorld w 5 t) :=
  ⟨rfl, rfl, rfl, by rw [Lib.bytesWorld_size]; omega, fun i hi => Lib.bytesWorld_at_old w _ t i hi⟩
theorem others_of_below {e : TypeId} {b : Option Nat} {w w' : World} (h : Below w.heap.size w w') : Lib.OthersKept e b w w' :=
  fun k _ hk _ _ => (h.block k (lt_of_block hk)).trans hk

/-- The builder in block b, the parts' row. -/
structure Sub (b n : Nat) (T : Value) (r : List ByteArray) (bs : List UInt8) (w0 w : World) : Prop where
  bd : Bd b b (Lib.byteCells bs) w
  row : w.ownsRow (b + 1) 9 1 T n (encs Value.string r)
  below : Below w0.heap.size w0 w
  size : b + 1 ≤ w.heap.size

theorem Sub.write {b n : Nat} {T : Value} {r : List ByteArray} {bs : List UInt8} {w0 w : World} (h : Sub b n T r bs w0 w) (hb : w0.heap.size = b) (s : ByteArray) (hlen : bs.length + s.size ≤ 1000000) :
    Calls Tryd.prog 53 #[.pointer (some ⟨b, 0, none⟩), .string s] w fun e w' => e = .returned (.tuple #[.int .i64 s.size, .nilIface]) ∧ Sub b n T r (bs ++ s.data.toList) w0 w' := by
  refine (writestring_any b b _ s w h.bd (by rw [Lib.byteCells_length]; omega) (by have := h.size; omega)).mono fun e w' ⟨he, h1, h2, h3⟩ => ⟨he, ?_, row_others h.row h3 (Nat.lt_succ_self _), h.below.trans (hb ▸ h2), Nat.le_trans h.size h2.size⟩
  rw [Lib.byteCells_append, ← Lib.strCells_eq]
  exact h1
theorem Sub.on {b n : Nat} {T : Value} {r : List ByteArray} {bs : List UInt8} {w0 w w' : World} (h : Sub b n T r bs w0 w) (hb : w0.heap.size = b) (k : Below w.heap.size w w') : Sub b n T r bs w0 w' :=
  ⟨bd_below h.bd k, own_below h.row k, h.below.trans (k.mono (by have := h.size; omega)), Nat.le_trans h.size k.size⟩

set_option maxRecDepth 100000 in
set_option maxHeartbeats 1000000 in
theorem tosubject_none (s : ByteArray) (hs : s.size ≤ 4294967296) (h : hasSub [36] s.data.toList = false) (w : World) :
    Calls Tryd.prog 30 #[.string s] w fun e w' => e = .returned (.string s) ∧ Below w.heap.size w w' := by
  have H0 := Acc.refl w
  have hc := contains_any s ⟨#[36]⟩ hs (by decide) w
  rw [show (⟨#[36]⟩ : ByteArray).data.toList = [36] from rfl, h] at hc
  have HC := Lib.hid hc
  clear hc h
  go_enter Tryd.func30, Tryd.ntmps30
  go_wp2_with fail
  refine HC.out.mono ?_
  rintro e w1 ⟨rfl, hd⟩
  obtain ⟨n, rfl⟩ := hd.out
  go_wp2
  go_ret
  exact ⟨rfl, (H0.drewN n).out⟩

theorem row_at_string {w : World} {base : Nat} {e : TypeId} {A : Option Addr} {c : Nat} {xs : List ByteArray} (h : w.ownsRow base e 1 (.slice A xs.length c) xs.length (encs Value.string xs)) (k : Nat) (hk : k < xs.length) :
    ∃ ad, A = some ad ∧ w.cell? (ad.add k) = some (.string xs[k]) := by
  obtain ⟨g, cap, hv, _, _⟩ := h.form (by omega)
  have hA : A = some ⟨g, 0, none⟩ := by injection hv
  subst hA
  refine ⟨_, rfl, h.cells (g := g) rfl k _ ?_⟩
  simp [encs, List.getElem?_eq_getElem hk]

set_option maxRecDepth 100000 in
set_option maxHeartbeats 4000000 in
theorem tosubject_some (cv : ByteArray → ByteArray) (s : ByteArray) (r : List ByteArray) (hs : s.size ≤ 4294967296) (h : hasSub [36] s.data.toList = true) (hr : Psplit.natsjwt_split.f (s.size + 1) s ⟨#[46]⟩ = some r)
    (ht : ∀ t ∈ r, Turned t (cv t) ∧ (cv t).size ≤ 100) (hj : (join (r.map fun t => (cv t).data.toList)).length ≤ 10000) (hl : 0 < r.length) (hrl : r.length ≤ 4294967296) (w : World) :
    Calls Tryd.prog 30 #[.string s] w fun e w' => e = .returned (.string ⟨(join (r.map fun t => (cv t).data.toList)).toArray⟩) ∧ Below w.heap.size w w' := by
  have hc := contains_any s ⟨#[36]⟩ hs (by decide) w
  rw [show (⟨#[36]⟩ : ByteArray).data.toList = [36] from rfl, h] at hc
  have HC := Lib.hid hc
  have HS := fun w' => Lib.hid (Psplit.natsjwt_split.calls (s.size + 1) s ⟨#[46]⟩ r w' hr)
  have HE := Lib.hid (outs_end cv r)
  have HL := Lib.hid (fun k hk => Nat.le_trans (outs_len cv r k hk) hj)
  have HT := Lib.hid ht
  clear hc h hr hj ht
  go_enter Tryd.func30, Tryd.ntmps30
  go_wp2_with fail
  refine HC.out.mono ?_
  rintro e w1 ⟨rfl, hd⟩
  have hb1 : Below w.heap.size w w1 := by obtain ⟨n, rfl⟩ := hd.out; exact ((Acc.refl w).drewN n).out
  clear hd HC
  go_wp2_with fail
  refine (HS _).out.mono ?_
  rintro e w2 ⟨v, rfl, hR, hb2⟩
  have hown := Kd.own_of_R hR
  obtain ⟨A, cap, rfl⟩ : ∃ A cap, v = .slice A r.length cap := by
    obtain ⟨g, cap, hv, _, _⟩ := hown.form hl
    exact ⟨_, cap, hv⟩
  have hst : Sub w1.heap.size r.length (.slice A r.length cap) r (outs cv r 0) w1 w2 := by
    refine ⟨bd_below (w := w1.alloc (.cells #[.pointer none, .slice none 0 0] 66)) (.inl ⟨Nat.le_refl _, _, heap_alloc_new _ _, ⟨rfl, .inl ⟨rfl, rfl⟩⟩, by simp [Value.ownBlock]⟩) hb2, by simpa using hown, (((Below.refl _ _).alloc (Nat.le_refl _) _).trans (hb2.mono (by simp))), ?_⟩
    have := hb2.size; simp at this; exact this
  clear hown hR hb2 HS
  generalize hgb : w1.heap.size = b at *
  have HB := Lib.hid hgb
  have HB1 := Lib.hid hb1
  clear hgb hb1
  go_wp2
  go_loopw [19, 5, 6, 7, 8, 9] (fun i _ _ _ _ _ wr => ∃ k : Nat, k ≤ r.length ∧ i = .int .i64 k ∧ Sub b r.length (.slice A r.length cap) r (outs cv r k) w1 wr) (fun i _ _ _ _ _ _ => r.length - (intOf i).toNat)
  case atStart => exact ⟨0, Nat.zero_le _, rfl, hst⟩
  case round =>
    clear hst
    obtain ⟨k, hk, rfl, hv⟩ := hrel
    by_cases hlt : k < r.length
    · obtain ⟨ad, hA, hcell⟩ := row_at_string hv.row k hlt
      cases hA
      have htk := HT.out r[k] (List.getElem_mem hlt)
      have hou : outs cv r (k + 1) = outs cv r k ++ ((cv r[k]).data.toList ++ (if k + 1 = r.length then [] else [46])) := by
        have hg : r.getD k ByteArray.empty = r[k] := by simp [List.getD_eq_getElem?_getD, List.getElem?_eq_getElem hlt]
        rw [← hg]; rfl
      have hle := HL.out k hk
      obtain ⟨htu, hsz⟩ := htk
      have HW := fun w' (h : Sub b r.length (.slice (some ad) r.length cap) r (outs cv r k) w1 w') => Lib.hid (h.write HB.out (cv r[k]) (by omega))
      have HV := Lib.hid hv
      clear hv
      generalize r[k] = t at *
      have HTu := Lib.hid htu
      generalize cv t = u at *
      have HSz := Lib.hid hsz
      have HOU := Lib.hid hou
      clear hsz htu hou
      cases HTu.out with
      | short h e =>
        subst e
        go_wp2_with fail
        refine (HW _ HV.out).out.mono ?_
        rintro e w3 ⟨rfl, hv3⟩
        have hou := HOU.out
        by_cases hle1 : k + 1 = r.length
        · rw [if_pos hle1, List.append_nil] at hou
          have HO := Lib.hid hou
          clear hou
          have hq : (k : Int) = (r.length : Int) - 1 := by omega
          go_wp2
          go_roundw
          case rel => exact ⟨k + 1, by omega, by go_num, by rw [HO.out]; exact hv3⟩
          case measure => simp [intOf]; omega
        · rw [if_neg hle1] at hou
          have HO := Lib.hid hou
          have HD := Lib.hid (hv3.write HB.out ⟨#[46]⟩ (by have h1 := HL.out k hk; have h2 := HSz.out; rw [List.length_append]; first | (rw [data_length]; show _ + 1 ≤ _; omega) | (show _ + 1 + 1 ≤ _; omega)))
          clear hou
          have hq : ¬ (k : Int) = (r.length : Int) - 1 := by omega
          go_wp2_with fail
          refine HD.out.mono ?_
          rintro e w4 ⟨rfl, hv4⟩
          go_wp2
          go_roundw
          case rel => exact ⟨k + 1, by omega, by go_num, by rw [HO.out, ← List.append_assoc]; exact hv4⟩
          case measure => simp [intOf]; omega
      | other h hc e =>
        subst e
        have hn : ((u[0].toNat : Int) == 36) = false := by
          rw [beq_eq_false_iff_ne]
          exact fun e => hc (UInt8.toNat_inj.1 (by have : (36 : UInt8).toNat = 36 := rfl; omega))
        clear hc
        go_wp2_with fail
        refine (HW _ HV.out).out.mono ?_
        rintro e w3 ⟨rfl, hv3⟩
        have hou := HOU.out
        by_cases hle1 : k + 1 = r.length
        · rw [if_pos hle1, List.append_nil] at hou
          have HO := Lib.hid hou
          clear hou
          have hq : (k : Int) = (r.length : Int) - 1 := by omega
          go_wp2
          go_roundw
          case rel => exact ⟨k + 1, by omega, by go_num, by rw [HO.out]; exact hv3⟩
          case measure => simp [intOf]; omega
        · rw [if_neg hle1] at hou
          have HO := Lib.hid hou
          have HD := Lib.hid (hv3.write HB.out ⟨#[46]⟩ (by have h1 := HL.out k hk; have h2 := HSz.out; rw [List.length_append]; first | (rw [data_length]; show _ + 1 ≤ _; omega) | (show _ + 1 + 1 ≤ _; omega)))
          clear hou
          have hq : ¬ (k : Int) = (r.length : Int) - 1 := by omega
          go_wp2_with fail
          refine HD.out.mono ?_
          rintro e w4 ⟨rfl, hv4⟩
          go_wp2
          go_roundw
          case rel => exact ⟨k + 1, by omega, by go_num, by rw [HO.out, ← List.append_assoc]; exact hv4⟩
          case measure => simp [intOf]; omega
      | ref n h hc hx hn e =>
        have hm : ((t[0].toNat : Int) == 36) = true := by rw [hc]; rfl
        have HA := fun w' => Lib.hid (Tryd.strconv_Atoi (t.extract 1 t.size) n hx hn w')
        clear hc hn hx
        subst e
        go_wp2_with fail
        refine (HA _).out.mono ?_
        rintro e w5 ⟨rfl, z, rfl⟩
        have hz := HV.out.on HB.out (bytes_below wr z)
        generalize Lib.bytesWorld wr 5 z = w5 at *
        have HV5 := Lib.hid hz
        clear hz
        go_wp2_with fail
        refine (HW _ HV5.out).out.mono ?_
        rintro e w3 ⟨rfl, hv3⟩
        have hou := HOU.out
        by_cases hle1 : k + 1 = r.length
        · rw [if_pos hle1, List.append_nil] at hou
          have HO := Lib.hid hou
          clear hou
          have hq : (k : Int) = (r.length : Int) - 1 := by omega
          go_wp2
          go_roundw
          case rel => exact ⟨k + 1, by omega, by go_num, by rw [HO.out]; exact hv3⟩
          case measure => simp [intOf]; omega
        · rw [if_neg hle1] at hou
          have HO := Lib.hid hou
          have HD := Lib.hid (hv3.write HB.out ⟨#[46]⟩ (by have h1 := HL.out k hk; have h2 := HSz.out; rw [List.length_append]; first | (rw [data_length]; show _ + 1 ≤ _; omega) | (show _ + 1 + 1 ≤ _; omega)))
          clear hou
          have hq : ¬ (k : Int) = (r.length : Int) - 1 := by omega
          go_wp2_with fail
          refine HD.out.mono ?_
          rintro e w4 ⟨rfl, hv4⟩
          go_wp2
          go_roundw
          case rel => exact ⟨k + 1, by omega, by go_num, by rw [HO.out, ← List.append_assoc]; exact hv4⟩
          case measure => simp [intOf]; omega
    · obtain rfl : k = r.length := by omega
      have HS := Lib.hid (Tryd.Builder_String_any b b (outs cv r r.length) wr hv.bd (by have := hv.size; omega))
      have HV := Lib.hid hv
      clear hv
      go_wp2_with fail
      refine HS.out.mono ?_
      rintro e w3 ⟨rfl, hb3⟩
      go_wp2
      go_ret
      refine ⟨by rw [HE.out]; rfl, ?_⟩
      have hbb := HB.out
      subst hbb
      exact HB1.out.trans ((HV.out.below.trans hb3).mono HB1.out.size)
end Go.Proofs.YtnbihmagbedfmaaDoorR
