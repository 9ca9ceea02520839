import Derived.Test.YtnbihmagbedfmaaDoorRListBase
import Derived.WalkKit
import Derived.Deep.RegionLaw
import Derived.Laws.IdiomCopy
import Derived.Lib.Hide
import Derived.Maps.AppendAt
import Derived.Test.YtnbihmagbedfmaaDoorRShelf
import Derived.Lib.ConvBytes
import Derived.Lib.LaidTab
import Derived.Test.YtnbihmagbedfmaaDoorRPzzFits1x
import Derived.Test.YtnbihmagbedfmaaDoorRPHasx
import Derived.Test.YtnbihmagbedfmaaDoorRPRemovedx
import Derived.Test.YtnbihmagbedfmaaDoorRPSamex
import Derived.Test.YtnbihmagbedfmaaDoorRPzzFits3x
import Derived.ArgAppend
import Derived.Deep.RegionWith
import Derived.ProofKit
import Derived.SliceStrings
import Derived.Deep.Slices
import Derived.ChangeArms
import Derived.DataReads
import Derived.Test.YtnbihmagbedfmaaDoorRCards
import Derived.Test.YtnbihmagbedfmaaDoorRTie
import Derived.OpenShut
import Derived.ShutString
import Derived.ChangeOld
import Derived.Below
import Derived.LaidMore
import Derived.Lay
import Derived.SevenTiedAt
import Derived.Stop.Joined
import Derived.Stop.LaidErr
/- Lists of texts behind a pointer: what is known of one, and what a method keeps. -/
namespace Go.Proofs.YtnbihmagbedfmaaDoorR
open Go.RowKit Go.Proofs.YtnbihmagbedfmaaDoorRW.PrintWords

def eqB (t p : ByteArray) : Bool := t.toList == p.toList
theorem eqB_iff {t p : ByteArray} : eqB t p = true ↔ t = p := by
  unfold eqB
  rw [beq_iff_eq, Lib.toList_data, Lib.toList_data]
  constructor
  · intro h; cases t; cases p; simp at h; rw [h]
  · rintro rfl; rfl
def hasB (L : List ByteArray) (p : ByteArray) : Bool := L.any fun t => eqB t p
def addB (L : List ByteArray) (p : ByteArray) : List ByteArray := if hasB L p then L else L ++ [p]
def remB (L : List ByteArray) (p : ByteArray) : List ByteArray := L.filter fun t => !eqB t p

theorem hasB_mem {L : List ByteArray} {p : ByteArray} : hasB L p = true ↔ p ∈ L := by
  unfold hasB
  rw [List.any_eq_true]
  constructor
  · rintro ⟨t, ht, h⟩; rw [← eqB_iff.1 h]; exact ht
  · intro h; exact ⟨p, h, eqB_iff.2 rfl⟩
theorem nodup_add {L : List ByteArray} {p : ByteArray} (h : L.Nodup) : (addB L p).Nodup := by
  unfold addB
  split
  · exact h
  · rename_i hn
    refine List.nodup_append.2 ⟨h, by simp, fun a ha b hb => ?_⟩
    rw [List.mem_singleton.1 hb]
    rintro rfl
    exact hn (hasB_mem.2 ha)
theorem nodup_rem {L : List ByteArray} {p : ByteArray} (h : L.Nodup) : (remB L p).Nodup := h.filter _
theorem len_add (L : List ByteArray) (p : ByteArray) : (addB L p).length ≤ L.length + 1 := by
  unfold addB; split <;> simp
theorem len_rem (L : List ByteArray) (p : ByteArray) : (remB L p).length ≤ L.length := List.length_filter_le _ _

/-- The first match taken out of a list without twins. -/
theorem rem_at {L : List ByteArray} {p : ByteArray} (h : L.Nodup) (k : Nat) (hk : k < L.length) (he : eqB L[k] p = true) : L.take k ++ L.drop (k + 1) = remB L p := by
  have hp := eqB_iff.1 he
  have hs : L = L.take k ++ L[k] :: L.drop (k + 1) := by rw [← List.drop_eq_getElem_cons hk, List.take_append_drop]
  have hd : (L.take k ++ L[k] :: L.drop (k + 1)).Nodup := by rw [← hs]; exact h
  rw [List.nodup_append, List.nodup_cons] at hd
  obtain ⟨h1, ⟨h2, h3⟩, h4⟩ := hd
  have e1 : (L.take k).filter (fun t => !eqB t p) = L.take k := by
    rw [List.filter_eq_self]
    intro t ht
    have := h4 t ht L[k] List.mem_cons_self
    cases hb : eqB t p with
    | false => rfl
    | true => exact absurd ((eqB_iff.1 hb).trans hp.symm) this
  have e2 : (L.drop (k + 1)).filter (fun t => !eqB t p) = L.drop (k + 1) := by
    rw [List.filter_eq_self]
    intro t ht
    cases hb : eqB t p with
    | false => rfl
    | true => exact absurd (((eqB_iff.1 hb).trans hp.symm) ▸ ht) h2
  unfold remB
  conv => rhs; rw [hs]
  rw [List.filter_append, List.filter_cons, he, e1, e2]
  rfl
theorem rem_none {L : List ByteArray} {p : ByteArray} (h : ∀ t ∈ L, eqB t p = false) : remB L p = L := by
  unfold remB
  rw [List.filter_eq_self]
  intro t ht
  rw [h t ht]; rfl

/-- The list in block X (type T), its texts in a row of the call's own. -/
def LS (T : TypeId) (X : Nat) (L : List ByteArray) (w : World) : Prop :=
  ∃ A cap, w.heap[X]? = some (.cells #[.slice A L.length cap] T (0, 0)) ∧ w.ownsRow (X + 1) 9 1 (.slice A L.length cap) L.length (encs Value.string L)
def rowOf (X : Nat) (w : World) : Option Nat :=
  match w.heap[X]? with
  | some (.cells cs _ _) => (cs[0]?).bind Value.ownBlock
  | _ => none
theorem rowOf_at {X : Nat} {w : World} {v : Value} {T : TypeId} {fr : Nat × Nat} (h : w.heap[X]? = some (.cells #[v] T fr)) : rowOf X w = v.ownBlock := by
  unfold rowOf; rw [h]; rfl

/-- What a method of the list keeps: all but its block and its row. -/
structure LK (T : TypeId) (X : Nat) (L : List ByteArray) (w0 w : World) : Prop where
  ls : LS T X L w
  os : w.os = w0.os
  tape : w.tape = w0.tape
  output : w.output = w0.output
  size : w0.heap.size ≤ w.heap.size
  kept : ∀ k, k < w0.heap.size → k ≠ X → rowOf X w0 ≠ some k → w.heap[k]? = w0.heap[k]?
  row : ∀ k, rowOf X w = some k → rowOf X w0 = some k ∨ w0.heap.size ≤ k

theorem LS.lt {T : TypeId} {X : Nat} {L : List ByteArray} {w : World} (h : LS T X L w) : X < w.heap.size := by
  obtain ⟨A, cap, h1, _⟩ := h; exact lt_of_block h1
theorem LS.rowlt {T : TypeId} {X : Nat} {L : List ByteArray} {w : World} (h : LS T X L w) (k : Nat) (hk : rowOf X w = some k) : X + 1 ≤ k ∧ k < w.heap.size := by
  obtain ⟨A, cap, h1, h2⟩ := h
  rw [rowOf_at h1] at hk
  exact ⟨own_base h2 k hk, own_lt h2 k hk⟩
theorem LK.refl {T : TypeId} {X : Nat} {L : List ByteArray} {w : World} (h : LS T X L w) : LK T X L w w := ⟨h, rfl, rfl, rfl, Nat.le_refl _, fun _ _ _ _ => rfl, fun _ h => .inl h⟩
theorem LK.trans {T : TypeId} {X : Nat} {L M : List ByteArray} {w0 w1 w2 : World} (h : LK T X L w0 w1) (k : LK T X M w1 w2) : LK T X M w0 w2 :=
  ⟨k.ls, k.os.trans h.os, k.tape.trans h.tape, k.output.trans h.output, Nat.le_trans h.size k.size, fun j hj hX hr => (k.kept j (Nat.lt_of_lt_of_le hj h.size) hX (fun e => by
      rcases h.row j e with e | e
      · exact hr e
      · omega)).trans (h.kept j hj hX hr), fun j hj => by
    rcases k.row j hj with e | e
    · exact h.row j e
    · exact .inr (Nat.le_trans h.size e)⟩
theorem LS.below {T : TypeId} {X : Nat} {L : List ByteArray} {w w' : World} (h : LS T X L w) (hb : Below w.heap.size w w') : LS T X L w' := by
  obtain ⟨A, cap, h1, h2⟩ := h
  exact ⟨A, cap, (hb.block X (lt_of_block h1)).trans h1, own_below h2 hb⟩
theorem LK.of_below {T : TypeId} {X : Nat} {L : List ByteArray} {w w' : World} (h : LS T X L w) (hb : Below w.heap.size w w') : LK T X L w w' :=
  ⟨h.below hb, hb.os, hb.tape, hb.output, hb.size, fun k hk _ _ => hb.block k hk, fun k hk => by
    obtain ⟨A, cap, h1, h2⟩ := h
    rw [rowOf_at ((hb.block X (lt_of_block h1)).trans h1)] at hk
    rw [rowOf_at h1]
    exact .inl hk⟩
theorem LK.on {T : TypeId} {X : Nat} {L : List ByteArray} {w0 w w' : World} (h : LK T X L w0 w) (hb : Below w.heap.size w w') : LK T X L w0 w' := h.trans (LK.of_below h.ls hb)
theorem LK.below {T : TypeId} {X : Nat} {L M : List ByteArray} {w0 w : World} (h0 : LS T X M w0) (h : LK T X L w0 w) : Below X w0 w :=
  ⟨h.os, h.tape, h.output, h.size, fun k hk => h.kept k (Nat.lt_trans hk h0.lt) (by omega) (fun e => by have := (h0.rowlt k e).1; omega)⟩

/-- A list of texts that is read and is none of the list's own memory. -/
structure Apart (X : Nat) (w : World) (A : Option Addr) (xs : List ByteArray) : Prop where
  reads : ReadsOf Value.string ByteArray.empty w A xs.length xs
  apart : ∀ ad, A = some ad → ad.block < w.heap.size ∧ ad.block ≠ X ∧ rowOf X w ≠ some ad.block
theorem cell_block {w w' : World} {a : Addr} (h : w'.heap[a.block]? = w.heap[a.block]?) : w'.cell? a = w.cell? a := by
  unfold World.cell?; rw [h]
theorem add_block (a : Addr) (j : Nat) : (a.add j).block = a.block := by unfold Addr.add; split <;> rfl
theorem Apart.on {T : TypeId} {X : Nat} {L : List ByteArray} {w0 w : World} {A : Option Addr} {xs : List ByteArray} (h : Apart X w0 A xs) (k : LK T X L w0 w) : Apart X w A xs := by
  refine ⟨⟨h.reads.1, h.reads.2.1, fun hn => ?_⟩, fun ad e => ?_⟩
  · obtain ⟨ad, e, hc⟩ := h.reads.2.2 hn
    obtain ⟨h1, h2, h3⟩ := h.apart ad e
    refine ⟨ad, e, fun j hj => ?_⟩
    rw [← hc j hj]
    refine cell_block ?_
    rw [add_block]
    exact k.kept _ h1 h2 h3
  · obtain ⟨h1, h2, h3⟩ := h.apart ad e
    refine ⟨Nat.lt_of_lt_of_le h1 k.size, h2, fun e2 => ?_⟩
    rcases k.row _ e2 with e3 | e3
    · exact h3 e3
    · omega
theorem Apart.cell {X : Nat} {w : World} {A : Option Addr} {xs : List ByteArray} (h : Apart X w A xs) (k : Nat) (hk : k < xs.length) : ∃ ad, A = some ad ∧ w.cell? (ad.add k) = some (.string xs[k]) := by
  obtain ⟨ad, e, hc⟩ := h.reads.2.2 (by omega)
  refine ⟨ad, e, ?_⟩
  rw [hc k hk]
  simp [List.getD_eq_getElem?_getD, List.getElem?_eq_getElem hk]

set_option maxRecDepth 100000 in
/-- (*StringList).Contains. -/
theorem slcontains_any (X : Nat) (L : List ByteArray) (p : ByteArray) (w : World) (h : LS 59 X L w) (hl : L.length ≤ 1000000) :
    Calls Tryd.prog 39 #[.pointer (some ⟨X, 0, none⟩), .string p] w fun e w' => e = .returned (.bool (hasB L p)) ∧ w' = w := by
  obtain ⟨A, cap, h1, h2⟩ := h
  have hc := cell_of_one h1
  have HO := Lib.hid h2
  have hall : Hid ((∀ t ∈ L, eqB t p = false) → hasB L p = false) := fun h => by
    unfold hasB
    rw [List.any_eq_false]
    intro t ht
    rw [h t ht]; simp
  have hone : Hid (∀ k (hk : k < L.length), eqB L[k] p = true → hasB L p = true) := fun k hk he => by
    unfold hasB
    rw [List.any_eq_true]
    exact ⟨_, List.getElem_mem hk, he⟩
  generalize hasB L p = res at *
  clear h1 h2
  go_enter Tryd.func39, Tryd.ntmps39
  go_wp2
  go_loopw [11, 6] (fun i _ wr => wr = w ∧ ∃ k : Nat, k ≤ L.length ∧ i = .int .i64 k ∧ Hid (∀ t ∈ L.take k, eqB t p = false)) (fun i _ _ => L.length - (intOf i).toNat)
  case atStart => exact ⟨rfl, 0, Nat.zero_le _, rfl, fun t ht => by simp at ht⟩
  case round =>
    obtain ⟨rfl, k, hk, rfl, hv⟩ := hrel
    by_cases hlt : k < L.length
    · obtain ⟨ad, hA, hcell⟩ := row_at_string HO.out k hlt
      cases hA
      cases he : eqB L[k] p with
      | true =>
        have hres := hone k hlt he
        subst hres
        unfold eqB at he
        generalize L[k] = t at *
        clear hv hone hall
        go_wp2
        go_ret
        exact ⟨rfl, rfl⟩
      | false =>
        have hnx : Hid (∀ t ∈ L.take (k + 1), eqB t p = false) := by
          intro t ht
          rw [List.take_succ_eq_append_getElem hlt] at ht
          rcases List.mem_append.1 ht with ht | ht
          · exact hv t ht
          · rw [List.mem_singleton.1 ht]; exact he
        unfold eqB at he
        generalize L[k] = t at *
        clear hv hone hall
        go_wp2
        go_roundw
        case rel => exact ⟨trivial, k + 1, by omega, by go_num, hnx⟩
        case measure => simp [intOf]; omega
    · obtain rfl : k = L.length := by omega
      have hres : res = false := hall (by rw [List.take_length] at hv; exact hv)
      subst hres
      clear hv hone hall
      go_wp2
      go_ret
      exact ⟨rfl, rfl⟩
end Go.Proofs.YtnbihmagbedfmaaDoorR
/- (*StringList).Add. -/
namespace Go.Proofs.YtnbihmagbedfmaaDoorR
open Go.RowKit Go.Proofs.YtnbihmagbedfmaaDoorRW.PrintWords

/-- One text more in the row, the slice stored again. -/
theorem LK.put {T : TypeId} {X : Nat} {v : Value} {n m cap : Nat} {xs : List Value} {A : Option Addr} {M : List ByteArray} {w w0 w1 : World} (hX : w.heap[X]? = some (.cells #[v] T (0, 0))) (hown : w.ownsRow (X + 1) 9 1 v n xs) (h0 : Below w.heap.size w w0)
    (hg : w0.grownBy w1 v.ownBlock) (hm : m = M.length) (ho : w1.ownsRow (X + 1) 9 1 (.slice A m cap) m (encs Value.string M)) (hat : (Value.slice A m cap).ownBlock = v.ownBlock ∨ (Value.slice A m cap).ownBlock = some w0.heap.size) :
    w1.heap[X]? = some (.cells #[v] T (0, 0)) ∧ LK T X M w (w1.setCell ⟨X, 0, none⟩ (.slice A m cap)) := by
  subst hm
  have hlt := lt_of_block hX
  have hrow : ∀ k, v.ownBlock = some k → X + 1 ≤ k := fun k hk => own_base hown k hk
  have hsame : ∀ k, k < w.heap.size → some k ≠ v.ownBlock → w1.heap[k]? = w.heap[k]? := fun k hk hne => (hg.block k (Nat.lt_of_lt_of_le hk h0.size) hne).trans (h0.block k hk)
  have hXne : some X ≠ v.ownBlock := fun e => by have := hrow X e.symm; omega
  have h1 := (hsame X hlt hXne).trans hX
  refine ⟨h1, ⟨⟨A, cap, one_setCell h1, ownsRow_setCell_below ho (by simp) _⟩, hg.os.trans h0.os, hg.tape.trans h0.tape, hg.output.trans h0.output, ?_, fun k hk hkX hr => ?_, fun k hk => ?_⟩⟩
  · simp only [World.setCell, Array.size_modify]; exact Nat.le_trans h0.size hg.size
  · rw [Below.heap_setCell _ _ _ _ (by exact hkX)]
    rw [rowOf_at hX] at hr
    exact hsame k hk (fun e => hr e.symm)
  · rw [rowOf_at (one_setCell (u := .slice A M.length cap) h1)] at hk
    rw [rowOf_at hX]
    rcases hat with e | e
    · rw [e] at hk; exact .inl hk
    · rw [e] at hk
      injection hk with hk
      subst hk
      exact .inr h0.size

theorem add_has {L : List ByteArray} {p : ByteArray} (h : hasB L p = true) : addB L p = L := by unfold addB; rw [if_pos h]
theorem add_new {L : List ByteArray} {p : ByteArray} (h : hasB L p = false) : addB L p = L ++ [p] := by unfold addB; rw [if_neg (by rw [h]; simp)]
theorem fold_take (f : List ByteArray → ByteArray → List ByteArray) (L xs : List ByteArray) (k : Nat) (h : k < xs.length) : (xs.take (k + 1)).foldl f L = f ((xs.take k).foldl f L) xs[k] := by
  rw [List.take_succ_eq_append_getElem h, List.foldl_append]; rfl
theorem len_adds (L : List ByteArray) : ∀ xs : List ByteArray, (xs.foldl addB L).length ≤ L.length + xs.length := by
  intro xs
  induction xs generalizing L with
  | nil => simp
  | cons x r ih => have h1 := ih (addB L x); have h2 := len_add L x; simp at h1 ⊢; omega
theorem Tryd.infoText : (Tryd.prog.info? 9).map (fun i => (i.zero, i.size, i.bytes)) = some (some (.string ⟨#[]⟩), 1, 16) := by kernel_rfl

set_option maxRecDepth 100000 in
set_option maxHeartbeats 1000000 in
theorem sladd_any (X : Nat) (L xs : List ByteArray) (A : Option Addr) (c : Nat) (w : World) (h : LS 59 X L w) (hp : Apart X w A xs) (hl : L.length + xs.length ≤ 1000000) (hne : ∀ t ∈ xs, (t.toList == []) = false) :
    Calls Tryd.prog 37 #[.pointer (some ⟨X, 0, none⟩), .slice A xs.length c] w fun e w' => e = .returned (.tuple #[]) ∧ LK 59 X (xs.foldl addB L) w w' := by
  obtain ⟨i0, hi, hz0, hz1, hz2⟩ := info_parts Tryd.infoText
  have hst := LK.refl h
  have HN := Lib.hid hne
  clear h hne
  go_enter Tryd.func37, Tryd.ntmps37
  go_wp2
  go_loopw [8, 5] (fun i _ wr => ∃ k : Nat, k ≤ xs.length ∧ i = .int .i64 k ∧ LK 59 X ((xs.take k).foldl addB L) w wr) (fun i _ _ => xs.length - (intOf i).toNat)
  case atStart => exact ⟨0, Nat.zero_le _, rfl, hst⟩
  case round =>
    clear hst
    obtain ⟨k, hk, rfl, hv⟩ := hrel
    by_cases hlt : k < xs.length
    · obtain ⟨ad, hA, hcell⟩ := (hp.on hv).cell k hlt
      cases hA
      have hf := fold_take addB L xs k hlt
      have hln := len_adds L (xs.take k)
      rw [List.length_take] at hln
      have hte := HN.out xs[k] (List.getElem_mem hlt)
      have HF := Lib.hid hf
      clear hf
      generalize (xs.take k).foldl addB L = M at *
      have hlm : M.length ≤ 1000000 := by omega
      have HL := Lib.hid hln
      clear hln
      generalize xs[k] = t at *
      have HC := Lib.hid (slcontains_any X M t wr hv.ls hlm)
      cases hb : hasB M t with
      | true =>
        rw [hb] at HC
        have hM := add_has hb
        clear hb
        go_wp2_with fail
        refine HC.out.mono ?_
        rintro e w1 ⟨rfl, rfl⟩
        go_wp2
        go_roundw
        case rel => exact ⟨k + 1, by omega, by go_num, by rw [HF.out, hM]; exact hv⟩
        case measure => simp [intOf]; omega
      | false =>
        rw [hb] at HC
        have HM := Lib.hid (add_new hb)
        clear hb
        obtain ⟨A1, cap, g1, g2⟩ := hv.ls
        have hc := cell_of_one g1
        have hltX := lt_of_block g1
        have hv := Lib.hid hv
        have HB := Lib.hid g1
        clear g1
        go_wp2_with fail
        refine HC.out.mono ?_
        rintro e w1 ⟨rfl, rfl⟩
        go_wp2_with (at_builtin; refine wpList_append_own_at _ rfl _ _ 59 rfl (X + 1) 9 i0 (.string ⟨#[]⟩) 1 16 Tryd.underlying59 hi hz0 hz1 hz2 rfl (by decide) (.slice A1 M.length cap) M.length (encs Value.string M) rfl (g2.alloc _) ⟨w1.heap.size, 0, none⟩ 1 1 [.string t] rfl rfl ?c1 ?c2 ?c3 ?c4 ?c5 ?_)
        case c1 => exact cell_one_new _ _ _
        case c2 => intro u hu; simp at hu; subst hu; rfl
        case c3 => unfold maxLen; omega
        case c4 => omega
        case c5 => simp; omega
        intro v' w2 hown' hg hnn hat
        obtain ⟨g, cap', hv', _, _⟩ := hown'.form (by omega)
        subst hv'
        have he : encs Value.string M ++ [Value.string t] = encs Value.string (M ++ [t]) := by simp [encs]
        rw [he] at hown'
        obtain ⟨h1, h2⟩ := LK.put HB.out g2 ((Below.refl _ _).alloc (Nat.le_refl _) _) hg (by simp) hown' (hat.imp id (fun e => e.trans (by simp)))
        have hc1 := cell_of_one h1
        have hf1 := free_of_one h1
        have hv2 := Lib.hid (hv.out.trans h2)
        clear hown' hg g2 h1 h2 hc HB hnn hat he
        go_wp2
        go_roundw
        case rel => exact ⟨k + 1, by omega, by go_num, by rw [HF.out, HM.out]; exact hv2.out⟩
        case measure => simp [intOf]; omega
    · obtain rfl : k = xs.length := by omega
      rw [List.take_length] at hv
      clear hlt hk
      go_wp2
      go_end0
      exact ⟨rfl, hv⟩
end Go.Proofs.YtnbihmagbedfmaaDoorR
/- (*StringList).Remove. -/
namespace Go.Proofs.YtnbihmagbedfmaaDoorR
open Go.RowKit Go.Proofs.YtnbihmagbedfmaaDoorRW.PrintWords

theorem encs_take (M : List ByteArray) (k : Nat) : encs Value.string (M.take k) = (encs Value.string M).take k := by simp [encs, List.map_take]
theorem encs_drop (M : List ByteArray) (k : Nat) : encs Value.string (M.drop k) = (encs Value.string M).drop k := by simp [encs, List.map_drop]

/-- One text taken out of the row, the slice stored again. -/
theorem LK.rem {T : TypeId} {X g cap : Nat} {M : List ByteArray} {w : World} (hX : w.heap[X]? = some (.cells #[.slice (some ⟨g, 0, none⟩) M.length cap] T (0, 0))) (hown : w.ownsRow (X + 1) 9 1 (.slice (some ⟨g, 0, none⟩) M.length cap) M.length (encs Value.string M)) (k : Nat) (hk : k < M.length) :
    (w.drew.setCells g k (encs Value.string (M.drop (k + 1)))).heap[X]? = some (.cells #[.slice (some ⟨g, 0, none⟩) M.length cap] T (0, 0)) ∧
    LK T X (M.take k ++ M.drop (k + 1)) w ((w.drew.setCells g k (encs Value.string (M.drop (k + 1)))).setCell ⟨X, 0, none⟩ (.slice (some ⟨g, 0, none⟩) (k + (M.length - (k + 1))) cap)) := by
  have hltX := lt_of_block hX
  obtain ⟨_, h2⟩ := hown
  rcases h2 with ⟨h2, _⟩ | ⟨g', cap', cur, hv, hb, hh, h3, h4, h5, h6⟩
  · cases h2
  obtain ⟨rfl, rfl⟩ : g = g' ∧ cap = cap' := by
    injection hv with e1 _ e2
    injection e1 with e1
    injection e1 with e1
    exact ⟨e1, e2⟩
  have hl : (encs Value.string (M.drop (k + 1))).length = M.length - (k + 1) := by simp [encs]
  have hne : X ≠ g := by omega
  obtain ⟨cur', c1, c2, c3⟩ := setCells_row (encs Value.string (M.drop (k + 1))) k w.drew cur hh (by rw [hl]; omega)
  obtain ⟨s1, s2, s3, s4⟩ := setCells_same g (encs Value.string (M.drop (k + 1))) k w.drew
  have hX1 : (w.drew.setCells g k (encs Value.string (M.drop (k + 1)))).heap[X]? = some (.cells #[.slice (some ⟨g, 0, none⟩) M.length cap] T (0, 0)) := (setCells_far _ _ X hne).trans hX
  have hlen : (M.take k ++ M.drop (k + 1)).length = k + (M.length - (k + 1)) := by simp; omega
  have hrow : (w.drew.setCells g k (encs Value.string (M.drop (k + 1)))).ownsRow (X + 1) 9 1 (.slice (some ⟨g, 0, none⟩) (M.take k ++ M.drop (k + 1)).length cap) (M.take k ++ M.drop (k + 1)).length (encs Value.string (M.take k ++ M.drop (k + 1))) := by
    refine ⟨by simp [encs], .inr ⟨g, cap, cur', rfl, hb, c1, by rw [hlen]; omega, h4, by rw [c2]; exact h5, ?_⟩⟩
    rw [c3, hlen, Nat.mul_one]
    have ht : cur.toList.take k = encs Value.string (M.take k) := by
      rw [encs_take, ← h6, Nat.mul_one, List.take_take, Nat.min_eq_left (by omega)]
    rw [ht, List.take_append_of_le_length (by simp [encs]; omega)]
    rw [List.take_of_length_le (by simp [encs]; omega)]
    simp [encs]
  refine ⟨hX1, ⟨⟨some ⟨g, 0, none⟩, cap, ?_, ?_⟩, s1, s2, s3, ?_, fun j hj hjX hr => ?_, fun j hj => ?_⟩⟩
  · rw [hlen]; exact one_setCell hX1
  · exact ownsRow_setCell_below hrow (by simp) _
  · simp only [World.setCell, Array.size_modify]; rw [s4]; exact Nat.le_refl _
  · rw [rowOf_at hX] at hr
    rw [Below.heap_setCell _ _ _ _ (by exact hjX)]
    exact setCells_far _ _ j (fun e => hr (by simp [Value.ownBlock, e]))
  · rw [rowOf_at (one_setCell (u := .slice (some ⟨g, 0, none⟩) (k + (M.length - (k + 1))) cap) hX1)] at hj
    rw [rowOf_at hX]
    exact .inl hj

theorem own_cap {w : World} {base : Nat} {e : TypeId} {g cap n : Nat} {xs : List Value} (h : w.ownsRow base e 1 (.slice (some ⟨g, 0, none⟩) n cap) n xs) : n ≤ cap := by
  obtain ⟨_, h2⟩ := h
  rcases h2 with ⟨h2, _⟩ | ⟨g', cap', cur, hv, hb, hh, h3, h4, h5, h6⟩
  · cases h2
  · have e : cap = cap' := by injection hv
    omega
theorem rem_facts {X g cap : Nat} {M : List ByteArray} {w : World} (hown : w.ownsRow (X + 1) 9 1 (.slice (some ⟨g, 0, none⟩) M.length cap) M.length (encs Value.string M)) (k : Nat) (hk : k < M.length) :
    Hid ((encs Value.string (M.drop (k + 1))).length = (M.length - (k + 1)) * 1) ∧ Hid (∀ u ∈ encs Value.string (M.drop (k + 1)), u.oneCell' = true) ∧
    Hid (∀ i, i < (encs Value.string (M.drop (k + 1))).length → (w.drew.cell? ⟨g, 0 + k * 1 + i, none⟩).isSome = true ∧ w.drew.frozen? ⟨g, 0 + k * 1 + i, none⟩ = false) ∧
    ∃ A2 : Addr, (if cap = k + 1 then some (⟨g, 0, none⟩ : Addr) else some ⟨g, k + 1, none⟩) = some A2 ∧ Hid (∀ i u, (encs Value.string (M.drop (k + 1)))[i]? = some u → w.drew.cell? (A2.add i) = some u) := by
  have hl : (encs Value.string (M.drop (k + 1))).length = M.length - (k + 1) := by simp [encs]
  have hcell : ∀ i (hi : i < M.length), w.cell? ⟨g, i, none⟩ = some (.string M[i]) := fun i hi => by
    obtain ⟨ad, hA, hc⟩ := row_at_string hown i hi
    injection hA with hA
    subst hA
    rw [Addr.add_lit, Nat.zero_add] at hc
    exact hc
  have hz : ∀ i, w.frozen? ⟨g, i, none⟩ = false := fun i => by
    obtain ⟨_, h2⟩ := hown
    rcases h2 with ⟨h2, _⟩ | ⟨g', cap', cur, hv, hb, hh, h3, h4, h5, h6⟩
    · cases h2
    have e : g = g' := by
      injection hv with e1 _ e2
      injection e1 with e1
      injection e1 with e1
    subst e
    exact Lib.frozen_of_heap hh i
  refine ⟨by rw [Nat.mul_one]; exact hl, fun u hu => by simp only [encs, List.mem_map] at hu; obtain ⟨q, _, rfl⟩ := hu; rfl, fun i hi => ?_, ?_⟩
  · rw [hl] at hi
    rw [Nat.mul_one, Nat.zero_add]
    exact ⟨by show (w.cell? _).isSome = true; rw [hcell (k + i) (by omega)]; rfl, hz (k + i)⟩
  · by_cases h : cap = k + 1
    · refine ⟨⟨g, 0, none⟩, by simp [h], fun i u hu => ?_⟩
      have hcap : M.length ≤ cap := by
        obtain ⟨_, h2⟩ := hown
        rcases h2 with ⟨h2, _⟩ | ⟨g', cap', cur, hv, hb, hh, h3, h4, h5, h6⟩
        · cases h2
        · have e : cap = cap' := by injection hv
          omega
      have h0 : (encs Value.string (M.drop (k + 1))).length = 0 := by rw [hl]; omega
      rw [List.length_eq_zero_iff.1 h0] at hu
      simp at hu
    · refine ⟨⟨g, k + 1, none⟩, by simp [h], fun i u hu => ?_⟩
      have hi : i < M.length - (k + 1) := by
        have := (List.getElem?_eq_some_iff.1 hu).1
        rwa [hl] at this
      rw [Addr.add_lit]
      refine (hcell (k + 1 + i) (by omega)).trans ?_
      rw [← hu]
      simp [encs, List.getElem?_eq_getElem (show k + 1 + i < M.length by omega)]

set_option maxRecDepth 100000 in
set_option maxHeartbeats 2000000 in
theorem slremove_any (X : Nat) (L xs : List ByteArray) (A : Option Addr) (c : Nat) (w : World) (h : LS 59 X L w) (hp : Apart X w A xs) (hl : L.length ≤ 1000000) (hx : xs.length ≤ 1000000) (hnd : L.Nodup) :
    Calls Tryd.prog 38 #[.pointer (some ⟨X, 0, none⟩), .slice A xs.length c] w fun e w' => e = .returned (.tuple #[]) ∧ LK 59 X (xs.foldl remB L) w w' := by
  obtain ⟨i0, hi, hz0, hz1, hz2⟩ := info_parts Tryd.infoText
  have hst := LK.refl h
  have HN := Lib.hid hnd
  clear h hnd
  go_enter Tryd.func38, Tryd.ntmps38
  go_wp2
  go_loopw [11, 5, 6, 7, 8] (fun i _ _ _ _ wr => ∃ k : Nat, k ≤ xs.length ∧ i = .int .i64 k ∧ LK 59 X ((xs.take k).foldl remB L) w wr ∧ Hid (((xs.take k).foldl remB L).Nodup ∧ ((xs.take k).foldl remB L).length ≤ 1000000)) (fun i _ _ _ _ _ => xs.length - (intOf i).toNat)
  case atStart => exact ⟨0, Nat.zero_le _, rfl, hst, HN.out, hl⟩
  case round =>
    clear hst
    obtain ⟨k, hk, rfl, hv, hn⟩ := hrel
    by_cases hlt : k < xs.length
    · obtain ⟨ad, hA, hcell⟩ := (hp.on hv).cell k hlt
      cases hA
      have hf := fold_take remB L xs k hlt
      have HF := Lib.hid hf
      clear hf
      generalize (xs.take k).foldl remB L = M at *
      have hlm : M.length ≤ 1000000 := hn.2
      generalize xs[k] = t at *
      have HN2 : Hid ((remB M t).Nodup ∧ (remB M t).length ≤ 1000000) := ⟨nodup_rem hn.1, Nat.le_trans (len_rem M t) hn.2⟩
      obtain ⟨A1, cap, g1, g2⟩ := hv.ls
      have hc := cell_of_one g1
      have hltX := lt_of_block g1
      have hv := Lib.hid hv
      have HB := Lib.hid g1
      have HO := Lib.hid g2
      clear g1 g2
      go_wp2
      go_loopw [19, 6, 7] (fun i _ _ wq => wq = wr ∧ ∃ j : Nat, j ≤ M.length ∧ i = .int .i64 j ∧ Hid (∀ u ∈ M.take j, eqB u t = false)) (fun i _ _ _ => M.length - (intOf i).toNat)
      case atStart => exact ⟨rfl, 0, Nat.zero_le _, rfl, fun u hu => by simp at hu⟩
      case round =>
        obtain ⟨rfl, j, hj, rfl, hm⟩ := hrel
        by_cases hjl : j < M.length
        · obtain ⟨a1, hA1, hcell1⟩ := row_at_string HO.out j hjl
          cases he : eqB M[j] t with
          | false =>
            have hnx : Hid (∀ u ∈ M.take (j + 1), eqB u t = false) := by
              intro u hu
              rw [List.take_succ_eq_append_getElem hjl] at hu
              rcases List.mem_append.1 hu with hu | hu
              · exact hm u hu
              · rw [List.mem_singleton.1 hu]; exact he
            subst hA1
            unfold eqB at he
            generalize M[j] = u at *
            clear hm
            go_wp2_with fail
            go_roundw
            case rel => exact ⟨trivial, j + 1, by omega, by go_num, hnx⟩
            case measure => simp [intOf]; omega
          | true =>
            have hrem := rem_at (p := t) hn.1 j hjl he
            obtain ⟨g, cap2, hv2, hcap1, hcap2⟩ := HO.out.form (by omega)
            obtain ⟨rfl, rfl⟩ : A1 = some ⟨g, 0, none⟩ ∧ cap = cap2 := by
              injection hv2 with e1 _ e2
              exact ⟨e1, e2⟩
            have hM := Lib.hid (hrem.symm)
            obtain ⟨hX1, hK⟩ := LK.rem HB.out HO.out j hjl
            obtain ⟨s1, s2, s3, hcs⟩ := rem_facts HO.out j hjl
            have hcg : ∃ A2 : Addr, (if cap = j + 1 then some (⟨g, 0, none⟩ : Addr) else some ⟨g, j + 1, none⟩) = some A2 ∧ Hid (∀ i u, (encs Value.string (M.drop (j + 1)))[i]? = some u → wr.drew.cell? (A2.add i) = some u) := hcs
            obtain ⟨A2, hA2, hnews⟩ := hcg
            have hc1 := cell_of_one hX1
            have hf1 := free_of_one hX1
            have hvK := Lib.hid (hv.out.trans hK)
            obtain rfl : a1 = ⟨g, 0, none⟩ := by injection hA1 with e; exact e.symm
            have hw1 : IntKind.i64.wrap ((j : Int) + 1) = (j : Int) + 1 := by rw [IntKind.wrap_i64]; omega
            have hp0 : (0 : Int) ≤ (j : Int) + 1 := by omega
            have hp1 : (j : Int) + 1 ≤ (M.length : Int) := by omega
            have hp2 : ((j : Int) + 1).toNat = j + 1 := by omega
            have hcap := own_cap HO.out
            have hjc : j ≤ cap := by omega
            rw [Addr.add_lit, Nat.zero_add] at hcell1
            unfold eqB at he
            clear hK hX1 hrem hcs hv2 hA1 hm
            generalize M[j] = u at *
            go_wp2_with fail
            go_region_law (refine step_append_room rfl (.tmp 33) (.tmp 37) 59 rfl 9 i0 1 Tryd.underlying59 hi hz1 g 0 j cap (by simp [Act.eval, Act.put]) A2 (M.length - (j + 1)) (cap - (j + 1)) (encs Value.string (M.drop (j + 1))) (by simp [Act.eval, Act.put]) s1.out hnews.out s2.out (by omega) s3.out ?_)
            all_goals go_wp2
            all_goals go_roundw
            all_goals first
              | exact ⟨k + 1, by omega, by go_num, by rw [HF.out, hM.out]; exact hvK.out, by rw [HF.out]; exact HN2⟩
              | (simp [intOf]; omega)
        · obtain rfl : j = M.length := by omega
          rw [List.take_length] at hm
          have hr : remB M t = M := rem_none hm
          have HR := Lib.hid hr
          clear hr hm
          go_wp2_with fail
          go_roundw
          case rel => exact ⟨k + 1, by omega, by go_num, by rw [HF.out, HR.out]; exact hv.out, by rw [HF.out]; exact HN2⟩
          case measure => simp [intOf]; omega
    · obtain rfl : k = xs.length := by omega
      rw [List.take_length] at hv
      clear hlt hk
      go_wp2
      go_end0
      exact ⟨rfl, hv⟩
end Go.Proofs.YtnbihmagbedfmaaDoorR
/- (*TagList).Contains, Add, Remove, at words. -/
namespace Go.Proofs.YtnbihmagbedfmaaDoorR
open Go.RowKit Go.Proofs.YtnbihmagbedfmaaDoorRW.PrintWords
open Pl (wordc wordt)

def Word (s : ByteArray) : Prop := wordt s.data.toList = true
theorem Word.ascii {s : ByteArray} (h : Word s) : ∀ (j : Nat) (b : UInt8), s.data.toList[j]? = some b → b.toNat < 128 := fun j b e => by
  unfold Word wordt at h
  simp only [Bool.and_eq_true, List.all_eq_true] at h
  have := (Pl.wordc_iff b).1 (h.1 b (List.mem_of_getElem? e))
  omega
theorem Word.size {s : ByteArray} (h : Word s) : 1 ≤ s.size ∧ s.size ≤ 20 := by
  unfold Word wordt at h
  simp only [Bool.and_eq_true, decide_eq_true_eq, data_length] at h
  exact h.2
theorem word_sp (b : UInt8) (h : wordc b = true) : Lib.isSp b = false := by
  have h' : ∀ n : Fin 256, wordc (UInt8.ofNat n.val) = true → Lib.isSp (UInt8.ofNat n.val) = false := by decide +kernel
  have := h' ⟨b.toNat, b.toNat_lt⟩
  simp only [UInt8.ofNat_toNat] at this
  exact this h
theorem word_low (b : UInt8) (h : wordc b = true) : wordc (Lib.lowerB b) = true ∧ Lib.lowerB (Lib.lowerB b) = Lib.lowerB b := by
  have h' : ∀ n : Fin 256, wordc (UInt8.ofNat n.val) = true → wordc (Lib.lowerB (UInt8.ofNat n.val)) = true ∧ Lib.lowerB (Lib.lowerB (UInt8.ofNat n.val)) = Lib.lowerB (UInt8.ofNat n.val) := by decide +kernel
  have := h' ⟨b.toNat, b.toNat_lt⟩
  simp only [UInt8.ofNat_toNat] at this
  exact this h
theorem drop_none (p : UInt8 → Bool) : ∀ l : List UInt8, (∀ b ∈ l, p b = false) → l.dropWhile p = l
  | [], _ => rfl
  | a :: r, h => by rw [List.dropWhile_cons, h a List.mem_cons_self]; rfl
theorem Word.trim {s : ByteArray} (h : Word s) : (⟨(Lib.trimSpace s.data.toList).toArray⟩ : ByteArray) = s := by
  unfold Word wordt at h
  simp only [Bool.and_eq_true, List.all_eq_true] at h
  have h1 : ∀ b ∈ s.data.toList, Lib.isSp b = false := fun b hb => word_sp b (h.1 b hb)
  unfold Lib.trimSpace
  rw [drop_none _ _ h1, drop_none _ _ (fun b hb => h1 b (List.mem_reverse.1 hb)), List.reverse_reverse]
theorem Word.small {s : ByteArray} (h : Word s) : Word (smallT s) := by
  unfold Word wordt at h ⊢
  simp only [Bool.and_eq_true, List.all_eq_true, decide_eq_true_eq] at h ⊢
  have e : (smallT s).data.toList = s.data.toList.map Lib.lowerB := rfl
  rw [e, List.length_map]
  refine ⟨fun b hb => ?_, h.2⟩
  obtain ⟨a, ha, rfl⟩ := List.mem_map.1 hb
  exact (word_low a (h.1 a ha)).1
theorem Word.twice {s : ByteArray} (h : Word s) : smallT (smallT s) = smallT s := by
  unfold Word wordt at h
  simp only [Bool.and_eq_true, List.all_eq_true, decide_eq_true_eq] at h
  apply eqB_iff.1
  unfold eqB
  rw [Lib.toList_data, Lib.toList_data, beq_iff_eq]
  show (s.data.toList.map Lib.lowerB).map Lib.lowerB = s.data.toList.map Lib.lowerB
  rw [List.map_map]
  exact List.map_congr_left fun b hb => (word_low b (h.1 b hb)).2
theorem Word.ne {s : ByteArray} (h : Word s) : (s.toList == []) = false := by
  rw [beq_eq_false_iff_ne, Lib.toList_data]
  intro e
  have := h.size.1
  rw [← data_length, e] at this
  simp at this

def Tab (w : World) : Prop := Lib.TabIs Tryd.prog w "strings.asciiSpace" .u8 Lib.asciiSpaceTab
theorem gSpace_named : Tryd.prog.globalNamed "strings.asciiSpace" = some 0 := by kernel_rfl
theorem Tab.below {B : Nat} {w w' : World} (h : Tab w) (hb : Below B w w') (hB : 0 < B) : Tab w' := by
  unfold Tab Lib.TabIs World.var? at h ⊢
  rw [gSpace_named] at h ⊢
  simp only [Option.bind_some] at h ⊢
  rw [hb.block 0 hB]
  exact h

theorem trim_any (s : ByteArray) (hs : Word s) (w : World) (ht : Tab w) :
    Calls Tryd.prog 62 #[.string s] w fun e w' => e = .returned (.string s) ∧ Below w.heap.size w w' := by
  refine (Tryd.strings_TrimSpace s w (by have := hs.size; omega) hs.ascii ht).mono fun e w' ⟨he, hw⟩ => ⟨?_, hw ▸ bytes_below w s⟩
  rw [he, hs.trim]
theorem lower_any (s : ByteArray) (hs : Word s) (w : World) :
    Calls Tryd.prog 48 #[.string s] w fun e w' => e = .returned (.string (smallT s)) ∧ Below w.heap.size w w' :=
  Tryd.strings_ToLower_ascii s w (by have := hs.size; omega) hs.ascii

set_option maxRecDepth 100000 in
/-- (*TagList).Contains. -/
theorem tlcontains_any (X : Nat) (L : List ByteArray) (p : ByteArray) (w : World) (h : LS 62 X L w) (hl : L.length ≤ 1000000) (hp : Word p) (ht : Tab w) :
    Calls Tryd.prog 42 #[.pointer (some ⟨X, 0, none⟩), .string p] w fun e w' => e = .returned (.bool (hasB L (smallT p))) ∧ Below w.heap.size w w' := by
  have HT := Lib.hid (trim_any p hp w ht)
  have HL := fun w' => Lib.hid (lower_any p hp w')
  have hall : Hid ((∀ t ∈ L, eqB t (smallT p) = false) → hasB L (smallT p) = false) := fun h => by
    unfold hasB
    rw [List.any_eq_false]
    intro t ht
    rw [h t ht]; simp
  have hone : Hid (∀ k (hk : k < L.length), eqB L[k] (smallT p) = true → hasB L (smallT p) = true) := fun k hk he => by
    unfold hasB
    rw [List.any_eq_true]
    exact ⟨_, List.getElem_mem hk, he⟩
  generalize smallT p = q at *
  generalize hasB L q = res at *
  clear hp ht
  go_enter Tryd.func42, Tryd.ntmps42
  go_wp2_with fail
  refine HT.out.mono ?_
  rintro e w1 ⟨rfl, hb1⟩
  go_wp2_with fail
  refine (HL _).out.mono ?_
  rintro e w2 ⟨rfl, hb2⟩
  have hb := hb1.trans (hb2.mono hb1.size)
  obtain ⟨A, cap, h1, h2⟩ := h.below hb
  have hc := cell_of_one h1
  have HO := Lib.hid h2
  have HB := Lib.hid hb
  clear h1 h2 h hb1 hb2 hb HT HL
  go_wp2
  go_loopw [14, 6] (fun i _ wr => wr = w2 ∧ ∃ k : Nat, k ≤ L.length ∧ i = .int .i64 k ∧ Hid (∀ t ∈ L.take k, eqB t q = false)) (fun i _ _ => L.length - (intOf i).toNat)
  case atStart => exact ⟨rfl, 0, Nat.zero_le _, rfl, fun t ht => by simp at ht⟩
  case round =>
    obtain ⟨rfl, k, hk, rfl, hv⟩ := hrel
    by_cases hlt : k < L.length
    · obtain ⟨ad, hA, hcell⟩ := row_at_string HO.out k hlt
      cases hA
      cases he : eqB L[k] q with
      | true =>
        have hres := hone k hlt he
        subst hres
        unfold eqB at he
        generalize L[k] = t at *
        clear hv hone hall
        go_wp2
        go_ret
        exact ⟨rfl, HB.out⟩
      | false =>
        have hnx : Hid (∀ t ∈ L.take (k + 1), eqB t q = false) := by
          intro t ht
          rw [List.take_succ_eq_append_getElem hlt] at ht
          rcases List.mem_append.1 ht with ht | ht
          · exact hv t ht
          · rw [List.mem_singleton.1 ht]; exact he
        unfold eqB at he
        generalize L[k] = t at *
        clear hv hone hall
        go_wp2
        go_roundw
        case rel => exact ⟨trivial, k + 1, by omega, by go_num, hnx⟩
        case measure => simp [intOf]; omega
    · obtain rfl : k = L.length := by omega
      have hres : res = false := hall (by rw [List.take_length] at hv; exact hv)
      subst hres
      clear hv hone hall
      go_wp2
      go_ret
      exact ⟨rfl, HB.out⟩

def addS (L : List ByteArray) (p : ByteArray) : List ByteArray := addB L (smallT p)
def remS (L : List ByteArray) (p : ByteArray) : List ByteArray := remB L (smallT p)
theorem len_addSs (L : List ByteArray) : ∀ xs : List ByteArray, (xs.foldl addS L).length ≤ L.length + xs.length := by
  intro xs
  induction xs generalizing L with
  | nil => simp
  | cons x r ih => have h1 := ih (addS L x); have h2 := len_add L (smallT x); unfold addS at h1 ⊢; simp at h1 ⊢; omega
set_option maxRecDepth 100000 in
set_option maxHeartbeats 1000000 in
theorem tladd_any (X : Nat) (L xs : List ByteArray) (A : Option Addr) (c : Nat) (w : World) (h : LS 62 X L w) (hp : Apart X w A xs) (hl : L.length + xs.length ≤ 1000000) (hne : ∀ t ∈ xs, Word t) (ht : Tab w) (hX : 0 < X) :
    Calls Tryd.prog 40 #[.pointer (some ⟨X, 0, none⟩), .slice A xs.length c] w fun e w' => e = .returned (.tuple #[]) ∧ LK 62 X (xs.foldl addS L) w w' := by
  obtain ⟨i0, hi, hz0, hz1, hz2⟩ := info_parts Tryd.infoText
  have hst := LK.refl h
  have HS := Lib.hid h
  have HTb := Lib.hid ht
  have HN := Lib.hid hne
  clear h hne ht
  go_enter Tryd.func40, Tryd.ntmps40
  go_wp2
  go_loopw [8, 5] (fun i _ wr => ∃ k : Nat, k ≤ xs.length ∧ i = .int .i64 k ∧ LK 62 X ((xs.take k).foldl addS L) w wr) (fun i _ _ => xs.length - (intOf i).toNat)
  case atStart => exact ⟨0, Nat.zero_le _, rfl, hst⟩
  case round =>
    clear hst
    obtain ⟨k, hk, rfl, hv⟩ := hrel
    by_cases hlt : k < xs.length
    · obtain ⟨ad, hA, hcell⟩ := (hp.on hv).cell k hlt
      cases hA
      have hf := fold_take addS L xs k hlt
      have hln := len_addSs L (xs.take k)
      rw [List.length_take] at hln
      have hwd := HN.out xs[k] (List.getElem_mem hlt)
      have HF := Lib.hid hf
      clear hf
      generalize (xs.take k).foldl addS L = M at *
      have hlm : M.length ≤ 1000000 := by omega
      have HL := Lib.hid hln
      clear hln
      generalize xs[k] = t at *
      have htb := HTb.out.below (LK.below HS.out hv) hX
      have HT1 := Lib.hid (trim_any t hwd wr htb)
      have HL1 := fun w' => Lib.hid (lower_any t hwd w')
      have hfs : addS M t = addB M (smallT t) := rfl
      rw [hfs] at HF
      clear hfs
      have hsw := hwd.small
      have htw := hwd.twice
      have hte := hsw.ne
      generalize smallT t = q at *
      have HV0 := Lib.hid hv
      clear hv hwd
      go_wp2_with fail
      refine HT1.out.mono ?_
      rintro e w5 ⟨rfl, hb5⟩
      go_wp2_with fail
      refine (HL1 _).out.mono ?_
      rintro e w6 ⟨rfl, hb6⟩
      have hb56 := hb5.trans (hb6.mono hb5.size)
      have hv := HV0.out.on hb56
      have htb6 := htb.below hb56 (by have := HV0.out.ls.lt; omega)
      have HC := tlcontains_any X M q w6 hv.ls hlm hsw htb6
      rw [htw] at HC
      have HC := Lib.hid HC
      clear HT1 HL1 hb5 hb6 hb56 htb htb6 htw hsw HV0
      cases hb : hasB M q with
      | true =>
        rw [hb] at HC
        have hM := add_has hb
        clear hb
        go_wp2_with fail
        refine HC.out.mono ?_
        rintro e w1 ⟨rfl, hb1⟩
        have hv1 := hv.on hb1
        clear hb1 hv
        go_wp2
        go_roundw
        case rel => exact ⟨k + 1, by omega, by go_num, by rw [HF.out, hM]; exact hv1⟩
        case measure => simp [intOf]; omega
      | false =>
        rw [hb] at HC
        have HM := Lib.hid (add_new hb)
        clear hb
        go_wp2_with fail
        refine HC.out.mono ?_
        rintro e w1 ⟨rfl, hb1⟩
        have hv1 := hv.on hb1
        clear hb1 hv
        obtain ⟨A1, cap, g1, g2⟩ := hv1.ls
        have hc := cell_of_one g1
        have hltX := lt_of_block g1
        have hv := Lib.hid hv1
        have HB := Lib.hid g1
        clear g1 hv1
        go_wp2_with (at_builtin; refine wpList_append_own_at _ rfl _ _ 62 rfl (X + 1) 9 i0 (.string ⟨#[]⟩) 1 16 Tryd.underlying62 hi hz0 hz1 hz2 rfl (by decide) (.slice A1 M.length cap) M.length (encs Value.string M) rfl (g2.alloc _) ⟨w1.heap.size, 0, none⟩ 1 1 [.string q] rfl rfl ?c1 ?c2 ?c3 ?c4 ?c5 ?_)
        case c1 => exact cell_one_new _ _ _
        case c2 => intro u hu; simp at hu; subst hu; rfl
        case c3 => unfold maxLen; omega
        case c4 => omega
        case c5 => simp; omega
        intro v' w2 hown' hg hnn hat
        obtain ⟨g, cap', hv', _, _⟩ := hown'.form (by omega)
        subst hv'
        have he : encs Value.string M ++ [Value.string q] = encs Value.string (M ++ [q]) := by simp [encs]
        rw [he] at hown'
        obtain ⟨h1, h2⟩ := LK.put HB.out g2 ((Below.refl _ _).alloc (Nat.le_refl _) _) hg (by simp) hown' (hat.imp id (fun e => e.trans (by simp)))
        have hc1 := cell_of_one h1
        have hf1 := free_of_one h1
        have hv2 := Lib.hid (hv.out.trans h2)
        clear hown' hg g2 h1 h2 hc HB hnn hat he
        go_wp2
        go_roundw
        case rel => exact ⟨k + 1, by omega, by go_num, by rw [HF.out, HM.out]; exact hv2.out⟩
        case measure => simp [intOf]; omega
    · obtain rfl : k = xs.length := by omega
      rw [List.take_length] at hv
      clear hlt hk
      go_wp2
      go_end0
      exact ⟨rfl, hv⟩
end Go.Proofs.YtnbihmagbedfmaaDoorR
/- (*TagList).Remove, at words. -/
namespace Go.Proofs.YtnbihmagbedfmaaDoorR
open Go.RowKit Go.Proofs.YtnbihmagbedfmaaDoorRW.PrintWords

set_option maxRecDepth 100000 in
set_option maxHeartbeats 2000000 in
theorem tlremove_any (X : Nat) (L xs : List ByteArray) (A : Option Addr) (c : Nat) (w : World) (h : LS 62 X L w) (hp : Apart X w A xs) (hl : L.length ≤ 1000000) (hx : xs.length ≤ 1000000) (hnd : L.Nodup) (hne : ∀ t ∈ xs, Word t) (ht : Tab w) (hX : 0 < X) :
    Calls Tryd.prog 41 #[.pointer (some ⟨X, 0, none⟩), .slice A xs.length c] w fun e w' => e = .returned (.tuple #[]) ∧ LK 62 X (xs.foldl remS L) w w' := by
  obtain ⟨i0, hi, hz0, hz1, hz2⟩ := info_parts Tryd.infoText
  have hst := LK.refl h
  have HS := Lib.hid h
  have HTb := Lib.hid ht
  have HNe := Lib.hid hne
  have HN := Lib.hid hnd
  clear h hnd hne ht
  go_enter Tryd.func41, Tryd.ntmps41
  go_wp2
  go_loopw [11, 5, 6, 7, 8] (fun i _ _ _ _ wr => ∃ k : Nat, k ≤ xs.length ∧ i = .int .i64 k ∧ LK 62 X ((xs.take k).foldl remS L) w wr ∧ Hid (((xs.take k).foldl remS L).Nodup ∧ ((xs.take k).foldl remS L).length ≤ 1000000)) (fun i _ _ _ _ _ => xs.length - (intOf i).toNat)
  case atStart => exact ⟨0, Nat.zero_le _, rfl, hst, HN.out, hl⟩
  case round =>
    clear hst
    obtain ⟨k, hk, rfl, hv, hn⟩ := hrel
    by_cases hlt : k < xs.length
    · obtain ⟨ad, hA, hcell⟩ := (hp.on hv).cell k hlt
      cases hA
      have hf := fold_take remS L xs k hlt
      have HF := Lib.hid hf
      clear hf
      generalize (xs.take k).foldl remS L = M at *
      have hlm : M.length ≤ 1000000 := hn.2
      have hwd := HNe.out xs[k] (List.getElem_mem hlt)
      generalize xs[k] = s at *
      have htb := HTb.out.below (LK.below HS.out hv) hX
      have HT1 := Lib.hid (trim_any s hwd wr htb)
      have HL1 := fun w' => Lib.hid (lower_any s hwd w')
      have hfs : remS M s = remB M (smallT s) := rfl
      rw [hfs] at HF
      clear hfs
      generalize smallT s = t at *
      have HN2 : Hid ((remB M t).Nodup ∧ (remB M t).length ≤ 1000000) := ⟨nodup_rem hn.1, Nat.le_trans (len_rem M t) hn.2⟩
      have HV0 := Lib.hid hv
      clear hv hwd
      go_wp2_with fail
      refine HT1.out.mono ?_
      rintro e w5 ⟨rfl, hb5⟩
      go_wp2_with fail
      refine (HL1 _).out.mono ?_
      rintro e w6 ⟨rfl, hb6⟩
      have hv := HV0.out.on (hb5.trans (hb6.mono hb5.size))
      clear HT1 HL1 hb5 hb6 htb HV0
      obtain ⟨A1, cap, g1, g2⟩ := hv.ls
      have hc := cell_of_one g1
      have hltX := lt_of_block g1
      have hv := Lib.hid hv
      have HB := Lib.hid g1
      have HO := Lib.hid g2
      clear g1 g2
      go_wp2
      go_loopw [22, 6, 7] (fun i _ _ wq => wq = w6 ∧ ∃ j : Nat, j ≤ M.length ∧ i = .int .i64 j ∧ Hid (∀ u ∈ M.take j, eqB u t = false)) (fun i _ _ _ => M.length - (intOf i).toNat)
      case atStart => exact ⟨rfl, 0, Nat.zero_le _, rfl, fun u hu => by simp at hu⟩
      case round =>
        obtain ⟨rfl, j, hj, rfl, hm⟩ := hrel
        by_cases hjl : j < M.length
        · obtain ⟨a1, hA1, hcell1⟩ := row_at_string HO.out j hjl
          cases he : eqB M[j] t with
          | false =>
            have hnx : Hid (∀ u ∈ M.take (j + 1), eqB u t = false) := by
              intro u hu
              rw [List.take_succ_eq_append_getElem hjl] at hu
              rcases List.mem_append.1 hu with hu | hu
              · exact hm u hu
              · rw [List.mem_singleton.1 hu]; exact he
            subst hA1
            unfold eqB at he
            generalize M[j] = u at *
            clear hm
            go_wp2_with fail
            go_roundw
            case rel => exact ⟨trivial, j + 1, by omega, by go_num, hnx⟩
            case measure => simp [intOf]; omega
          | true =>
            have hrem := rem_at (p := t) hn.1 j hjl he
            obtain ⟨g, cap2, hv2, hcap1, hcap2⟩ := HO.out.form (by omega)
            obtain ⟨rfl, rfl⟩ : A1 = some ⟨g, 0, none⟩ ∧ cap = cap2 := by
              injection hv2 with e1 _ e2
              exact ⟨e1, e2⟩
            have hM := Lib.hid (hrem.symm)
            obtain ⟨hX1, hK⟩ := LK.rem HB.out HO.out j hjl
            obtain ⟨s1, s2, s3, hcs⟩ := rem_facts HO.out j hjl
            obtain ⟨A2, hA2, hnews⟩ := hcs
            have hc1 := cell_of_one hX1
            have hf1 := free_of_one hX1
            have hvK := Lib.hid (hv.out.trans hK)
            obtain rfl : a1 = ⟨g, 0, none⟩ := by injection hA1 with e; exact e.symm
            have hw1 : IntKind.i64.wrap ((j : Int) + 1) = (j : Int) + 1 := by rw [IntKind.wrap_i64]; omega
            have hp0 : (0 : Int) ≤ (j : Int) + 1 := by omega
            have hp1 : (j : Int) + 1 ≤ (M.length : Int) := by omega
            have hp2 : ((j : Int) + 1).toNat = j + 1 := by omega
            have hcap := own_cap HO.out
            have hjc : j ≤ cap := by omega
            rw [Addr.add_lit, Nat.zero_add] at hcell1
            unfold eqB at he
            clear hK hX1 hrem hv2 hA1 hm
            generalize M[j] = u at *
            go_wp2_with fail
            go_region_law (refine step_append_room rfl (.tmp 36) (.tmp 40) 62 rfl 9 i0 1 Tryd.underlying62 hi hz1 g 0 j cap (by simp [Act.eval, Act.put]) A2 (M.length - (j + 1)) (cap - (j + 1)) (encs Value.string (M.drop (j + 1))) (by simp [Act.eval, Act.put]) s1.out hnews.out s2.out (by omega) s3.out ?_)
            all_goals go_wp2
            all_goals go_roundw
            all_goals first
              | exact ⟨k + 1, by omega, by go_num, by rw [HF.out, hM.out]; exact hvK.out, by rw [HF.out]; exact HN2⟩
              | (simp [intOf]; omega)
        · obtain rfl : j = M.length := by omega
          rw [List.take_length] at hm
          have hr : remB M t = M := rem_none hm
          have HR := Lib.hid hr
          clear hr hm
          go_wp2_with fail
          go_roundw
          case rel => exact ⟨k + 1, by omega, by go_num, by rw [HF.out, HR.out]; exact hv.out, by rw [HF.out]; exact HN2⟩
          case measure => simp [intOf]; omega
    · obtain rfl : k = xs.length := by omega
      rw [List.take_length] at hv
      clear hlt hk
      go_wp2
      go_end0
      exact ⟨rfl, hv⟩
end Go.Proofs.YtnbihmagbedfmaaDoorR
/- impl.listed, whatever the three methods that it is handed. -/
namespace Go.Proofs.YtnbihmagbedfmaaDoorR
open Go.RowKit Go.Proofs.YtnbihmagbedfmaaDoorRW.PrintWords
open PzzFits1 (S36 z36 k36 rd_T36 at_T36)

def addT (tr : ByteArray → ByteArray) (L : List ByteArray) (p : ByteArray) : List ByteArray := addB L (tr p)
def remT (tr : ByteArray → ByteArray) (L : List ByteArray) (p : ByteArray) : List ByteArray := remB L (tr p)
def stepT (tr : ByteArray → ByteArray) (L : List ByteArray) (s : S36) : List ByteArray := if s.f0 then s.f1.foldl (addT tr) L else s.f1.foldl (remT tr) L
def runT (tr : ByteArray → ByteArray) (l : List S36) : List ByteArray := l.foldl (stepT tr) []

theorem nodup_adds (tr : ByteArray → ByteArray) : ∀ (xs L : List ByteArray), L.Nodup → (xs.foldl (addT tr) L).Nodup
  | [], _, h => h
  | _ :: r, _, h => nodup_adds tr r _ (nodup_add h)
theorem nodup_rems (tr : ByteArray → ByteArray) : ∀ (xs L : List ByteArray), L.Nodup → (xs.foldl (remT tr) L).Nodup
  | [], _, h => h
  | _ :: r, _, h => nodup_rems tr r _ (nodup_rem h)
theorem length_adds (tr : ByteArray → ByteArray) : ∀ (xs L : List ByteArray), (xs.foldl (addT tr) L).length ≤ L.length + xs.length
  | [], L => by simp
  | x :: r, L => by
    have h1 := length_adds tr r (addT tr L x)
    have h2 : (addT tr L x).length ≤ L.length + 1 := len_add L (tr x)
    simp only [List.foldl_cons, List.length_cons] at h1 ⊢
    omega
theorem length_rems (tr : ByteArray → ByteArray) : ∀ (xs L : List ByteArray), (xs.foldl (remT tr) L).length ≤ L.length
  | [], L => by simp
  | x :: r, L => by
    have h1 := length_rems tr r (remT tr L x)
    have h2 : (remT tr L x).length ≤ L.length := len_rem L (tr x)
    simp only [List.foldl_cons] at h1 ⊢
    omega
theorem step_keeps (tr : ByteArray → ByteArray) (L : List ByteArray) (s : S36) (h : L.Nodup) : (stepT tr L s).Nodup ∧ (stepT tr L s).length ≤ L.length + s.f1.length := by
  unfold stepT
  split
  · exact ⟨nodup_adds tr _ _ h, length_adds tr _ _⟩
  · exact ⟨nodup_rems tr _ _ h, Nat.le_trans (length_rems tr _ _) (Nat.le_add_right _ _)⟩

/-- What the three methods owe. -/
structure Meth (T : TypeId) (tr : ByteArray → ByteArray) (fa fr fc : FuncId) : Prop where
  add : ∀ (X : Nat) (L xs : List ByteArray) (A : Option Addr) (c : Nat) (w : World), LS T X L w → Apart X w A xs → L.length + xs.length ≤ 1000000 → (∀ t ∈ xs, Word t) → Tab w → 0 < X →
    Calls Tryd.prog fa #[.pointer (some ⟨X, 0, none⟩), .slice A xs.length c] w fun e w' => e = .returned (.tuple #[]) ∧ LK T X (xs.foldl (addT tr) L) w w'
  rem : ∀ (X : Nat) (L xs : List ByteArray) (A : Option Addr) (c : Nat) (w : World), LS T X L w → Apart X w A xs → L.length ≤ 1000000 → xs.length ≤ 1000000 → L.Nodup → (∀ t ∈ xs, Word t) → Tab w → 0 < X →
    Calls Tryd.prog fr #[.pointer (some ⟨X, 0, none⟩), .slice A xs.length c] w fun e w' => e = .returned (.tuple #[]) ∧ LK T X (xs.foldl (remT tr) L) w w'
  has : ∀ (X : Nat) (L : List ByteArray) (p : ByteArray) (w : World), LS T X L w → L.length ≤ 1000000 → Word p → Tab w →
    Calls Tryd.prog fc #[.pointer (some ⟨X, 0, none⟩), .string p] w fun e w' => e = .returned (.bool (hasB L (tr p))) ∧ Below w.heap.size w w'
  enterA : ∀ (args : Array Value) (W : World), (callFunc fa args).run Tryd.prog W = .ok (.enter fa args) W
  enterR : ∀ (args : Array Value) (W : World), (callFunc fr args).run Tryd.prog W = .ok (.enter fr args) W
  enterC : ∀ (args : Array Value) (W : World), (callFunc fc args).run Tryd.prog W = .ok (.enter fc args) W

theorem meth_list : Meth 59 id 37 38 39 :=
  ⟨fun X L xs A c w h hp hl hn _ _ => sladd_any X L xs A c w h hp hl (fun t ht => (hn t ht).ne),
   fun X L xs A c w h hp hl hx hnd _ _ _ => slremove_any X L xs A c w h hp hl hx hnd,
   fun X L p w h hl _ _ => (slcontains_any X L p w h hl).mono fun _ _ ⟨he, hw⟩ => ⟨he, hw ▸ Below.refl _ _⟩,
   fun _ _ => by simp [go_sem], fun _ _ => by simp [go_sem], fun _ _ => by simp [go_sem]⟩
theorem meth_tags : Meth 62 smallT 40 41 42 :=
  ⟨fun X L xs A c w h hp hl hn ht hX => tladd_any X L xs A c w h hp hl hn ht hX,
   fun X L xs A c w h hp hl hx hnd hn ht hX => tlremove_any X L xs A c w h hp hl hx hnd hn ht hX,
   fun X L p w h hl hp ht => tlcontains_any X L p w h hl hp ht,
   fun _ _ => by simp [go_sem], fun _ _ => by simp [go_sem], fun _ _ => by simp [go_sem]⟩
end Go.Proofs.YtnbihmagbedfmaaDoorR
/- The walk of impl.listed. -/
namespace Go.Proofs.YtnbihmagbedfmaaDoorR
open Go.RowKit Go.Proofs.YtnbihmagbedfmaaDoorRW.PrintWords
open PzzFits1 (S36 z36 k36 rd_T36 at_T36)

theorem rd_step (l : List S36) (k : Nat) (h : k < l.length) : rd_T36 l (k : Int) = l[k] := by
  simp [rd_T36, List.getD_eq_getElem?_getD, List.getElem?_eq_getElem h]
theorem run_take (tr : ByteArray → ByteArray) (l : List S36) (k : Nat) (h : k < l.length) : runT tr (l.take (k + 1)) = stepT tr (runT tr (l.take k)) l[k] := by
  unfold runT
  rw [List.take_succ_eq_append_getElem h, List.foldl_append]; rfl
/-- Steps that are compared: at most 20 of them, each of at most 20 words. -/
def Steps (l : List S36) : Prop := l.length ≤ 20 ∧ ∀ s ∈ l, s.f1.length ≤ 20 ∧ ∀ t ∈ s.f1, Word t
theorem run_keeps (tr : ByteArray → ByteArray) (l : List S36) (hl : Steps l) : ∀ k, k ≤ l.length → (runT tr (l.take k)).Nodup ∧ (runT tr (l.take k)).length ≤ 20 * k
  | 0, _ => by simp [runT]
  | k + 1, h => by
    obtain ⟨h1, h2⟩ := run_keeps tr l hl k (by omega)
    rw [run_take tr l k (by omega)]
    obtain ⟨h3, h4⟩ := step_keeps tr _ l[k] h1
    have := (hl.2 l[k] (List.getElem_mem (by omega))).1
    exact ⟨h3, by omega⟩

theorem reads_under {w w1 : World} {A : Option Addr} {n : Nat} {xs : List ByteArray} (h : ReadsOf Value.string ByteArray.empty w A n xs) (hb : Below w.heap.size w w1) : ReadsOf Value.string ByteArray.empty w1 A n xs :=
  ⟨h.1, h.2.1, fun hn => by
    obtain ⟨ad, e, hc⟩ := h.2.2 hn
    exact ⟨ad, e, fun j hj => pw_cell_below hb (hc j hj)⟩⟩
theorem grown_below {w w1 : World} (hg : w.grownBy w1 none) : Below w.heap.size w w1 := ⟨hg.os, hg.tape, hg.output, hg.size, fun i hi => hg.block i hi (by simp)⟩
/-- A row that was made behind the list is none of its memory. -/
theorem apart_own {T : TypeId} {X c : Nat} {L xs : List ByteArray} {w w1 : World} {A : Option Addr} (h : LS T X L w) (hb : Below w.heap.size w w1) (ho : w1.ownsRow w.heap.size 9 1 (.slice A xs.length c) xs.length (encs Value.string xs)) : Apart X w1 A xs := by
  obtain ⟨_, _, hr⟩ := reads_own Value.string ByteArray.empty ho
  refine ⟨hr, fun ad e => ?_⟩
  subst e
  obtain ⟨_, h2⟩ := ho
  rcases h2 with ⟨h2, _⟩ | ⟨g, cap, cur, hv, hg, hh, _⟩
  · cases h2
  have e : ad = ⟨g, 0, none⟩ := by injection hv with e; injection e
  subst e
  have hX := h.lt
  refine ⟨lt_of_block hh, by show g ≠ X; omega, fun e => ?_⟩
  have h3 := (LK.of_below h hb).row _ e
  rcases h3 with h3 | h3
  · have := (h.rowlt _ h3).2; simp at this; omega
  · obtain ⟨A', cap', k1, k2⟩ := h
    have k3 := rowOf_at ((hb.block X (lt_of_block k1)).trans k1)
    rw [k3] at e
    have := own_lt k2 _ e
    simp at this; omega
theorem Tryd.infoBool : (Tryd.prog.info? 4).map (fun i => (i.zero, i.size, i.bytes)) = some (some (.bool false), 1, 1) := by kernel_rfl

section
variable (T : TypeId) (tr : ByteArray → ByteArray) (fa fr fc : FuncId) (M : Meth T tr fa fr fc)
include M

set_option maxRecDepth 100000 in
set_option maxHeartbeats 2000000 in
theorem listed_any (X : Nat) (Al Aa : Option Addr) (cl ca : Nat) (l : List S36) (ask : List ByteArray) (W0 w : World) (hl : Kd.C k36 W0 Al l.length l) (ha : ReadsOf Value.string ByteArray.empty W0 Aa ask.length ask)
    (hb : Below W0.heap.size W0 w) (hX : W0.heap.size ≤ X) (hX0 : 0 < X) (hls : LS T X [] w) (ht : Tab w) (hst : Steps l) (hask : ask.length ≤ 20 ∧ ∀ t ∈ ask, Word t) :
    Calls Tryd.prog 36 #[.slice Al l.length cl, .slice Aa ask.length ca, .func (.func fa) #[.pointer (some ⟨X, 0, none⟩)] #[], .func (.func fr) #[.pointer (some ⟨X, 0, none⟩)] #[], .func (.func fc) #[.pointer (some ⟨X, 0, none⟩)] #[]] w
      fun e w' => (∃ v, e = .returned v ∧ w'.ownsRow w.heap.size 4 1 v ask.length (encs Value.bool (ask.map fun t => hasB (runT tr l) (tr t)))) ∧ LK T X (runT tr l) w w' := by
  have hent := M.enterA
  have henr := M.enterR
  have henc := M.enterC
  have hs0 := LK.refl hls
  have HLS := Lib.hid hls
  have HTab := Lib.hid ht
  have HSt := Lib.hid hst
  have HAsk := Lib.hid hask
  have HC := Lib.hid hl
  have HA := Lib.hid ha
  have HB := Lib.hid hb
  have HM := Lib.hid M
  have hl20 := hst.1
  have ha20 := hask.1
  have HK := Lib.hid (run_keeps tr l hst)
  clear hls ht hst hask hl ha hb M
  go_enter Tryd.func36, Tryd.ntmps36
  go_wp2
  go_loopw [17, 12] (fun i _ wr => ∃ k : Nat, k ≤ l.length ∧ i = .int .i64 k ∧ LK T X (runT tr (l.take k)) w wr) (fun i _ _ => l.length - (intOf i).toNat)
  case atStart => exact ⟨0, Nat.zero_le _, rfl, hs0⟩
  case round =>
    clear hs0
    obtain ⟨k, hk, rfl, hv⟩ := hrel
    by_cases hlt : k < l.length
    · have hbel : Below W0.heap.size W0 wr := HB.out.trans ((LK.below HLS.out hv).mono hX)
      obtain ⟨ad, A1, c1, rfl, hc0, hc1, hc2, hc3⟩ := at_T36 (Kd.C_below HC.out hbel) (k : Int) (by omega) (by omega)
      rw [rd_step l k hlt] at hc0 hc1 hc2 hc3
      have hrd := Lib.hid (Kd.reads_of_C (d := ByteArray.empty) hc3)
      have hrun := run_take tr l k hlt
      have hkk := HK.out k (by omega)
      have hse := HSt.out.2 l[k] (List.getElem_mem hlt)
      have HSe := Lib.hid hse
      have hs20 := hse.1
      have HKK := Lib.hid hkk
      have hkl := hkk.2
      clear hbel hc3 hkk hse
      generalize runT tr (l.take k) = L at *
      unfold stepT at hrun
      generalize l[k].f0 = f0 at *
      generalize l[k].f1 = f1 at *
      have hx0 : Below wr.heap.size wr (wr.alloc (.cells #[.bool f0, .slice A1 f1.length c1] 36)) := (Below.refl _ _).alloc (Nat.le_refl _) _
      have HRd := Lib.hid (reads_under hrd.out hx0)
      have HX0 := Lib.hid hx0
      have HV := Lib.hid hv
      simp only [Int.toNat_natCast] at hc0 hc1
      clear hrd hx0 hv
      cases f0
      · have hrun2 := Lib.hid (hrun.trans (if_neg (by simp)))
        clear hrun
        go_wp2_with (at_builtin; refine wpList_append_copy Value.string ByteArray.empty (fun _ => rfl) _ rfl _ _ 23 23 9 9 rfl (.string ⟨#[]⟩) 16 Tryd.underlying23 Tryd.underlying23 Tryd.infoText rfl A1 f1.length c1 f1 rfl rfl HRd.out (by omega) (by omega) ?_; intro a1 d1 w1 hown1 hgr1)
        have hx1 := grown_below hgr1
        have hx01 := HX0.out.trans (hx1.mono HX0.out.size)
        have hv1 := HV.out.on hx01
        have hap := apart_own HV.out.ls hx01 (own_weaken hown1 HX0.out.size)
        have htab := HTab.out.below (LK.below HLS.out hv1) hX0
        have HCl := Lib.hid (HM.out.rem X L f1 a1 d1 w1 hv1.ls hap (by omega) (by omega) HKK.out.1 HSe.out.2 htab hX0)
        clear hown1 hgr1 hx1 hx01 hap htab HX0 HRd
        have HV1 := Lib.hid hv1
        clear hv1
        go_wp2_with fail
        refine HCl.out.mono ?_
        rintro e w2 ⟨rfl, hv2⟩
        have hv3 := HV1.out.trans hv2
        clear hv2 HV1 HV
        go_wp2
        go_roundw
        case rel => exact ⟨k + 1, by omega, by go_num, by rw [hrun2.out]; exact hv3⟩
        case measure => simp [intOf]; omega
      · have hrun2 := Lib.hid (hrun.trans (if_pos rfl))
        clear hrun
        go_wp2_with (at_builtin; refine wpList_append_copy Value.string ByteArray.empty (fun _ => rfl) _ rfl _ _ 23 23 9 9 rfl (.string ⟨#[]⟩) 16 Tryd.underlying23 Tryd.underlying23 Tryd.infoText rfl A1 f1.length c1 f1 rfl rfl HRd.out (by omega) (by omega) ?_; intro a1 d1 w1 hown1 hgr1)
        have hx1 := grown_below hgr1
        have hx01 := HX0.out.trans (hx1.mono HX0.out.size)
        have hv1 := HV.out.on hx01
        have hap := apart_own HV.out.ls hx01 (own_weaken hown1 HX0.out.size)
        have htab := HTab.out.below (LK.below HLS.out hv1) hX0
        have HCl := Lib.hid (HM.out.add X L f1 a1 d1 w1 hv1.ls hap (by omega) HSe.out.2 htab hX0)
        clear hown1 hgr1 hx1 hx01 hap htab HX0 HRd
        have HV1 := Lib.hid hv1
        clear hv1
        go_wp2_with fail
        refine HCl.out.mono ?_
        rintro e w2 ⟨rfl, hv2⟩
        have hv3 := HV1.out.trans hv2
        clear hv2 HV1 HV
        go_wp2
        go_roundw
        case rel => exact ⟨k + 1, by omega, by go_num, by rw [hrun2.out]; exact hv3⟩
        case measure => simp [intOf]; omega
    · obtain rfl : k = l.length := by omega
      rename World => wm
      rw [List.take_length] at hv
      have hkk := HK.out l.length (Nat.le_refl _)
      rw [List.take_length] at hkk
      have hkl := hkk.2
      have HV := Lib.hid hv
      obtain ⟨i0, hi, hz0, hz1, hz2⟩ := info_parts Tryd.infoBool
      clear hv hkk hk hlt
      generalize hLe : runT tr l = L at *
      have HLe := Lib.hid hLe
      clear hLe
      have hst : wm.ownsRow wm.heap.size 4 1 (.slice none 0 0) 0 (encs Value.bool ((ask.take 0).map fun t => hasB L (tr t))) := own_nil _ _ _ _
      go_wp2
      go_loopw [36, 14, 10] (fun i _ hs wr => ∃ k : Nat, k ≤ ask.length ∧ i = .int .i64 k ∧ wr.ownsRow wm.heap.size 4 1 hs k (encs Value.bool ((ask.take k).map fun t => hasB L (tr t))) ∧ Below wm.heap.size wm wr) (fun i _ _ _ => ask.length - (intOf i).toNat)
      case atStart => exact ⟨0, Nat.zero_le _, rfl, hst, Below.refl _ _⟩
      case round =>
        clear hst
        obtain ⟨k, hk, rfl, ho, hb⟩ := hrel
        obtain ⟨A1, c1, rfl⟩ := own_slice ho
        by_cases hlt : k < ask.length
        · have hbel : Below W0.heap.size W0 wr := (HB.out.trans ((LK.below HLS.out HV.out).mono hX)).trans (hb.mono (Nat.le_trans hX (Nat.le_of_lt HV.out.ls.lt)))
          obtain ⟨ad, hA, hcs⟩ := HA.out.2.2 (by omega)
          subst hA
          have hcell := pw_cell_below hbel (hcs k hlt)
          have hgd : ask.getD k ByteArray.empty = ask[k] := by simp [List.getD_eq_getElem?_getD, List.getElem?_eq_getElem hlt]
          rw [hgd] at hcell
          have hwd := HAsk.out.2 ask[k] (List.getElem_mem hlt)
          have hnx : encs Value.bool ((ask.take k).map fun t => hasB L (tr t)) ++ [.bool (hasB L (tr ask[k]))] = encs Value.bool ((ask.take (k + 1)).map fun t => hasB L (tr t)) := by
            rw [List.take_succ_eq_append_getElem hlt, List.map_append]
            simp [encs]
          have HNx := Lib.hid hnx
          have hln : (encs Value.bool ((ask.take k).map fun t => hasB L (tr t))).length = k := by simp [encs]; omega
          have htab := (HTab.out.below (LK.below HLS.out HV.out) hX0).below hb (by have := HV.out.ls.lt; omega)
          have HC2 := Lib.hid (HM.out.has X L ask[k] wr (HV.out.ls.below hb) (by omega) hwd htab)
          have HO := Lib.hid ho
          have HBq := Lib.hid hb
          clear hbel hcs hgd hwd hnx htab ho hb
          generalize encs Value.bool ((ask.take k).map fun t => hasB L (tr t)) = ys at *
          generalize hasB L (tr ask[k]) = q at *
          generalize ask[k] = t at *
          go_wp2_with fail
          refine HC2.out.mono ?_
          rintro e w5 ⟨rfl, hb5⟩
          have ho5 := own_below HO.out hb5
          have hb05 := HBq.out.trans (hb5.mono HBq.out.size)
          have HB05 := Lib.hid hb05
          have hs5 := hb05.size
          clear HC2 HO HBq hb5 hb05
          go_wp2_with (at_builtin; refine wpList_append_own _ rfl _ _ 38 rfl wm.heap.size 4 i0 (.bool false) 1 1 Tryd.underlying38 hi hz0 hz1 hz2 rfl (by decide) (.slice A1 k c1) k ys rfl (ho5.alloc _) ⟨w5.heap.size, 0, none⟩ 1 1 [.bool q] rfl rfl ?c1 ?c2 ?c3 ?c4 ?c5 ?_)
          case c1 => exact cell_one_new _ _ _
          case c2 => intro u hu; simp at hu; subst hu; rfl
          case c3 => unfold maxLen; omega
          case c4 => omega
          case c5 => simp; omega
          intro v' w6 hown' hg hnn
          have hb6 := (HB05.out.alloc hs5 (.cells #[.bool q] 4)).grown hg (by simp; omega) (fun k hk => own_base ho5 k hk)
          obtain ⟨g, cap', hv', _, _⟩ := hown'.form (by omega)
          subst hv'
          rw [HNx.out] at hown'
          have HO6 := Lib.hid hown'
          have HB6 := Lib.hid hb6
          clear hown' hb6 hg hnn ho5 HB05
          go_wp2
          go_roundw
          case rel => exact ⟨k + 1, by omega, by go_num, HO6.out, HB6.out⟩
          case measure => simp [intOf]; omega
        · obtain rfl : k = ask.length := by omega
          rw [List.take_length] at ho
          have HO := Lib.hid (own_weaken ho HV.out.size)
          have HBq := Lib.hid hb
          clear ho hb hk hlt
          go_wp2
          go_ret
          exact ⟨⟨_, rfl, by rw [HLe.out]; exact HO.out⟩, by rw [HLe.out]; exact HV.out.on HBq.out⟩
end
end Go.Proofs.YtnbihmagbedfmaaDoorR
/- impl.List$1, kind by kind. -/
namespace Go.Proofs.YtnbihmagbedfmaaDoorR
open Go.RowKit Go.Proofs.YtnbihmagbedfmaaDoorRW.PrintWords
open PzzFits1 (S36 z36 k36 rd_T36 at_T36)

theorem LS.far {T : TypeId} {X : Nat} {L : List ByteArray} {w : World} (h : LS T X L w) (p : Addr) (hp : p.block < X) (u : Value) : LS T X L (w.setCell p u) := by
  obtain ⟨A, cap, h1, h2⟩ := h
  exact ⟨A, cap, (Below.heap_setCell _ _ _ _ (by omega)).trans h1, ownsRow_setCell_below h2 (by omega) u⟩
theorem LS.fresh (T : TypeId) (w : World) : LS T w.heap.size [] (w.alloc (.cells #[.slice none 0 0] T)) := ⟨none, 0, heap_alloc_new _ _, own_nil _ _ _ _⟩

/-- What impl.List's function leaves: in block n + 3 the texts, in block n + 4 the answers. -/
structure Left (n : Nat) (L : List ByteArray) (bs : List Bool) (w w' : World) : Prop where
  vals : ∃ A c, w'.heap[n + 3]? = some (.cells #[.slice A L.length c] 23 (0, 0)) ∧ w'.ownsRow w.heap.size 9 1 (.slice A L.length c) L.length (encs Value.string L)
  has : ∃ A c, w'.heap[n + 4]? = some (.cells #[.slice A bs.length c] 38 (0, 0)) ∧ w'.ownsRow w.heap.size 4 1 (.slice A bs.length c) bs.length (encs Value.bool bs)
  size : w.heap.size ≤ w'.heap.size
  os : w'.os = w.os
  tape : w'.tape = w.tape
  output : w'.output = w.output
  kept : ∀ k, k < w.heap.size → k ≠ n + 3 → k ≠ n + 4 → w'.heap[k]? = w.heap[k]?

set_option maxRecDepth 100000 in
set_option maxHeartbeats 2000000 in
theorem list0_any (n : Nat) (Al Aa : Option Addr) (cl ca : Nat) (l : List S36) (ask : List ByteArray) (W0 w : World) (hl : Kd.C k36 W0 Al l.length l) (ha : ReadsOf Value.string ByteArray.empty W0 Aa ask.length ask)
    (hb : Below W0.heap.size W0 w) (ht : Tab w) (hst : Steps l) (hask : ask.length ≤ 20 ∧ ∀ t ∈ ask, Word t)
    (g0 : w.heap[n]? = some (.cells #[.int .i64 0] 3 (0, 0))) (g1 : w.heap[n + 1]? = some (.cells #[.slice Al l.length cl] 33 (0, 0))) (g2 : w.heap[n + 2]? = some (.cells #[.slice Aa ask.length ca] 23 (0, 0)))
    (g3 : w.heap[n + 3]? = some (.cells #[.slice none 0 0] 23 (0, 0))) (g4 : w.heap[n + 4]? = some (.cells #[.slice none 0 0] 38 (0, 0))) :
    Calls Tryd.prog 35 #[.pointer (some ⟨n, 0, none⟩), .pointer (some ⟨n + 1, 0, none⟩), .pointer (some ⟨n + 2, 0, none⟩), .pointer (some ⟨n + 4, 0, none⟩), .pointer (some ⟨n + 3, 0, none⟩)] w
      fun e w' => e = .returned (.tuple #[]) ∧ Left n (runT id l) (ask.map fun t => hasB (runT id l) (id t)) w w' := by
  have hmf : ∀ (fn : Fn) (first cap : Array Value) (w : World), (Instr.makeFunc fn first cap).run Tryd.prog w = .ok (.func fn first cap) w := fun _ _ _ _ => rfl
  have hsz : W0.heap.size ≤ w.heap.size := hb.size
  have l4 := lt_of_block g4
  have hx : Below w.heap.size w (w.alloc (.cells #[.slice none 0 0] 59)) := (Below.refl _ _).alloc (Nat.le_refl _) _
  have hx0 : 0 < w.heap.size := by omega
  have HCl := Lib.hid (listed_any 59 id _ _ _ meth_list w.heap.size Al Aa cl ca l ask W0 (w.alloc (.cells #[.slice none 0 0] 59)) hl ha (hb.trans (hx.mono hsz)) hsz hx0 (LS.fresh _ w) (ht.below hx hx0) hst hask)
  have hlen := (run_keeps id l hst l.length (Nat.le_refl _)).2
  rw [List.take_length] at hlen
  have h20 := hst.1
  have c0 := cell_of_one g0
  have c1 := cell_of_one g1
  have c2 := cell_of_one g2
  have e1 := cell_of_one ((hx.block _ (lt_of_block g1)).trans g1)
  have e2 := cell_of_one ((hx.block _ (lt_of_block g2)).trans g2)
  have G3 := Lib.hid g3
  have G4 := Lib.hid g4
  have HX := Lib.hid hx
  clear hl ha hb ht hst hask g0 g1 g2 g3 g4 hx
  go_enter Tryd.func35, Tryd.ntmps35
  go_wp2_with fail
  refine HCl.out.mono ?_
  rintro e w2 ⟨⟨v, rfl, ho⟩, hk⟩
  obtain ⟨Ah, ch, rfl⟩ := own_slice ho
  generalize hLe : runT id l = L at *
  generalize hBs : (ask.map fun t => hasB L (id t)) = bs at *
  have hbl : bs.length = ask.length := by rw [← hBs]; simp
  have HLe := Lib.hid hLe
  have HBs := Lib.hid hBs
  have hbw : Below w.heap.size w w2 := HX.out.trans (LK.below (LS.fresh _ w) hk)
  have k4 := (hbw.block _ l4).trans G4.out
  have d4 := cell_of_one k4
  have f4 := free_of_one k4
  have K4 := Lib.hid k4
  have HK := Lib.hid hk
  have HO := Lib.hid ho
  have HBW := Lib.hid hbw
  clear hLe hBs HCl ho hk hbw k4 c0 c1 c2 e1 e2
  obtain ⟨Ax, cx, x1, x2⟩ := HK.out.ls
  have cx1 := cell_of_one x1
  have x3 : (w2.setCell ⟨n + 4, 0, none⟩ (.slice Ah ask.length ch)).ownsRow (w.heap.size + 1) 9 1 (.slice Ax L.length cx) L.length (encs Value.string L) := ownsRow_setCell_below x2 (by show n + 4 < _; omega) _
  obtain ⟨_, _, hrd⟩ := reads_own Value.string ByteArray.empty x3
  have cx3 : (w2.setCell ⟨n + 4, 0, none⟩ (.slice Ah ask.length ch)).cell? ⟨w.heap.size, 0, none⟩ = some (.slice Ax L.length cx) := cell_of_one ((Below.heap_setCell _ _ _ _ (by show w.heap.size ≠ n + 4; omega)).trans x1)
  have HRd := Lib.hid hrd
  clear hrd x1 x2 x3
  have hs3 : (w2.setCell ⟨n + 4, 0, none⟩ (.slice Ah ask.length ch)).heap.size = w2.heap.size := by simp [World.setCell]
  have hs2 : w.heap.size ≤ w2.heap.size := HBW.out.size
  have l3 : n + 3 < w.heap.size := by omega
  have k3 : Hid ((w2.setCell ⟨n + 4, 0, none⟩ (.slice Ah ask.length ch)).heap[n + 3]? = some (.cells #[.slice none 0 0] 23 (0, 0))) := by
    show _ = _
    rw [Below.heap_setCell _ _ _ _ (by show n + 3 ≠ n + 4; omega)]
    exact (HBW.out.block _ l3).trans G3.out
  have HS3 := Lib.hid hs3
  clear hs3
  go_wp2_with (at_builtin; refine wpList_append_copy Value.string ByteArray.empty (fun _ => rfl) _ rfl _ _ 23 59 9 9 rfl (.string ⟨#[]⟩) 16 Tryd.underlying23 Tryd.underlying59 Tryd.infoText rfl Ax L.length cx L rfl rfl HRd.out (by omega) (by omega) ?_; intro a1 d1 w4 hown4 hgr4; have hb4 := grown_below hgr4; have k34 := (hb4.block (n + 3) (by rw [HS3.out]; omega)).trans k3.out; have d34 := cell_of_one k34; have f34 := free_of_one k34; have HB4 := Lib.hid hb4; have HO4 := Lib.hid hown4; have K34 := Lib.hid k34; clear hgr4 hb4 hown4 k34)
  go_end0
  have hk44 : w4.heap[n + 4]? = some (.cells #[.slice Ah ask.length ch] 38 (0, 0)) := (HB4.out.block (n + 4) (by rw [HS3.out]; omega)).trans (one_setCell K4.out)
  have ho44 := own_below (ownsRow_setCell_below (own_weaken HO.out HX.out.size) (by show n + 4 < _; exact l4) (.slice Ah ask.length ch) (a := ⟨n + 4, 0, none⟩)) HB4.out
  refine ⟨rfl, ?_⟩
  rw [HLe.out, HBs.out]
  refine ⟨⟨a1, d1, one_setCell K34.out, ownsRow_setCell_below (own_weaken HO4.out (by rw [HS3.out]; exact hs2)) (by show n + 3 < _; exact l3) _⟩, ⟨Ah, ch, ?_, ?_⟩, ?_, HB4.out.os.trans HBW.out.os, HB4.out.tape.trans HBW.out.tape, HB4.out.output.trans HBW.out.output, fun k hk h3 h4 => ?_⟩
  · rw [Below.heap_setCell _ _ _ _ (by show n + 4 ≠ n + 3; omega), hbl]; exact hk44
  · rw [hbl]; exact ownsRow_setCell_below ho44 (by show n + 3 < _; exact l3) _
  · have h5 := HB4.out.size
    rw [HS3.out] at h5
    simp only [World.setCell, Array.size_modify] at h5 ⊢
    omega
  · rw [Below.heap_setCell _ _ _ _ (by exact h3), HB4.out.block k (by rw [HS3.out]; omega), Below.heap_setCell _ _ _ _ (by exact h4)]
    exact HBW.out.block k hk

set_option maxRecDepth 100000 in
set_option maxHeartbeats 2000000 in
theorem list1_any (n : Nat) (Al Aa : Option Addr) (cl ca : Nat) (l : List S36) (ask : List ByteArray) (W0 w : World) (hl : Kd.C k36 W0 Al l.length l) (ha : ReadsOf Value.string ByteArray.empty W0 Aa ask.length ask)
    (hb : Below W0.heap.size W0 w) (ht : Tab w) (hst : Steps l) (hask : ask.length ≤ 20 ∧ ∀ t ∈ ask, Word t)
    (g0 : w.heap[n]? = some (.cells #[.int .i64 1] 3 (0, 0))) (g1 : w.heap[n + 1]? = some (.cells #[.slice Al l.length cl] 33 (0, 0))) (g2 : w.heap[n + 2]? = some (.cells #[.slice Aa ask.length ca] 23 (0, 0)))
    (g3 : w.heap[n + 3]? = some (.cells #[.slice none 0 0] 23 (0, 0))) (g4 : w.heap[n + 4]? = some (.cells #[.slice none 0 0] 38 (0, 0))) :
    Calls Tryd.prog 35 #[.pointer (some ⟨n, 0, none⟩), .pointer (some ⟨n + 1, 0, none⟩), .pointer (some ⟨n + 2, 0, none⟩), .pointer (some ⟨n + 4, 0, none⟩), .pointer (some ⟨n + 3, 0, none⟩)] w
      fun e w' => e = .returned (.tuple #[]) ∧ Left n (runT smallT l) (ask.map fun t => hasB (runT smallT l) (smallT t)) w w' := by
  have hmf : ∀ (fn : Fn) (first cap : Array Value) (w : World), (Instr.makeFunc fn first cap).run Tryd.prog w = .ok (.func fn first cap) w := fun _ _ _ _ => rfl
  have hsz : W0.heap.size ≤ w.heap.size := hb.size
  have l4 := lt_of_block g4
  have hx : Below w.heap.size w (w.alloc (.cells #[.slice none 0 0] 62)) := (Below.refl _ _).alloc (Nat.le_refl _) _
  have hx0 : 0 < w.heap.size := by omega
  have HCl := Lib.hid (listed_any 62 smallT _ _ _ meth_tags w.heap.size Al Aa cl ca l ask W0 (w.alloc (.cells #[.slice none 0 0] 62)) hl ha (hb.trans (hx.mono hsz)) hsz hx0 (LS.fresh _ w) (ht.below hx hx0) hst hask)
  have hlen := (run_keeps smallT l hst l.length (Nat.le_refl _)).2
  rw [List.take_length] at hlen
  have h20 := hst.1
  have c0 := cell_of_one g0
  have c1 := cell_of_one g1
  have c2 := cell_of_one g2
  have e1 := cell_of_one ((hx.block _ (lt_of_block g1)).trans g1)
  have e2 := cell_of_one ((hx.block _ (lt_of_block g2)).trans g2)
  have G3 := Lib.hid g3
  have G4 := Lib.hid g4
  have HX := Lib.hid hx
  clear hl ha hb ht hst hask g0 g1 g2 g3 g4 hx
  go_enter Tryd.func35, Tryd.ntmps35
  go_wp2_with fail
  refine HCl.out.mono ?_
  rintro e w2 ⟨⟨v, rfl, ho⟩, hk⟩
  obtain ⟨Ah, ch, rfl⟩ := own_slice ho
  generalize hLe : runT smallT l = L at *
  generalize hBs : (ask.map fun t => hasB L (smallT t)) = bs at *
  have hbl : bs.length = ask.length := by rw [← hBs]; simp
  have HLe := Lib.hid hLe
  have HBs := Lib.hid hBs
  have hbw : Below w.heap.size w w2 := HX.out.trans (LK.below (LS.fresh _ w) hk)
  have k4 := (hbw.block _ l4).trans G4.out
  have d4 := cell_of_one k4
  have f4 := free_of_one k4
  have K4 := Lib.hid k4
  have HK := Lib.hid hk
  have HO := Lib.hid ho
  have HBW := Lib.hid hbw
  clear hLe hBs HCl ho hk hbw k4 c0 c1 c2 e1 e2
  obtain ⟨Ax, cx, x1, x2⟩ := HK.out.ls
  have cx1 := cell_of_one x1
  have x3 : (w2.setCell ⟨n + 4, 0, none⟩ (.slice Ah ask.length ch)).ownsRow (w.heap.size + 1) 9 1 (.slice Ax L.length cx) L.length (encs Value.string L) := ownsRow_setCell_below x2 (by show n + 4 < _; omega) _
  obtain ⟨_, _, hrd⟩ := reads_own Value.string ByteArray.empty x3
  have cx3 : (w2.setCell ⟨n + 4, 0, none⟩ (.slice Ah ask.length ch)).cell? ⟨w.heap.size, 0, none⟩ = some (.slice Ax L.length cx) := cell_of_one ((Below.heap_setCell _ _ _ _ (by show w.heap.size ≠ n + 4; omega)).trans x1)
  have HRd := Lib.hid hrd
  clear hrd x1 x2 x3
  have hs3 : (w2.setCell ⟨n + 4, 0, none⟩ (.slice Ah ask.length ch)).heap.size = w2.heap.size := by simp [World.setCell]
  have hs2 : w.heap.size ≤ w2.heap.size := HBW.out.size
  have l3 : n + 3 < w.heap.size := by omega
  have k3 : Hid ((w2.setCell ⟨n + 4, 0, none⟩ (.slice Ah ask.length ch)).heap[n + 3]? = some (.cells #[.slice none 0 0] 23 (0, 0))) := by
    show _ = _
    rw [Below.heap_setCell _ _ _ _ (by show n + 3 ≠ n + 4; omega)]
    exact (HBW.out.block _ l3).trans G3.out
  have HS3 := Lib.hid hs3
  clear hs3
  go_wp2_with (at_builtin; refine wpList_append_copy Value.string ByteArray.empty (fun _ => rfl) _ rfl _ _ 23 62 9 9 rfl (.string ⟨#[]⟩) 16 Tryd.underlying23 Tryd.underlying62 Tryd.infoText rfl Ax L.length cx L rfl rfl HRd.out (by omega) (by omega) ?_; intro a1 d1 w4 hown4 hgr4; have hb4 := grown_below hgr4; have k34 := (hb4.block (n + 3) (by rw [HS3.out]; omega)).trans k3.out; have d34 := cell_of_one k34; have f34 := free_of_one k34; have HB4 := Lib.hid hb4; have HO4 := Lib.hid hown4; have K34 := Lib.hid k34; clear hgr4 hb4 hown4 k34)
  go_end0
  have hk44 : w4.heap[n + 4]? = some (.cells #[.slice Ah ask.length ch] 38 (0, 0)) := (HB4.out.block (n + 4) (by rw [HS3.out]; omega)).trans (one_setCell K4.out)
  have ho44 := own_below (ownsRow_setCell_below (own_weaken HO.out HX.out.size) (by show n + 4 < _; exact l4) (.slice Ah ask.length ch) (a := ⟨n + 4, 0, none⟩)) HB4.out
  refine ⟨rfl, ?_⟩
  rw [HLe.out, HBs.out]
  refine ⟨⟨a1, d1, one_setCell K34.out, ownsRow_setCell_below (own_weaken HO4.out (by rw [HS3.out]; exact hs2)) (by show n + 3 < _; exact l3) _⟩, ⟨Ah, ch, ?_, ?_⟩, ?_, HB4.out.os.trans HBW.out.os, HB4.out.tape.trans HBW.out.tape, HB4.out.output.trans HBW.out.output, fun k hk h3 h4 => ?_⟩
  · rw [Below.heap_setCell _ _ _ _ (by show n + 4 ≠ n + 3; omega), hbl]; exact hk44
  · rw [hbl]; exact ownsRow_setCell_below ho44 (by show n + 3 < _; exact l3) _
  · have h5 := HB4.out.size
    rw [HS3.out] at h5
    simp only [World.setCell, Array.size_modify] at h5 ⊢
    omega
  · rw [Below.heap_setCell _ _ _ _ (by exact h3), HB4.out.block k (by rw [HS3.out]; omega), Below.heap_setCell _ _ _ _ (by exact h4)]
    exact HBW.out.block k hk
end Go.Proofs.YtnbihmagbedfmaaDoorR
/- impl.List. -/
namespace Go.Proofs.YtnbihmagbedfmaaDoorR
open Go.RowKit Go.Proofs.YtnbihmagbedfmaaDoorRW.PrintWords
open PzzFits1 (S36 z36 k36 rd_T36 at_T36)

theorem own_drew {w : World} {base n : Nat} {e : TypeId} {v : Value} {xs : List Value} (h : w.ownsRow base e 1 v n xs) : w.drew.ownsRow base e 1 v n xs := own_move h fun _ _ => rfl
/-- The law's 'turned'. -/
def turnOf (kind : Int) : ByteArray → ByteArray := if kind = 1 then smallT else id

theorem listc_any (kind : Int) (hkind : kind = 0 ∨ kind = 1) (n : Nat) (Al Aa : Option Addr) (cl ca : Nat) (l : List S36) (ask : List ByteArray) (W0 w : World) (hl : Kd.C k36 W0 Al l.length l) (ha : ReadsOf Value.string ByteArray.empty W0 Aa ask.length ask)
    (hb : Below W0.heap.size W0 w) (ht : Tab w) (hst : Steps l) (hask : ask.length ≤ 20 ∧ ∀ t ∈ ask, Word t)
    (g0 : w.heap[n]? = some (.cells #[.int .i64 kind] 3 (0, 0))) (g1 : w.heap[n + 1]? = some (.cells #[.slice Al l.length cl] 33 (0, 0))) (g2 : w.heap[n + 2]? = some (.cells #[.slice Aa ask.length ca] 23 (0, 0)))
    (g3 : w.heap[n + 3]? = some (.cells #[.slice none 0 0] 23 (0, 0))) (g4 : w.heap[n + 4]? = some (.cells #[.slice none 0 0] 38 (0, 0))) :
    Calls Tryd.prog 35 #[.pointer (some ⟨n, 0, none⟩), .pointer (some ⟨n + 1, 0, none⟩), .pointer (some ⟨n + 2, 0, none⟩), .pointer (some ⟨n + 4, 0, none⟩), .pointer (some ⟨n + 3, 0, none⟩)] w
      fun e w' => e = .returned (.tuple #[]) ∧ Left n (runT (turnOf kind) l) (ask.map fun t => hasB (runT (turnOf kind) l) (turnOf kind t)) w w' := by
  rcases hkind with rfl | rfl
  · exact list0_any n Al Aa cl ca l ask W0 w hl ha hb ht hst hask g0 g1 g2 g3 g4
  · exact list1_any n Al Aa cl ca l ask W0 w hl ha hb ht hst hask g0 g1 g2 g3 g4

set_option maxRecDepth 100000 in
set_option maxHeartbeats 1000000 in
theorem list_any (kind : Int) (hkind : kind = 0 ∨ kind = 1) (Al Aa : Option Addr) (cl ca : Nat) (l : List S36) (ask : List ByteArray) (w : World) (hl : Kd.C k36 w Al l.length l) (ha : ReadsOf Value.string ByteArray.empty w Aa ask.length ask)
    (ht : Tab w) (h0 : 0 < w.heap.size) (hst : Steps l) (hask : ask.length ≤ 20 ∧ ∀ t ∈ ask, Word t) :
    Calls Tryd.prog 22 #[.int .i64 kind, .slice Al l.length cl, .slice Aa ask.length ca] w fun e w' =>
      (∃ A1 c1 A2 c2, e = .returned (.tuple #[.slice A1 (runT (turnOf kind) l).length c1, .slice A2 ask.length c2]) ∧ w'.ownsRow w.heap.size 9 1 (.slice A1 (runT (turnOf kind) l).length c1) (runT (turnOf kind) l).length (encs Value.string (runT (turnOf kind) l)) ∧
        w'.ownsRow w.heap.size 4 1 (.slice A2 ask.length c2) ask.length (encs Value.bool (ask.map fun t => hasB (runT (turnOf kind) l) (turnOf kind t)))) ∧ Below w.heap.size w w' := by
  have hmf : ∀ (fn : Fn) (first cap : Array Value) (w : World), (Instr.makeFunc fn first cap).run Tryd.prog w = .ok (.func fn first cap) w := fun _ _ _ _ => rfl
  obtain ⟨w2, hw2⟩ : ∃ w2 : World, w2 = ((((w.alloc (.cells #[.int .i64 kind] 3)).alloc (.cells #[.slice Al l.length cl] 33)).alloc (.cells #[.slice Aa ask.length ca] 23)).alloc (.cells #[.slice none 0 0] 23)).alloc (.cells #[.slice none 0 0] 38) := ⟨_, rfl⟩
  have hs2 : w2.heap.size = w.heap.size + 5 := by rw [hw2]; simp
  have hb2 : Below w.heap.size w w2 := by
    rw [hw2]; exact (((((Below.refl _ _).alloc (Nat.le_refl _) _).alloc (by simp) _).alloc (by simp <;> omega) _).alloc (by simp <;> omega) _).alloc (by simp <;> omega) _
  have g0 : w2.heap[w.heap.size]? = some (.cells #[.int .i64 kind] 3 (0, 0)) := by
    rw [hw2]; exact (Below.heap_alloc _ _ _ (by simp <;> omega)).trans ((Below.heap_alloc _ _ _ (by simp <;> omega)).trans ((Below.heap_alloc _ _ _ (by simp <;> omega)).trans ((Below.heap_alloc _ _ _ (by simp)).trans (heap_alloc_new w _))))
  have g1 : w2.heap[w.heap.size + 1]? = some (.cells #[.slice Al l.length cl] 33 (0, 0)) := by
    rw [hw2]; refine (Below.heap_alloc _ _ _ (by simp <;> omega)).trans ((Below.heap_alloc _ _ _ (by simp <;> omega)).trans ((Below.heap_alloc _ _ _ (by simp)).trans ?_))
    simpa using heap_alloc_new (w.alloc (.cells #[.int .i64 kind] 3)) (.cells #[.slice Al l.length cl] 33)
  have g2 : w2.heap[w.heap.size + 2]? = some (.cells #[.slice Aa ask.length ca] 23 (0, 0)) := by
    rw [hw2]; refine (Below.heap_alloc _ _ _ (by simp <;> omega)).trans ((Below.heap_alloc _ _ _ (by simp)).trans ?_)
    simpa using heap_alloc_new ((w.alloc (.cells #[.int .i64 kind] 3)).alloc (.cells #[.slice Al l.length cl] 33)) (.cells #[.slice Aa ask.length ca] 23)
  have g3 : w2.heap[w.heap.size + 3]? = some (.cells #[.slice none 0 0] 23 (0, 0)) := by
    rw [hw2]; refine (Below.heap_alloc _ _ _ (by simp)).trans ?_
    simpa using heap_alloc_new (((w.alloc (.cells #[.int .i64 kind] 3)).alloc (.cells #[.slice Al l.length cl] 33)).alloc (.cells #[.slice Aa ask.length ca] 23)) (.cells #[.slice none 0 0] 23)
  have g4 : w2.heap[w.heap.size + 4]? = some (.cells #[.slice none 0 0] 38 (0, 0)) := by
    rw [hw2]
    simpa using heap_alloc_new ((((w.alloc (.cells #[.int .i64 kind] 3)).alloc (.cells #[.slice Al l.length cl] 33)).alloc (.cells #[.slice Aa ask.length ca] 23)).alloc (.cells #[.slice none 0 0] 23)) (.cells #[.slice none 0 0] 38)
  have hold : ∀ k, k < w2.heap.size → (w2.alloc (.cells #[.bool false] 4)).heap[k]? = w2.heap[k]? := fun k hk => Below.heap_alloc _ _ _ hk
  have hb3 : Below w.heap.size w (w2.alloc (.cells #[.bool false] 4)) := hb2.alloc hb2.size _
  have h1 := listc_any kind hkind w.heap.size Al Aa cl ca l ask w (w2.alloc (.cells #[.bool false] 4)) hl ha hb3 (ht.below hb3 h0) hst hask ((hold _ (by omega)).trans g0) ((hold _ (by omega)).trans g1) ((hold _ (by omega)).trans g2) ((hold _ (by omega)).trans g3) ((hold _ (by omega)).trans g4)
  have hbl : (ask.map fun t => hasB (runT (turnOf kind) l) (turnOf kind t)).length = ask.length := by simp
  generalize hLe : runT (turnOf kind) l = L at *
  generalize hBs : (ask.map fun t => hasB L (turnOf kind t)) = bs at *
  have hq := quiet_any 35 #[.pointer (some ⟨w.heap.size, 0, none⟩), .pointer (some ⟨w.heap.size + 1, 0, none⟩), .pointer (some ⟨w.heap.size + 2, 0, none⟩), .pointer (some ⟨w.heap.size + 4, 0, none⟩), .pointer (some ⟨w.heap.size + 3, 0, none⟩)] w2
    (fun w' => Below w.heap.size w w' ∧ Left w.heap.size L bs (w2.alloc (.cells #[.bool false] 4)) w') (fun W => by simp [go_sem])
    (h1.mono fun e w' ⟨he, hh⟩ => ⟨he, (hh.kept _ (by simp) (by omega) (by omega)).trans (heap_alloc_new _ _), hb2.trans ⟨hh.os, hh.tape, hh.output, by have := hh.size; simp at this; omega, fun i hi => (hh.kept i (by simp; omega) (by omega) (by omega)).trans (hold i (by omega))⟩, hh⟩)
  have HQ := Lib.hid hq
  clear hq h1 hold g0 g1 g2 g3 g4 hb2 hb3 hl ha ht hst hask
  have HS := Lib.hid hs2
  have HLe := Lib.hid hLe
  have HBs := Lib.hid hBs
  clear hs2 hLe hBs
  go_enter Tryd.func22, Tryd.ntmps22
  go_wp2_with fail
  rw [← hw2]
  refine HQ.out.mono ?_
  rintro e w3 ⟨rfl, w1, h1, ⟨h2, h3⟩, hw3⟩
  have hb3 : Below w.heap.size w w3 := by rw [hw3]; exact h2.setCell (p := ⟨w2.heap.size, 0, none⟩) (by show w.heap.size ≤ w2.heap.size; have := HS.out; omega) _
  obtain ⟨A1, c1, v1, v2⟩ := h3.vals
  obtain ⟨A2, c2, a1, a2⟩ := h3.has
  have hsz := HS.out
  have k1 : w3.heap[w.heap.size + 3]? = some (.cells #[.slice A1 L.length c1] 23 (0, 0)) := by
    rw [hw3, Below.heap_setCell _ _ _ _ (by show w.heap.size + 3 ≠ w2.heap.size; omega)]; exact v1
  have k2 : w3.heap[w.heap.size + 4]? = some (.cells #[.slice A2 bs.length c2] 38 (0, 0)) := by
    rw [hw3, Below.heap_setCell _ _ _ _ (by show w.heap.size + 4 ≠ w2.heap.size; omega)]; exact a1
  have o1 : w3.ownsRow (w2.heap.size + 1) 9 1 (.slice A1 L.length c1) L.length (encs Value.string L) := by
    rw [hw3]; exact ownsRow_setCell_below (by simpa using v2) (by show w2.heap.size < _; omega) _
  have o2 : w3.ownsRow (w2.heap.size + 1) 4 1 (.slice A2 bs.length c2) bs.length (encs Value.bool bs) := by
    rw [hw3]; exact ownsRow_setCell_below (by simpa using a2) (by show w2.heap.size < _; omega) _
  have d1 := cell_of_one k1
  have d2 := cell_of_one k2
  have f1 := free_of_one k1
  have f2 := free_of_one k2
  have K1 := Lib.hid k1
  have K2 := Lib.hid k2
  have O1 := Lib.hid o1
  have O2 := Lib.hid o2
  have HB3 := Lib.hid hb3
  have d1' : w3.cell? ⟨w.heap.size + 1 + 1 + 1, 0, none⟩ = some (.slice A1 L.length c1) := d1
  have d2' : w3.cell? ⟨w.heap.size + 1 + 1 + 1 + 1, 0, none⟩ = some (.slice A2 bs.length c2) := d2
  have f1' : w3.frozen? ⟨w.heap.size + 1 + 1 + 1, 0, none⟩ = false := f1
  have f2' : w3.frozen? ⟨w.heap.size + 1 + 1 + 1 + 1, 0, none⟩ = false := f2
  clear hw3 h1 h2 h3 HQ hw2 v1 v2 a1 a2 k1 k2 o1 o2 hb3 hsz d1 d2 f1 f2
  go_wp2
  go_region
  go_wp2
  have q1 : ((w3.setCell ⟨w.heap.size + 1 + 1 + 1, 0, none⟩ (.slice A1 L.length c1)).setCell ⟨w.heap.size + 1 + 1 + 1 + 1, 0, none⟩ (.slice A2 ask.length c2)).cell? ⟨w.heap.size + 1 + 1 + 1, 0, none⟩ = some (.slice A1 L.length c1) :=
    cell_of_one ((Below.heap_setCell _ _ _ _ (by show w.heap.size + 3 ≠ w.heap.size + 4; omega)).trans (one_setCell K1.out))
  have q2 : ((w3.setCell ⟨w.heap.size + 1 + 1 + 1, 0, none⟩ (.slice A1 L.length c1)).setCell ⟨w.heap.size + 1 + 1 + 1 + 1, 0, none⟩ (.slice A2 ask.length c2)).cell? ⟨w.heap.size + 1 + 1 + 1 + 1, 0, none⟩ = some (.slice A2 ask.length c2) :=
    cell_of_one (one_setCell ((Below.heap_setCell _ _ _ _ (by show w.heap.size + 4 ≠ w.heap.size + 3; omega)).trans K2.out))
  have o1 := O1.out
  have o2 := O2.out
  have hsz := HS.out
  rw [hbl] at o2
  have hfin : Below w.heap.size w (((w3.setCell ⟨w.heap.size + 1 + 1 + 1, 0, none⟩ (.slice A1 L.length c1)).setCell ⟨w.heap.size + 1 + 1 + 1 + 1, 0, none⟩ (.slice A2 ask.length c2)).drew) :=
    ((HB3.out.setCell (p := ⟨w.heap.size + 1 + 1 + 1, 0, none⟩) (by show w.heap.size ≤ w.heap.size + 3; omega) _).setCell (p := ⟨w.heap.size + 1 + 1 + 1 + 1, 0, none⟩) (by show w.heap.size ≤ w.heap.size + 4; omega) _).drew
  have p1 := own_drew (ownsRow_setCell_below (ownsRow_setCell_below o1 (a := ⟨w.heap.size + 1 + 1 + 1, 0, none⟩) (by show w.heap.size + 3 < _; omega) (.slice A1 L.length c1)) (a := ⟨w.heap.size + 1 + 1 + 1 + 1, 0, none⟩) (by show w.heap.size + 4 < _; omega) (.slice A2 ask.length c2))
  have p2 := own_drew (ownsRow_setCell_below (ownsRow_setCell_below o2 (a := ⟨w.heap.size + 1 + 1 + 1, 0, none⟩) (by show w.heap.size + 3 < _; omega) (.slice A1 L.length c1)) (a := ⟨w.heap.size + 1 + 1 + 1 + 1, 0, none⟩) (by show w.heap.size + 4 < _; omega) (.slice A2 ask.length c2))
  have q3 : (((w3.setCell ⟨w.heap.size + 1 + 1 + 1, 0, none⟩ (.slice A1 L.length c1)).setCell ⟨w.heap.size + 1 + 1 + 1 + 1, 0, none⟩ (.slice A2 ask.length c2)).drew).cell? ⟨w.heap.size + 1 + 1 + 1, 0, none⟩ = some (.slice A1 L.length c1) := q1
  have q4 : (((w3.setCell ⟨w.heap.size + 1 + 1 + 1, 0, none⟩ (.slice A1 L.length c1)).setCell ⟨w.heap.size + 1 + 1 + 1 + 1, 0, none⟩ (.slice A2 ask.length c2)).drew).cell? ⟨w.heap.size + 1 + 1 + 1 + 1, 0, none⟩ = some (.slice A2 ask.length c2) := q2
  clear q1 q2
  generalize ((w3.setCell ⟨w.heap.size + 1 + 1 + 1, 0, none⟩ (.slice A1 L.length c1)).setCell ⟨w.heap.size + 1 + 1 + 1 + 1, 0, none⟩ (.slice A2 ask.length c2)).drew = W4 at *
  refine bodyPost_ret (v := .tuple #[.slice A1 L.length c1, .slice A2 ask.length c2]) ?_ rfl ⟨⟨A1, c1, A2, c2, rfl, own_weaken p1 (by omega), own_weaken p2 (by omega)⟩, hfin⟩
  simp [results, Tryd.results22, go_sem, q3, q4]
end Go.Proofs.YtnbihmagbedfmaaDoorR
/- spec.Has, Removed, Same, Added, laws.zzFits1 and the law's 'turned', in lists. -/
namespace Go.Proofs.YtnbihmagbedfmaaDoorR
open Go.RowKit Go.Proofs.YtnbihmagbedfmaaDoorRW.PrintWords
open PzzFits1 (S36 z36 k36 rd_T36 at_T36)

theorem eqB_prop {t p : ByteArray} : (t.toList = p.toList) ↔ eqB t p = true := by unfold eqB; rw [beq_iff_eq]
theorem rd_b (x : List ByteArray) (i : Nat) (h : i < x.length) : rdOf ByteArray.empty x (i : Int) = x[i] := by simp [rdOf, List.getD_eq_getElem?_getD, List.getElem?_eq_getElem h]

theorem has_l0 (L : List ByteArray) (p : ByteArray) (hl : L.length ≤ big) : ∀ (d k i : Nat), i ≤ L.length → L.length - i = d → d < k → PHas.spec_Has.l0 k p L (L.length : Int) (i : Int) = some (hasB (L.drop i) p) := by
  unfold big at hl
  intro d
  induction d with
  | zero =>
    intro k i h1 h2 h3
    obtain ⟨k, rfl⟩ : ∃ m, k = m + 1 := ⟨k - 1, by omega⟩
    obtain rfl : i = L.length := by omega
    unfold PHas.spec_Has.l0
    rw [if_neg (by omega), List.drop_length]
    rfl
  | succ d ih =>
    intro k i h1 h2 h3
    obtain ⟨k, rfl⟩ : ∃ m, k = m + 1 := ⟨k - 1, by omega⟩
    have hlt : i < L.length := by omega
    have e2 : ((i : Int) + 1) = ((i + 1 : Nat) : Int) := by omega
    unfold PHas.spec_Has.l0
    rw [if_pos (by omega), if_pos (by omega), if_pos (by omega), rd_b L i hlt, e2, wrap_in (by omega) (by omega), ih k (i + 1) (by omega) (by omega) (by omega), List.drop_eq_getElem_cons hlt]
    unfold hasB
    rw [List.any_cons]
    by_cases h : L[i].toList = p.toList
    · rw [if_pos h, eqB_prop.1 h]; rfl
    · rw [if_neg h, (Bool.eq_false_iff.2 (fun e => h (eqB_prop.2 e)) : eqB L[i] p = false)]; rfl
theorem has_any (A : Option Addr) (c : Nat) (L : List ByteArray) (p : ByteArray) (w : World) (hr : Kd.C Kd.string w A L.length L) (hc : L.length ≤ c) (hl : L.length ≤ big) :
    Calls Tryd.prog 24 #[.slice A L.length c, .string p] w fun e w' => e = .returned (.bool (hasB L p)) ∧ Below w.heap.size w w' := by
  refine (PHas.spec_Has.calls (L.length + 1) A c L p _ w hr hc (has_l0 L p hl L.length (L.length + 1) 0 (Nat.zero_le _) rfl (by omega))).mono fun e w' ⟨he, hd⟩ => ⟨by rw [he, List.drop_zero], ?_⟩
  obtain ⟨n, rfl⟩ := hd.out
  exact ((Acc.refl w).drewN n).out

theorem rem_l0 (L : List ByteArray) (p : ByteArray) (hl : L.length ≤ big) : ∀ (d k i : Nat) (o : List ByteArray), i ≤ L.length → L.length - i = d → d < k → o.length ≤ i → PRemoved.spec_Removed.l0 k p o L (L.length : Int) (i : Int) = some (o ++ remB (L.drop i) p) := by
  unfold big at hl
  intro d
  induction d with
  | zero =>
    intro k i o h1 h2 h3 h4
    obtain ⟨k, rfl⟩ : ∃ m, k = m + 1 := ⟨k - 1, by omega⟩
    obtain rfl : i = L.length := by omega
    unfold PRemoved.spec_Removed.l0
    rw [if_neg (by omega), List.drop_length]
    simp [remB]
  | succ d ih =>
    intro k i o h1 h2 h3 h4
    obtain ⟨k, rfl⟩ : ∃ m, k = m + 1 := ⟨k - 1, by omega⟩
    have hlt : i < L.length := by omega
    have e2 : ((i : Int) + 1) = ((i + 1 : Nat) : Int) := by omega
    unfold PRemoved.spec_Removed.l0
    rw [if_pos (by omega), if_pos (by omega), if_pos (by omega), rd_b L i hlt, e2, wrap_in (by omega) (by omega), List.drop_eq_getElem_cons hlt]
    unfold remB
    rw [List.filter_cons]
    by_cases h : L[i].toList = p.toList
    · rw [if_pos h, ih k (i + 1) o (by omega) (by omega) (by omega) (by omega), eqB_prop.1 h]; rfl
    · rw [if_neg h, if_pos (by omega), ih k (i + 1) (o ++ [L[i]]) (by omega) (by omega) (by omega) (by simp; omega), (Bool.eq_false_iff.2 (fun e => h (eqB_prop.2 e)) : eqB L[i] p = false)]
      simp [remB]
theorem rem_any (A : Option Addr) (c : Nat) (L : List ByteArray) (p : ByteArray) (w : World) (hr : Kd.C Kd.string w A L.length L) (hc : L.length ≤ c) (hl : L.length ≤ big) :
    Calls Tryd.prog 21 #[.slice A L.length c, .string p] w fun e w' => (∃ A' c', e = .returned (.slice A' (remB L p).length c') ∧ Kd.C Kd.string w' A' (remB L p).length (remB L p) ∧ (remB L p).length ≤ c') ∧ Below w.heap.size w w' := by
  have h := rem_l0 L p hl L.length (L.length + 1) 0 [] (Nat.zero_le _) rfl (by omega) (by simp)
  rw [List.nil_append, List.drop_zero] at h
  refine (PRemoved.spec_Removed.calls (L.length + 1) A c L p _ w hr hc h).mono fun e w' ⟨v, he, hR, hb⟩ => ⟨?_, hb⟩
  have ho := Kd.own_of_R hR
  obtain ⟨A', c', rfl⟩ := own_slice ho
  exact ⟨A', c', he, Kd.C_of_reads (reads_own Value.string ByteArray.empty ho).2.2, own_le ho⟩

theorem same_l0 (L : List ByteArray) (hl : L.length ≤ big) : ∀ (d k i : Nat), i ≤ L.length → L.length - i = d → d < k → PSame.spec_Same.l0 k L L (L.length : Int) (i : Int) = some true := by
  unfold big at hl
  intro d
  induction d with
  | zero =>
    intro k i h1 h2 h3
    obtain ⟨k, rfl⟩ : ∃ m, k = m + 1 := ⟨k - 1, by omega⟩
    unfold PSame.spec_Same.l0
    rw [if_neg (by omega)]
  | succ d ih =>
    intro k i h1 h2 h3
    obtain ⟨k, rfl⟩ : ∃ m, k = m + 1 := ⟨k - 1, by omega⟩
    have e2 : ((i : Int) + 1) = ((i + 1 : Nat) : Int) := by omega
    unfold PSame.spec_Same.l0
    rw [if_pos (by omega), if_pos (by omega), if_pos (by omega), if_pos (by omega), if_pos rfl, e2, wrap_in (by omega) (by omega)]
    exact ih k (i + 1) (by omega) (by omega) (by omega)
theorem same_any (A A' : Option Addr) (c c' : Nat) (L : List ByteArray) (w : World) (hr : Kd.C Kd.string w A L.length L) (hc : L.length ≤ c) (hr' : Kd.C Kd.string w A' L.length L) (hc' : L.length ≤ c') (hl : L.length ≤ big) :
    Calls Tryd.prog 23 #[.slice A L.length c, .slice A' L.length c'] w fun e w' => e = .returned (.bool true) ∧ Below w.heap.size w w' := by
  refine (PSame.spec_Same.calls (L.length + 1) A c L A' c' L true w hr hc hr' hc' ?_).mono fun e w' ⟨he, hd⟩ => ⟨he, ?_⟩
  · unfold PSame.spec_Same.f
    rw [if_pos rfl]
    exact same_l0 L hl L.length (L.length + 1) 0 (Nat.zero_le _) rfl (by omega)
  · obtain ⟨n, rfl⟩ := hd.out
    exact ((Acc.refl w).drewN n).out
end Go.Proofs.YtnbihmagbedfmaaDoorR
/- spec.Added, the law's 'turned', laws.zzFits1. -/
namespace Go.Proofs.YtnbihmagbedfmaaDoorR
open Go.RowKit Go.Proofs.YtnbihmagbedfmaaDoorRW.PrintWords
open PzzFits1 (S36 z36 k36 rd_T36 at_T36)

theorem olds_reads {α : Type} {enc : α → Value} {d : α} {w : World} {A : Option Addr} {n : Nat} {xs : List α} (h : ReadsOf enc d w A n xs) : ∀ b, A = some b → ∀ (j : Nat) (u : Value), (encs enc xs)[j]? = some u → w.cell? (b.add j) = some u := by
  intro b hb j u hu
  have hj : j < xs.length := by
    rcases Nat.lt_or_ge j xs.length with h | h
    · exact h
    · simp [encs, List.getElem?_eq_none h] at hu
  obtain ⟨ad, hA, hc⟩ := h.2.2 (by have := h.1; omega)
  rw [hb] at hA
  injection hA with hA
  subst hA
  rw [hc j (by have := h.1; omega)]
  simp [encs, List.getElem?_eq_getElem hj] at hu
  subst hu
  simp [List.getD_eq_getElem?_getD, List.getElem?_eq_getElem hj]
theorem nil_reads {α : Type} {enc : α → Value} {d : α} {w : World} {A : Option Addr} {n : Nat} {xs : List α} (h : ReadsOf enc d w A n xs) : A = none → n = 0 ∧ n = 0 := by
  intro hA
  rcases Nat.eq_zero_or_pos n with h0 | h0
  · exact ⟨h0, h0⟩
  · obtain ⟨ad, h1, _⟩ := h.2.2 h0
    rw [hA] at h1
    cases h1

/-- A list of texts that reads L. -/
def Rd (v : Value) (L : List ByteArray) (w : World) : Prop := ∃ A c, v = .slice A L.length c ∧ Kd.C Kd.string w A L.length L ∧ L.length ≤ c

set_option maxRecDepth 100000 in
set_option maxHeartbeats 1000000 in
theorem added_any (A : Option Addr) (c : Nat) (L : List ByteArray) (p : ByteArray) (w : World) (hr : Kd.C Kd.string w A L.length L) (hc : L.length ≤ c) (hl : L.length ≤ 100000) :
    Calls Tryd.prog 20 #[.slice A L.length c, .string p] w fun e w' => (∃ v, e = .returned v ∧ Rd v (addB L p) w') ∧ Below w.heap.size w w' := by
  obtain ⟨i0, hi, hz0, hz1, hz2⟩ := info_parts Tryd.infoText
  have HH := Lib.hid (has_any A c L p w hr hc (by unfold big; omega))
  have HR := Lib.hid hr
  cases hb : hasB L p with
  | true =>
    rw [hb] at HH
    have HA := Lib.hid (add_has hb)
    clear hr hb
    go_enter Tryd.func20, Tryd.ntmps20
    go_wp2_with fail
    refine HH.out.mono ?_
    rintro e w1 ⟨rfl, hb1⟩
    have HB := Lib.hid hb1
    clear hb1
    go_wp2
    go_ret
    exact ⟨⟨_, rfl, by rw [HA.out]; exact ⟨A, c, rfl, Kd.C_below HR.out HB.out, hc⟩⟩, HB.out⟩
  | false =>
    rw [hb] at HH
    have HA := Lib.hid (add_new hb)
    clear hr hb
    go_enter Tryd.func20, Tryd.ntmps20
    go_wp2_with fail
    refine HH.out.mono ?_
    rintro e w1 ⟨rfl, hb1⟩
    have hrd := Kd.reads_of_C (d := ByteArray.empty) (Kd.C_below HR.out (hb1.alloc hb1.size (.cells #[.string p] 9)))
    have HN := Lib.hid (nil_reads hrd)
    have HO := Lib.hid (olds_reads hrd)
    have HB := Lib.hid hb1
    clear hb1 hrd
    go_wp2_with (at_builtin; go_loud (refine wpList_append_grows _ rfl _ _ 23 rfl 9 i0 (.string ⟨#[]⟩) 1 16 Tryd.underlying23 hi hz0 hz1 hz2 rfl (by decide) A L.length L.length (encs Value.string L) ?e0 ?e1 ?e2 ?e3 ⟨w1.heap.size, 0, none⟩ 1 1 [.string p] rfl rfl ?c1 ?c2 ?c3 ?c4 ?c5 ?_))
    case e0 => simp [Act.eval]
    case e1 => exact HN.out
    case e2 => simp [encs]
    case e3 => exact HO.out
    case c1 => exact cell_one_new _ _ _
    case c2 => intro u hu; simp at hu; subst hu; rfl
    case c3 => omega
    case c4 => unfold maxLen; omega
    case c5 => omega
    intro v' w2 hown hgr
    obtain ⟨A', c', rfl⟩ := own_slice hown
    have hown' : w2.ownsRow (w1.heap.size + 1) 9 1 (.slice A' (L.length + 1) c') (L.length + 1) (encs Value.string (L ++ [p])) := by simpa [encs] using hown
    have hfin : Rd (.slice A' (L.length + 1) c') (L ++ [p]) w2 := ⟨A', c', by simp, by rw [show (L ++ [p]).length = L.length + 1 by simp]; exact Kd.C_of_reads (reads_own Value.string ByteArray.empty hown').2.2, by simpa using own_le hown'⟩
    have hb2 := (HB.out.alloc HB.out.size (.cells #[.string p] 9)).trans ((grown_below hgr).mono (by have := HB.out.size; simp; omega))
    have HF := Lib.hid hfin
    have HB2 := Lib.hid hb2
    clear hown hown' hgr hfin hb2
    go_wp2
    go_ret
    exact ⟨⟨_, rfl, by rw [HA.out]; exact HF.out⟩, HB2.out⟩

set_option maxRecDepth 100000 in
theorem turned_any (K : Nat) (kind : Int) (s : ByteArray) (w : World) (hK : w.heap[K]? = some (.cells #[.int .i64 kind] 3 (0, 0))) (hs : s.size ≤ 4294967296) :
    Calls Tryd.prog 19 #[.string s, .pointer (some ⟨K, 0, none⟩)] w fun e w' => e = .returned (.string (turnOf kind s)) ∧ Below w.heap.size w w' := by
  have hc := cell_of_one hK
  have HS := Lib.hid (small_any s hs w)
  unfold turnOf
  clear hK
  by_cases h1 : kind = 1
  · subst h1
    go_enter Tryd.func19, Tryd.ntmps19
    go_wp2_with fail
    refine HS.out.mono ?_
    rintro e w1 ⟨rfl, hb⟩
    go_wp2
    go_ret
    exact ⟨rfl, hb⟩
  · go_enter Tryd.func19, Tryd.ntmps19
    go_wp2
    go_ret
    exact ⟨rfl, Below.refl _ _⟩
end Go.Proofs.YtnbihmagbedfmaaDoorR
/- laws.zzFits1; lists of words. -/
namespace Go.Proofs.YtnbihmagbedfmaaDoorR
open Go.RowKit Go.Proofs.YtnbihmagbedfmaaDoorRW.PrintWords
open PzzFits1 (S36 z36 k36 rd_T36 at_T36)
open Pl (wordc wordt wordsT)

theorem fits3_same (k : Nat) (l : List ByteArray) : PzzFits1.laws_zzFits3.f k l = PzzFits3.laws_zzFits3.f k l := by
  have h : ∀ k a b c, PzzFits1.laws_zzFits3.l0 k a b c = PzzFits3.laws_zzFits3.l0 k a b c := by
    intro k
    induction k with
    | zero => intros; rfl
    | succ k ih => intros; unfold PzzFits1.laws_zzFits3.l0 PzzFits3.laws_zzFits3.l0; simp only [ih]
  unfold PzzFits1.laws_zzFits3.f PzzFits3.laws_zzFits3.f
  rw [h]
theorem fits3_f (l : List ByteArray) : PzzFits1.laws_zzFits3.f (l.length + 1) l = some (fits l) := by
  rw [fits3_same]
  unfold PzzFits3.laws_zzFits3.f fits
  by_cases hl : l.length ≤ 2147483647
  · rw [if_neg (by omega), decide_eq_true hl, Bool.true_and]
    have := fits_l0 l hl l.length (l.length + 1) 0 (Nat.zero_le _) rfl (Nat.lt_succ_self _)
    simpa using this
  · rw [if_pos (by omega), decide_eq_false hl, Bool.false_and]
theorem fits2_f (b : Bool) (l : List ByteArray) : PzzFits1.laws_zzFits2.f (l.length + 1) b l = some (fits l) := by
  unfold PzzFits1.laws_zzFits2.f
  rw [fits3_f]
  cases h : fits l <;> rfl
def fitsSteps (l : List S36) : Bool := decide (l.length ≤ 2147483647) && l.all fun s => fits s.f1
theorem fitsSteps_l0 (l : List S36) (hl : l.length ≤ 2147483647) : ∀ (d i : Nat), i ≤ l.length → l.length - i = d → ∃ k, PzzFits1.laws_zzFits1.l0 k l (l.length : Int) (i : Int) = some ((l.drop i).all fun s => fits s.f1) := by
  intro d
  induction d with
  | zero =>
    intro i h1 h2
    obtain rfl : i = l.length := by omega
    refine ⟨1, ?_⟩
    unfold PzzFits1.laws_zzFits1.l0
    rw [if_neg (by omega), List.drop_length]
    rfl
  | succ d ih =>
    intro i h1 h2
    have hlt : i < l.length := by omega
    obtain ⟨k1, hk1⟩ := ih (i + 1) (by omega) (by omega)
    have e2 : ((i : Int) + 1) = ((i + 1 : Nat) : Int) := by omega
    refine ⟨max k1 (l[i].f1.length + 1) + 1, ?_⟩
    unfold PzzFits1.laws_zzFits1.l0
    have h3 := at_rounds (g := fun k => PzzFits1.laws_zzFits2.f k l[i].f0 l[i].f1) (fun k => PzzFits1.laws_zzFits2.mono l[i].f0 l[i].f1 k) (Nat.le_max_right k1 (l[i].f1.length + 1)) (fits2_f _ _)
    have h4 := at_rounds (g := fun k => PzzFits1.laws_zzFits1.l0 k l (l.length : Int) ((i + 1 : Nat) : Int)) (fun k => PzzFits1.laws_zzFits1.mono_l k _ _ _) (Nat.le_max_left k1 (l[i].f1.length + 1)) hk1
    have hrd : rd_T36 l (i : Int) = l[i] := rd_step l i hlt
    rw [if_pos (by omega), if_pos (by omega), if_pos (by omega), hrd, h3, e2, wrap_in (by omega) (by omega), Option.bind_some, h4, List.drop_eq_getElem_cons hlt, List.all_cons]
    cases fits l[i].f1 <;> rfl
theorem fitsSteps_any (A : Option Addr) (c : Nat) (l : List S36) (w : World) (hr : Kd.C k36 w A l.length l) (hc : l.length ≤ c) :
    Calls Tryd.prog 17 #[.slice A l.length c] w fun e w' => e = .returned (.bool (fitsSteps l)) ∧ Below w.heap.size w w' := by
  by_cases hl : l.length ≤ 2147483647
  · obtain ⟨k, hk⟩ := fitsSteps_l0 l hl l.length 0 (Nat.zero_le _) rfl
    refine PzzFits1.laws_zzFits1.calls k A c l (fitsSteps l) w hr hc ?_
    unfold PzzFits1.laws_zzFits1.f fitsSteps
    rw [if_neg (by omega), decide_eq_true hl, Bool.true_and]
    simpa using hk
  · refine PzzFits1.laws_zzFits1.calls 0 A c l (fitsSteps l) w hr hc ?_
    unfold PzzFits1.laws_zzFits1.f fitsSteps
    rw [if_pos (by omega), decide_eq_false hl, Bool.false_and]

def wordsB (xs : List ByteArray) : Bool := wordsT (lists xs) && decide (xs.length ≤ 20)
theorem wordsB_iff {xs : List ByteArray} (h : wordsB xs = true) : xs.length ≤ 20 ∧ ∀ t ∈ xs, Word t := by
  unfold wordsB wordsT at h
  simp only [Bool.and_eq_true, List.all_eq_true, decide_eq_true_eq] at h
  exact ⟨h.2, fun t ht => h.1 _ (List.mem_map_of_mem ht)⟩
theorem wordsb_any (A : Option Addr) (c : Nat) (xs : List ByteArray) (w : World) (hr : Kd.C Kd.string w A xs.length xs) (hc : xs.length ≤ c) (hf : fits xs = true) :
    Calls Tryd.prog 7 #[.slice A xs.length c] w fun e w' => e = .returned (.bool (wordsB xs)) ∧ Below w.heap.size w w' := by
  simp only [fits, Bool.and_eq_true, decide_eq_true_eq, List.all_eq_true, fitsOne] at hf
  refine (words_any A c xs w hr hc (by unfold big; omega) (fun t ht => by have := hf.2 t ht; unfold big; omega)).mono fun e w' ⟨he, hd⟩ => ⟨he, ?_⟩
  obtain ⟨n, rfl⟩ := hd.out
  exact ((Acc.refl w).drewN n).out
end Go.Proofs.YtnbihmagbedfmaaDoorR
/- laws.FnList, where the steps and the texts are compared. -/
namespace Go.Proofs.YtnbihmagbedfmaaDoorR
open Go.RowKit Go.Proofs.YtnbihmagbedfmaaDoorRW.PrintWords
open PzzFits1 (S36 z36 k36 rd_T36 at_T36)

theorem fold_step (f : List ByteArray → ByteArray → List ByteArray) (L xs : List ByteArray) (k : Nat) (h : k < xs.length) : (xs.take (k + 1)).foldl f L = f ((xs.take k).foldl f L) xs[k] := by
  rw [List.take_succ_eq_append_getElem h, List.foldl_append]; rfl

theorem run_short (tr : ByteArray → ByteArray) (l : List S36) : ∀ {k0 : Nat}, (∀ s ∈ l.take k0, wordsB s.f1 = true) → ∀ k, k ≤ l.length → k ≤ k0 → (runT tr (l.take k)).length ≤ 20 * k := by
  intro k0 h k
  induction k with
  | zero => intro _ _; simp [runT]
  | succ k ih =>
    intro h1 h2
    have h3 := ih (by omega) (by omega)
    rw [run_take tr l k (by omega)]
    have h4 : (stepT tr (runT tr (l.take k)) l[k]).length ≤ (runT tr (l.take k)).length + l[k].f1.length := by
      unfold stepT
      split
      · exact length_adds tr _ _
      · exact Nat.le_trans (length_rems tr _ _) (Nat.le_add_right _ _)
    have h5 : l[k] ∈ l.take k0 := by
      rw [List.mem_take_iff_getElem]
      exact ⟨k, by omega, rfl⟩
    have := (wordsB_iff (h _ h5)).1
    omega
/-- A list that reads L, in world w. -/
def Rds (A : Option Addr) (c : Nat) (L : List ByteArray) (w : World) : Prop := Kd.C Kd.string w A L.length L ∧ L.length ≤ c
theorem rds_nil (w : World) : Rds none 0 [] w := ⟨Kd.C_of_reads (enc := Value.string) (d := ByteArray.empty) ⟨rfl, by decide, fun h => absurd h (by decide)⟩, Nat.le_refl _⟩
theorem Rds.below {A : Option Addr} {c : Nat} {L : List ByteArray} {w w' : World} (h : Rds A c L w) (hb : Below w.heap.size w w') : Rds A c L w' := ⟨Kd.C_below h.1 hb, h.2⟩

set_option maxRecDepth 100000 in
set_option maxHeartbeats 4000000 in
theorem fnlist_at (kind : Int) (Al Aa : Option Addr) (cl ca : Nat) (l : List S36) (ask : List ByteArray) (w : World) (hl : Kd.C k36 w Al l.length l) (hcl : l.length ≤ cl) (ha : Kd.C Kd.string w Aa ask.length ask) (hca : ask.length ≤ ca)
    (hf1 : fitsSteps l = true) (hf3 : fits ask = true) (hkind : kind = 0 ∨ kind = 1) (hl20 : l.length ≤ 20) (hask : wordsB ask = true) (ht : Tab w) (h0 : 0 < w.heap.size) :
    Calls Tryd.prog 6 #[.int .i64 kind, .slice Al l.length cl, .slice Aa ask.length ca] w fun e w' => e = .returned (.bool true) ∧ Below w.heap.size w w' := by
  have hmf : ∀ (fn : Fn) (first cap : Array Value) (w : World), (Instr.makeFunc fn first cap).run Tryd.prog w = .ok (.func fn first cap) w := fun _ _ _ _ => rfl
  have hw1 : Below w.heap.size w (w.alloc (.cells #[.int .i64 kind] 3)) := (Below.refl _ _).alloc (Nat.le_refl _) _
  have hKn := heap_alloc_new w (.cells #[.int .i64 kind] 3)
  have hs1 : (w.alloc (.cells #[.int .i64 kind] 3)).heap.size = w.heap.size + 1 := by simp
  have hk0 : 0 ≤ kind := by omega
  have hk1 : kind ≤ 1 := by omega
  obtain ⟨w1, hw1e⟩ : ∃ w1, w1 = w.alloc (.cells #[.int .i64 kind] 3) := ⟨_, rfl⟩
  rw [← hw1e] at hw1 hKn hs1
  have hl1 := Kd.C_below hl hw1
  have ha1 := Kd.C_below ha hw1
  have ht1 := ht.below hw1 h0
  have HF1 := Lib.hid (fitsSteps_any Al cl l w1 hl1 hcl)
  rw [hf1] at HF1
  have hF3 := fun w' => fun (h : Kd.C Kd.string w' Aa ask.length ask) => fits_any Aa ca ask w' (Kd.reads_of_C h) hca
  rw [hf3] at hF3
  have hW := fun w' => fun (h : Kd.C Kd.string w' Aa ask.length ask) => wordsb_any Aa ca ask w' h hca hf3
  rw [hask] at hW
  have HF3 := Lib.hid hF3
  have HW := Lib.hid hW
  have HA := Acc.refl w1
  have hc0 := cell_of_one hKn
  have HL1 := Lib.hid hl1
  have HA1 := Lib.hid ha1
  have HT1 := Lib.hid ht1
  have HK := Lib.hid hKn
  have HWB := Lib.hid hw1
  have HAsk := Lib.hid (wordsB_iff hask)
  have HFl := Lib.hid hf1
  have HKi := Lib.hid hkind
  clear hF3 hW hl ha hf1 hf3 hask ht hl1 ha1 ht1 hKn hw1 hkind
  go_enter Tryd.func6, Tryd.ntmps6
  go_wp2_with fail
  rw [← hw1e]
  clear hw1e
  refine HF1.out.mono ?_
  rintro e w2 ⟨rfl, hb2⟩
  have H2 := HA.step hb2
  clear hb2 HF1
  go_wp2_with fail
  refine (HF3.out _ (Kd.C_below HA1.out H2.out)).mono ?_
  rintro e w3 ⟨rfl, hd3⟩
  obtain ⟨n3, rfl⟩ := hd3.out
  have H3 := H2.drewN n3
  have hc3 := pw_cell_below H3.out hc0
  clear hd3 H2
  generalize w2.drewN n3 = w3 at *
  go_wp2_with fail
  refine (HW.out _ (Kd.C_below HA1.out H3.out)).mono ?_
  rintro e w4 ⟨rfl, hb4⟩
  have H4 := H3.step hb4
  clear hb4 H3 hc3
  go_wp2_with fail
  clear hc0
  have hst : Hid (Rds none 0 (runT (turnOf kind) (l.take 0)) w4) := rds_nil w4
  go_loopw [45, 8, 10, 12] (fun i x _ _ wr => ∃ k : Nat, k ≤ l.length ∧ i = .int .i64 k ∧ (∃ A c, x = .slice A (runT (turnOf kind) (l.take k)).length c ∧ Hid (Rds A c (runT (turnOf kind) (l.take k)) wr)) ∧ Acc w1 wr ∧ Hid (∀ s ∈ l.take k, wordsB s.f1 = true)) (fun i _ _ _ _ => l.length - (intOf i).toNat)
  case atStart => exact ⟨0, Nat.zero_le _, rfl, ⟨none, 0, rfl, hst⟩, H4, fun s hs => by simp at hs⟩
  case round =>
    clear hst H4
    obtain ⟨k, hk, rfl, ⟨A, c, rfl, hrd⟩, HR, hwd⟩ := hrel
    by_cases hlt : k < l.length
    · obtain ⟨ad, A1, c1, rfl, hc0, hc1, hc2, hc3⟩ := at_T36 (Kd.C_below HL1.out HR.out) (k : Int) (by omega) (by omega)
      rw [rd_step l k hlt] at hc0 hc1 hc2 hc3
      simp only [Int.toNat_natCast] at hc0 hc1
      have hrun := run_take (turnOf kind) l k hlt
      unfold stepT at hrun
      have hfs : fits l[k].f1 = true := by
        have := HFl.out
        unfold fitsSteps at this
        simp only [Bool.and_eq_true, List.all_eq_true] at this
        exact this.2 _ (List.getElem_mem hlt)
      have hnx : Hid (wordsB l[k].f1 = true → ∀ s ∈ l.take (k + 1), wordsB s.f1 = true) := fun hb s hs => by
        rw [List.take_succ_eq_append_getElem hlt] at hs
        rcases List.mem_append.1 hs with hs | hs
        · exact hwd s hs
        · rw [List.mem_singleton.1 hs]; exact hb
      have HRun := Lib.hid hrun
      have hlen : (runT (turnOf kind) (l.take k)).length ≤ 20 * k := run_short (turnOf kind) l hwd k hk (Nat.le_refl _)
      clear hrun hwd
      generalize runT (turnOf kind) (l.take k) = L at *
      generalize l[k].f0 = f0 at *
      generalize l[k].f1 = f1 at *
      have hx : Below wr.heap.size wr (wr.alloc (.cells #[.bool f0, .slice A1 f1.length c1] 36)) := (Below.refl _ _).alloc (Nat.le_refl _) _
      have hP := heap_alloc_new wr (.cells #[.bool f0, .slice A1 f1.length c1] 36)
      have HWo := Lib.hid (wordsb_any A1 c1 f1 _ (Kd.C_below hc3 hx) hc2 hfs)
      have HC3 := Lib.hid hc3
      have HX := Lib.hid hx
      have HP := Lib.hid hP
      clear hc3 hx hP hfs
      cases hb : wordsB f1 with
      | false =>
        rw [hb] at HWo
        clear hb
        go_wp2_with (first | (go_at_call 7; with_reducible refine HWo.out.mono ?_; rintro e w5 ⟨rfl, hb5⟩; have H5 := Acc.step (HR.alloc _) hb5) | (go_at_call 9; refine (works_any _).mono ?_; rintro e w6 ⟨rfl, hb6⟩; have H6 := Acc.step H5 hb6))
        go_ret
        exact ⟨rfl, HWB.out.trans (H6.out.mono (by have := HWB.out.size; omega))⟩
      | true =>
        rw [hb] at HWo
        have HNx := Lib.hid (hnx hb)
        have HWf := Lib.hid (wordsB_iff hb)
        have hf20 := (wordsB_iff hb).1
        clear hb hnx
        go_wp2_with (go_at_call 7; with_reducible refine HWo.out.mono ?_; rintro e w5 ⟨rfl, hb5⟩; have HB5 := Lib.hid (HX.out.trans (hb5.mono HX.out.size)); have hp5 := (hb5.block _ (lt_of_block HP.out)).trans HP.out; have hq0 : w5.cell? ⟨wr.heap.size, 0, none⟩ = some (.bool f0) := by { simp [World.cell?, hp5] }; have hq1 : w5.cell? ⟨wr.heap.size, 1, none⟩ = some (.slice A1 f1.length c1) := by { simp [World.cell?, hp5] }; clear hb5 hp5)
        have hR5 : Acc w1 w5 := HR.step HB5.out
        have hrd5 : Hid (Rds A c L w5) := Rds.below hrd HB5.out
        have hC5 := Kd.C_below HC3.out HB5.out
        have HR5 := Lib.hid hR5
        have HC5 := Lib.hid hC5
        clear hR5 hC5 HB5 HX HP HC3 HWo hrd HR hc0 hc1
        generalize wr.heap.size = P at *
        cases f0
        · have HRun2 := Lib.hid (HRun.out.trans (if_neg (by simp)))
          go_loopw [57, 12, 8] (fun i _ x wr => ∃ j : Nat, j ≤ f1.length ∧ i = .int .i64 j ∧ (∃ A c, x = .slice A ((f1.take j).foldl (remT (turnOf kind)) L).length c ∧ Hid (Rds A c ((f1.take j).foldl (remT (turnOf kind)) L) wr)) ∧ Below w5.heap.size w5 wr) (fun i _ _ _ => f1.length - (intOf i).toNat)
          case atStart => exact ⟨0, Nat.zero_le _, rfl, ⟨A, c, rfl, hrd5⟩, Below.refl _ _⟩
          case round =>
            clear hrd5 hq1
            obtain ⟨j, hj, rfl, ⟨A2, c2, rfl, hr2⟩, hb⟩ := hrel
            by_cases hjl : j < f1.length
            · have hrw := Kd.reads_of_C (d := ByteArray.empty) (Kd.C_below HC5.out hb)
              obtain ⟨a1, hA1, hcs⟩ := hrw.2.2 (by omega)
              subst hA1
              have hcell := hcs j hjl
              have hgd : f1.getD j ByteArray.empty = f1[j] := by simp [List.getD_eq_getElem?_getD, List.getElem?_eq_getElem hjl]
              rw [hgd] at hcell
              have hq := pw_cell_below hb hq0
              have hst := fold_step (remT (turnOf kind)) L f1 j hjl
              have hwo := HWf.out.2 f1[j] (List.getElem_mem hjl)
              have hln : ((f1.take j).foldl (remT (turnOf kind)) L).length ≤ 1000 := by
                have := length_rems (turnOf kind) (f1.take j) L
                omega
              have HSt := Lib.hid hst
              have HB := Lib.hid hb
              have HTu := Lib.hid (turned_any w.heap.size kind f1[j] wr ((HR5.out.out.trans (hb.mono HR5.out.out.size)).block _ (lt_of_block HK.out) |>.trans HK.out) (by have := hwo.size; omega))
              clear hrw hcs hgd hst hwo hb hq0
              generalize (f1.take j).foldl (remT (turnOf kind)) L = M at *
              generalize f1[j] = t at *
              go_wp2_with fail
              refine HTu.out.mono ?_
              rintro e w6 ⟨rfl, hb6⟩
              have hr6 := Rds.below hr2 hb6
              have HB6 := Lib.hid (HB.out.trans (hb6.mono HB.out.size))
              have HCa := Lib.hid (rem_any A2 c2 M (turnOf kind t) w6 hr6.1 hr6.2 (by unfold big; omega))
              clear HTu hb6 hr6 hr2 HB
              go_wp2_with fail
              refine HCa.out.mono ?_
              rintro e w7 ⟨⟨A3, c3, rfl, hr7, hc7⟩, hb7⟩
              have hb7' := HB6.out.trans (hb7.mono HB6.out.size)
              clear hb7 HCa HB6
              go_wp2
              go_roundw
              case rel => exact ⟨j + 1, by omega, by go_num, ⟨A3, c3, by rw [HSt.out]; rfl, by rw [HSt.out]; exact ⟨hr7, hc7⟩⟩, hb7'⟩
              case measure => simp [intOf]; omega
            · obtain rfl : j = f1.length := by omega
              rw [List.take_length] at hr2 ⊢
              have hr7 := HR5.out.step hb
              have hfin : Hid (Rds A2 c2 (runT (turnOf kind) (l.take (k + 1))) wr) := by rw [HRun2.out]; exact hr2
              have hle := congrArg List.length HRun2.out
              have HLe := Lib.hid hle
              clear hr2 hb hjl hj hq0 hle
              go_wp2_with fail
              go_roundw
              case rel => exact ⟨k + 1, by omega, by go_num, ⟨A2, c2, by rw [HLe.out], hfin⟩, hr7, HNx.out⟩
              case measure => simp [intOf]; omega
        · have HRun2 := Lib.hid (HRun.out.trans (if_pos rfl))
          go_loopw [57, 12, 8] (fun i _ x wr => ∃ j : Nat, j ≤ f1.length ∧ i = .int .i64 j ∧ (∃ A c, x = .slice A ((f1.take j).foldl (addT (turnOf kind)) L).length c ∧ Hid (Rds A c ((f1.take j).foldl (addT (turnOf kind)) L) wr)) ∧ Below w5.heap.size w5 wr) (fun i _ _ _ => f1.length - (intOf i).toNat)
          case atStart => exact ⟨0, Nat.zero_le _, rfl, ⟨A, c, rfl, hrd5⟩, Below.refl _ _⟩
          case round =>
            clear hrd5 hq1
            obtain ⟨j, hj, rfl, ⟨A2, c2, rfl, hr2⟩, hb⟩ := hrel
            by_cases hjl : j < f1.length
            · have hrw := Kd.reads_of_C (d := ByteArray.empty) (Kd.C_below HC5.out hb)
              obtain ⟨a1, hA1, hcs⟩ := hrw.2.2 (by omega)
              subst hA1
              have hcell := hcs j hjl
              have hgd : f1.getD j ByteArray.empty = f1[j] := by simp [List.getD_eq_getElem?_getD, List.getElem?_eq_getElem hjl]
              rw [hgd] at hcell
              have hq := pw_cell_below hb hq0
              have hst := fold_step (addT (turnOf kind)) L f1 j hjl
              have hwo := HWf.out.2 f1[j] (List.getElem_mem hjl)
              have hln : ((f1.take j).foldl (addT (turnOf kind)) L).length ≤ 1000 := by
                have := length_adds (turnOf kind) (f1.take j) L
                rw [List.length_take] at this
                omega
              have HSt := Lib.hid hst
              have HB := Lib.hid hb
              have HTu := Lib.hid (turned_any w.heap.size kind f1[j] wr ((HR5.out.out.trans (hb.mono HR5.out.out.size)).block _ (lt_of_block HK.out) |>.trans HK.out) (by have := hwo.size; omega))
              clear hrw hcs hgd hst hwo hb hq0
              generalize (f1.take j).foldl (addT (turnOf kind)) L = M at *
              generalize f1[j] = t at *
              go_wp2_with fail
              refine HTu.out.mono ?_
              rintro e w6 ⟨rfl, hb6⟩
              have hr6 := Rds.below hr2 hb6
              have HB6 := Lib.hid (HB.out.trans (hb6.mono HB.out.size))
              have HCa := Lib.hid (added_any A2 c2 M (turnOf kind t) w6 hr6.1 hr6.2 (by omega))
              clear HTu hb6 hr6 hr2 HB
              go_wp2_with fail
              refine HCa.out.mono ?_
              rintro e w7 ⟨⟨v7, rfl, A3, c3, rfl, hr7, hc7⟩, hb7⟩
              have hb7' := HB6.out.trans (hb7.mono HB6.out.size)
              clear hb7 HCa HB6
              go_wp2
              go_roundw
              case rel => exact ⟨j + 1, by omega, by go_num, ⟨A3, c3, by rw [HSt.out]; rfl, by rw [HSt.out]; exact ⟨hr7, hc7⟩⟩, hb7'⟩
              case measure => simp [intOf]; omega
            · obtain rfl : j = f1.length := by omega
              rw [List.take_length] at hr2 ⊢
              have hr7 := HR5.out.step hb
              have hfin : Hid (Rds A2 c2 (runT (turnOf kind) (l.take (k + 1))) wr) := by rw [HRun2.out]; exact hr2
              have hle := congrArg List.length HRun2.out
              have HLe := Lib.hid hle
              clear hr2 hb hjl hj hq0 hle
              go_wp2_with fail
              go_roundw
              case rel => exact ⟨k + 1, by omega, by go_num, ⟨A2, c2, by rw [HLe.out], hfin⟩, hr7, HNx.out⟩
              case measure => simp [intOf]; omega
    · obtain rfl : k = l.length := by omega
      rw [List.take_length] at hrd hwd ⊢
      rename World => wm
      have hsteps : Steps l := ⟨hl20, fun s hs => wordsB_iff (hwd s hs)⟩
      have hlm := HR.out.size
      have HLi := Lib.hid (list_any kind HKi.out Al Aa cl ca l ask wm (Kd.C_below HL1.out HR.out) (Kd.reads_of_C (Kd.C_below HA1.out HR.out)) (HT1.out.below HR.out (by omega)) (by omega) hsteps HAsk.out)
      have hln := run_short (turnOf kind) l (k0 := l.length) (by rw [List.take_length]; exact hwd) l.length (Nat.le_refl _) (Nat.le_refl _)
      rw [List.take_length] at hln
      clear hwd hsteps hlt hk hlm
      generalize hLg : runT (turnOf kind) l = L at *
      clear hLg
      have ha20 := HAsk.out.1
      have hcm := cell_of_one ((HR.out.block _ (lt_of_block HK.out)).trans HK.out)
      go_wp2_with fail
      refine HLi.out.mono ?_
      rintro e w5 ⟨⟨A1, c1, A2, c2, rfl, ho1, ho2⟩, hb5⟩
      have hr5 := Rds.below hrd hb5
      have HSa := Lib.hid (same_any A1 A c1 c L w5 (Kd.C_of_reads (reads_own Value.string ByteArray.empty ho1).2.2) (own_le ho1) hr5.1 hr5.2 (by unfold big; omega))
      have H5 := HR.step hb5
      have HR5 := Lib.hid hr5
      have HO2 := Lib.hid ho2
      clear ho1 ho2 hb5 hr5 hrd HR HLi hcm
      go_wp2_with fail
      refine HSa.out.mono ?_
      rintro e w6 ⟨rfl, hb6⟩
      have hr6 : Hid (Rds A c L w6) := Rds.below HR5.out hb6
      have ho6 := own_below HO2.out hb6
      have H6 := H5.step hb6
      have HO6 := Lib.hid ho6
      clear HSa HR5 HO2 H5 hb6 ho6
      go_wp2_with fail
      go_loopw [95, 15, 16] (fun i _ _ wr => ∃ k : Nat, k ≤ ask.length ∧ i = .int .i64 k ∧ Below w6.heap.size w6 wr) (fun i _ _ _ => ask.length - (intOf i).toNat)
      case atStart => exact ⟨0, Nat.zero_le _, rfl, Below.refl _ _⟩
      case round =>
        obtain ⟨k, hk, rfl, hb⟩ := hrel
        by_cases hlt : k < ask.length
        · have hrw := Kd.reads_of_C (d := ByteArray.empty) (Kd.C_below HA1.out (H6.out.trans (hb.mono H6.out.size)))
          obtain ⟨a1, hA1, hcs⟩ := hrw.2.2 (by omega)
          subst hA1
          have hcell := hcs k hlt
          have hgd : ask.getD k ByteArray.empty = ask[k] := by simp [List.getD_eq_getElem?_getD, List.getElem?_eq_getElem hlt]
          rw [hgd] at hcell
          obtain ⟨_, _, hrb⟩ := reads_own Value.bool false (own_below HO6.out hb)
          obtain ⟨a2, hA2, hcb⟩ := hrb.2.2 (by omega)
          subst hA2
          have hcell2 := hcb k hlt
          have hgd2 : (ask.map fun t => hasB L (turnOf kind t)).getD k false = hasB L (turnOf kind ask[k]) := by simp [List.getD_eq_getElem?_getD, List.getElem?_eq_getElem hlt]
          rw [hgd2] at hcell2
          have hwo := HAsk.out.2 ask[k] (List.getElem_mem hlt)
          have hKw : wr.heap[w.heap.size]? = some (.cells #[.int .i64 kind] 3 (0, 0)) := ((H6.out.trans (hb.mono H6.out.size)).block _ (lt_of_block HK.out)).trans HK.out
          have hr7 : Hid (Rds A c L wr) := Rds.below hr6 hb
          have HTu : Hid (∀ W, Below wr.heap.size wr W → Calls Tryd.prog 19 #[.string ask[k], .pointer (some ⟨w.heap.size, 0, none⟩)] W fun e w' => e = .returned (.string (turnOf kind ask[k])) ∧ Below W.heap.size W w') :=
            fun W hW => turned_any w.heap.size kind ask[k] W ((hW.block _ (lt_of_block hKw)).trans hKw) (by have := hwo.size; omega)
          have HHa : Hid (∀ W, Below wr.heap.size wr W → Calls Tryd.prog 24 #[.slice A L.length c, .string (turnOf kind ask[k])] W fun e w' => e = .returned (.bool (hasB L (turnOf kind ask[k]))) ∧ Below W.heap.size W w') :=
            fun W hW => has_any A c L (turnOf kind ask[k]) W (Rds.below hr7 hW).1 hr7.2 (by unfold big; omega)
          have HB := Lib.hid hb
          have hbr : Hid (Below wr.heap.size wr wr.drew) := (Below.refl _ _).drew
          clear hrw hcs hgd hrb hcb hgd2 hwo hKw hr7 hb
          generalize turnOf kind ask[k] = q at *
          generalize ask[k] = t at *
          generalize hasB L q = b at *
          cases b
          all_goals
            go_wp2_with fail
            go_region_with (first | (go_at_call 19; refine (HTu _ (by first | exact Below.refl _ _ | exact (Below.refl _ _).drew)).mono ?_; rintro e w7 ⟨rfl, hb7⟩; have hb07 : Below wr.heap.size wr w7 := (by first | exact hb7 | exact ((Below.refl _ _).drew).trans hb7); have hc7 := pw_cell_below hb07 hcell2; clear hb7) | (go_at_call 24; refine (HHa _ (by assumption)).mono ?_; rintro e w8 ⟨rfl, hb8⟩; have hb08 := Below.trans (by assumption : Below wr.heap.size wr _) (hb8.mono (Below.size (by assumption : Below wr.heap.size wr _))); have hc8 := pw_cell_below hb08 hcell2; clear hb8))
            all_goals go_wp2
            all_goals go_roundw
            all_goals first
              | exact ⟨k + 1, by omega, by go_num, HB.out.trans (hb08.mono HB.out.size)⟩
              | exact ⟨k + 1, by omega, by go_num, (HB.out.trans (hb08.mono HB.out.size)).drew⟩
              | (simp [intOf]; omega)
        · obtain rfl : k = ask.length := by omega
          have H7 := H6.step hb
          clear hb hlt hk
          go_wp2_with (go_at_call 9; refine (works_any _).mono ?_; rintro e w8 ⟨rfl, hb8⟩; have H8 := Acc.step H7 hb8)
          go_ret
          exact ⟨rfl, HWB.out.trans (H8.out.mono (by have := HWB.out.size; omega))⟩
end Go.Proofs.YtnbihmagbedfmaaDoorR
/- laws.FnList hands back true, at every input. -/
namespace Go.Proofs.YtnbihmagbedfmaaDoorR
open Go.RowKit Go.Proofs.YtnbihmagbedfmaaDoorRW.PrintWords
open PzzFits1 (S36 z36 k36 rd_T36 at_T36)

set_option maxRecDepth 100000 in
set_option maxHeartbeats 2000000 in
theorem fnlist_walk (kind : Int) (Al Aa : Option Addr) (cl ca : Nat) (l : List S36) (ask : List ByteArray) (w : World) (hl : Kd.C k36 w Al l.length l) (hcl : l.length ≤ cl) (ha : Kd.C Kd.string w Aa ask.length ask) (hca : ask.length ≤ ca) (ht : Tab w) (h0 : 0 < w.heap.size) :
    Calls Tryd.prog 6 #[.int .i64 kind, .slice Al l.length cl, .slice Aa ask.length ca] w fun e w' => e = .returned (.bool true) ∧ Below w.heap.size w w' := by
  have hmf : ∀ (fn : Fn) (first cap : Array Value) (w : World), (Instr.makeFunc fn first cap).run Tryd.prog w = .ok (.func fn first cap) w := fun _ _ _ _ => rfl
  have hC1 : ∀ W, Acc w W → Calls Tryd.prog 17 #[.slice Al l.length cl] W fun e w' => e = .returned (.bool (fitsSteps l)) ∧ Below W.heap.size W w' := fun W hW => fitsSteps_any Al cl l W (Kd.C_below hl hW.out) hcl
  have hC3 : ∀ W, Acc w W → Calls Tryd.prog 18 #[.slice Aa ask.length ca] W fun e w' => e = .returned (.bool (fits ask)) ∧ Below W.heap.size W w' := fun W hW =>
    (fits_any Aa ca ask W (Kd.reads_of_C (Kd.C_below ha hW.out)) hca).mono fun e w' ⟨he, hd⟩ => ⟨he, by obtain ⟨n, rfl⟩ := hd.out; exact ((Acc.refl W).drewN n).out⟩
  have hA := Acc.refl w
  have hcell : (w.alloc (.cells #[.int .i64 kind] 3)).cell? ⟨w.heap.size, 0, none⟩ = some (.int .i64 kind) := cell_of_one (heap_alloc_new _ _)
  have hA0 : Acc w (w.alloc (.cells #[.int .i64 kind] 3)) := hA.alloc _
  cases h1 : fitsSteps l with
  | false =>
    rw [h1] at hC1
    have HC1 := Lib.hid hC1
    clear hC1 hC3 h1 hl ha ht
    go_enter Tryd.func6, Tryd.ntmps6
    go_wp2_with (go_at_call 17; with_reducible refine (HC1.out _ (by assumption)).mono ?_; rintro e w1 ⟨rfl, hb⟩; have H1 := hA0.step hb)
    go_ret
    exact ⟨rfl, H1.out⟩
  | true =>
    rw [h1] at hC1
    have HC1 := Lib.hid hC1
    cases h3 : fits ask with
    | false =>
      rw [h3] at hC3
      have HC3 := Lib.hid hC3
      clear hC1 hC3 h1 h3 hl ha ht
      go_enter Tryd.func6, Tryd.ntmps6
      go_wp2_with (first | (go_at_call 17; with_reducible refine (HC1.out _ (by assumption)).mono ?_; rintro e w1 ⟨rfl, hb⟩; have H1 := hA0.step hb) | (go_at_call 18; with_reducible refine (HC3.out _ (by assumption)).mono ?_; rintro e w2 ⟨rfl, hb⟩; have H2 := H1.step hb))
      go_ret
      exact ⟨rfl, H2.out⟩
    | true =>
      rw [h3] at hC3
      have HC3 := Lib.hid hC3
      have hCW : ∀ W, Acc w W → Calls Tryd.prog 7 #[.slice Aa ask.length ca] W fun e w' => e = .returned (.bool (wordsB ask)) ∧ Below W.heap.size W w' := fun W hW => wordsb_any Aa ca ask W (Kd.C_below ha hW.out) hca h3
      by_cases hk : kind = 0 ∨ kind = 1
      · by_cases hl20 : l.length ≤ 20
        · cases hw : wordsB ask with
          | true => exact fnlist_at kind Al Aa cl ca l ask w hl hcl ha hca h1 h3 hk hl20 hw ht h0
          | false =>
            rw [hw] at hCW
            have HCW := Lib.hid hCW
            have hk0 : 0 ≤ kind := by omega
            have hk1 : kind ≤ 1 := by omega
            clear hC1 hC3 hCW h1 h3 hw hl ha ht hk
            go_enter Tryd.func6, Tryd.ntmps6
            go_wp2_with (first | (go_at_call 17; with_reducible refine (HC1.out _ (by assumption)).mono ?_; rintro e w1 ⟨rfl, hb1⟩; have H1 := hA0.step hb1; have hc1 := pw_cell_below hb1 hcell) | (go_at_call 18; with_reducible refine (HC3.out _ (by assumption)).mono ?_; rintro e w2 ⟨rfl, hb2⟩; have H2 := H1.step hb2; have hc2 := pw_cell_below hb2 hc1) | (go_at_call 7; with_reducible refine (HCW.out _ (by assumption)).mono ?_; rintro e w3 ⟨rfl, hb3⟩; have H3 := H2.step hb3) | (go_at_call 9; refine (works_any _).mono ?_; rintro e w4 ⟨rfl, hb4⟩; have H4 := Acc.step (by assumption) hb4))
            go_ret
            exact ⟨rfl, H4.out⟩
        · have hl21 : 20 < l.length := by omega
          have hk0 : 0 ≤ kind := by omega
          have hk1 : kind ≤ 1 := by omega
          clear hC1 hC3 hCW h1 h3 hl ha ht hk hl20
          go_enter Tryd.func6, Tryd.ntmps6
          go_wp2_with (first | (go_at_call 17; with_reducible refine (HC1.out _ (by assumption)).mono ?_; rintro e w1 ⟨rfl, hb1⟩; have H1 := hA0.step hb1; have hc1 := pw_cell_below hb1 hcell) | (go_at_call 18; with_reducible refine (HC3.out _ (by assumption)).mono ?_; rintro e w2 ⟨rfl, hb2⟩; have H2 := H1.step hb2; have hc2 := pw_cell_below hb2 hc1) | (go_at_call 9; refine (works_any _).mono ?_; rintro e w4 ⟨rfl, hb4⟩; have H4 := Acc.step (by assumption) hb4))
          go_ret
          exact ⟨rfl, H4.out⟩
      · by_cases hn : kind < 0
        · clear hC1 hC3 hCW h1 h3 hl ha ht hk
          go_enter Tryd.func6, Tryd.ntmps6
          go_wp2_with (first | (go_at_call 17; with_reducible refine (HC1.out _ (by assumption)).mono ?_; rintro e w1 ⟨rfl, hb1⟩; have H1 := hA0.step hb1; have hc1 := pw_cell_below hb1 hcell) | (go_at_call 18; with_reducible refine (HC3.out _ (by assumption)).mono ?_; rintro e w2 ⟨rfl, hb2⟩; have H2 := H1.step hb2; have hc2 := pw_cell_below hb2 hc1) | (go_at_call 9; refine (works_any _).mono ?_; rintro e w4 ⟨rfl, hb4⟩; have H4 := Acc.step (by assumption) hb4))
          go_ret
          exact ⟨rfl, H4.out⟩
        · have hg : 1 < kind := by omega
          have hn0 : 0 ≤ kind := by omega
          clear hC1 hC3 hCW h1 h3 hl ha ht hk hn
          go_enter Tryd.func6, Tryd.ntmps6
          go_wp2_with (first | (go_at_call 17; with_reducible refine (HC1.out _ (by assumption)).mono ?_; rintro e w1 ⟨rfl, hb1⟩; have H1 := hA0.step hb1; have hc1 := pw_cell_below hb1 hcell) | (go_at_call 18; with_reducible refine (HC3.out _ (by assumption)).mono ?_; rintro e w2 ⟨rfl, hb2⟩; have H2 := H1.step hb2; have hc2 := pw_cell_below hb2 hc1) | (go_at_call 9; refine (works_any _).mono ?_; rintro e w4 ⟨rfl, hb4⟩; have H4 := Acc.step (by assumption) hb4))
          go_ret
          exact ⟨rfl, H4.out⟩
end Go.Proofs.YtnbihmagbedfmaaDoorR
/- What a list of texts, a list of steps that came in read as. -/
namespace Go.Proofs.YtnbihmagbedfmaaDoorR.fnList
open Go.ChangeShapes Go.WideShapes Go.ChangeAt Go.RowKit
open Go.Proofs.YtnbihmagbedfmaaDoorRW.PrintWords
open PzzFits1 (S36 z36 k36 k36_mk)
open Go.Deep (open_slice choose_lt)

theorem cells36 : Tryd.prog.cellsOf 36 = 2 := by kernel_rfl
theorem cells4 : Tryd.prog.cellsOf 4 = 1 := by kernel_rfl
theorem cells23 : Tryd.prog.cellsOf 23 = 1 := by kernel_rfl
theorem cells9 : Tryd.prog.cellsOf 9 = 1 := by kernel_rfl

/-- A list of texts that came in, as the walk wants it. -/
theorem came_cells {H : Type} {enc : TypeId × Value → H} {W : World} {cs : List Value} {fuel : Nat} {x : DataW H × List MemPlace}
    (hf : DataW.trod enc Tryd.prog W 0 (fun _ => true) true fuel 23 cs = some x) :
    ∃ (a : Option Addr) (cap : Nat) (xs : List ByteArray), cs = [.slice a xs.length cap] ∧ xs.length ≤ cap ∧ Kd.C Kd.string W a xs.length xs := by
  rcases open_strings Tryd.underlying23 Tryd.underlying9 cells9 hf with ⟨hcs, _⟩ | ⟨y, l, c, ss, hcs, _, hl, hm, hz, _, hcell, hws⟩
  · exact ⟨none, 0, [], hcs, by simp, Kd.C_of_reads (enc := Value.string) (d := ByteArray.empty) ⟨rfl, by decide, fun h => absurd h (by decide)⟩⟩
  · have hz' : ss.length = c := by simpa using hz
    have hlen : (ss.take l).length = l := by rw [List.length_take]; omega
    refine ⟨some y, c, ss.take l, by rw [hcs, hlen], by omega, Kd.C_of_reads (enc := Value.string) (d := ByteArray.empty) ⟨rfl, by rw [hlen]; unfold maxLen at hm; omega, fun _ => ⟨y, rfl, fun j hj => ?_⟩⟩⟩
    rw [hlen] at hj
    rw [hcell j (by omega)]
    simp [List.getD_eq_getElem?_getD, hj]

instance : Inhabited S36 := ⟨z36⟩
set_option maxRecDepth 100000 in
/-- The steps that came in. -/
theorem came_steps {H : Type} {enc : TypeId × Value → H} {W : World} {cs : List Value} {fuel : Nat} {x : DataW H × List MemPlace}
    (hf : DataW.trod enc Tryd.prog W 0 (fun _ => true) true fuel 33 cs = some x) :
    ∃ (a : Option Addr) (cap : Nat) (l : List S36), cs = [.slice a l.length cap] ∧ l.length ≤ cap ∧ Kd.C k36 W a l.length l := by
  rcases open_slice Tryd.underlying33 hf with ⟨hcs, _⟩ | ⟨ad, len, cap, m, n, D, Pl, hcs, _, hl, hm, hmm, _, hel⟩
  · exact ⟨none, 0, [], hcs, by simp, ⟨rfl, by decide, fun h => absurd h (by decide)⟩⟩
  · have hmc : m = cap := by simpa using hmm
    have each : ∀ i, i < len → ∃ s : S36, ∃ c : List Value, c.length = 2 ∧ k36.K W s c ∧ ∀ j u, c[j]? = some u → W.cell? (ad.add (i * 2 + j)) = some u := by
      intro i hi
      obtain ⟨cs', h1, h2⟩ := hel i (by omega)
      rw [cells36] at h1
      obtain ⟨_, h3, h4⟩ := World.cells?_some h1
      obtain ⟨ys, n', _, _, _, hys, hfl⟩ := DataW.trod_struct Tryd.underlying36 h2
      have g0 := hfl 0 _ rfl
      have g1 := hfl 1 _ rfl
      have hy2 : ys.length = 2 := hys
      rw [List.getElem?_eq_getElem (by omega)] at g0 g1
      obtain ⟨b, hb, _⟩ := DataW.trod_bool Tryd.underlying4 g0
      obtain ⟨a1, c1, xs, hx, hxc, hxr⟩ := came_cells g1
      match cs', h3 with
      | [u0, u1], _ =>
        have e0 : [u0] = [Value.bool b] := hb
        have e1 : [u1] = [Value.slice a1 xs.length c1] := hx
        injection e0 with e0 _
        injection e1 with e1 _
        subst e0
        subst e1
        refine ⟨⟨b, xs⟩, [.bool b, .slice a1 xs.length c1], rfl, k36_mk W ⟨b, xs⟩ hxc hxr, fun j u hj => ?_⟩
        have hj2 : j < 2 := by
          have := (List.getElem?_eq_some_iff.1 hj).1
          simpa using this
        have h5 := h4 j hj2
        rw [hj] at h5
        have e : (ad.add (i * 2)).add j = ad.add (i * 2 + j) := by
          unfold Addr.add
          by_cases hi0 : i * 2 = 0
          · simp [hi0]
          · by_cases hj0 : j = 0
            · simp [hj0]
            · simp [hi0, hj0, Nat.add_assoc]
        rw [e] at h5
        exact h5
    obtain ⟨f, hfs⟩ := choose_lt each
    have hlen : ((List.range len).map f).length = len := by simp
    refine ⟨some ad, cap, (List.range len).map f, by rw [hlen]; exact hcs, by omega, ⟨rfl, by rw [hlen]; unfold maxLen at hm; omega, fun _ => ⟨ad, rfl, fun j p hp => ?_⟩⟩⟩
    have hj : j < len := by
      have := (List.getElem?_eq_some_iff.1 hp).1
      simpa using this
    obtain ⟨c, k1, k2, k3⟩ := hfs j hj
    have hpf : p = f j := by
      simp [hj] at hp
      exact hp.symm
    subst hpf
    exact ⟨c, k1, k2, k3⟩

end Go.Proofs.YtnbihmagbedfmaaDoorR.fnList
/- The row and the tied card of laws.FnList: for every number, list of steps and list of texts the law hands back true, and what was there is as it was. -/
namespace Go.Proofs.YtnbihmagbedfmaaDoorR.fnList
open Go.ChangeShapes Go.WideShapes Go.ChangeAt Go.RowKit
open Go.Proofs.YtnbihmagbedfmaaDoorRW.PrintWords
open PzzFits1 (S36 z36 k36 k36_mk)
open Go.Deep (open_slice choose_lt)
set_option linter.unusedVariables false

theorem own : ownKnob Tryd.prog.godebug = none := by kernel_rfl
theorem laidOut : laidOutB Tryd.prog = true := by kernel_rfl

theorem space_data : (Rows.laid_strings_asciiSpace : DataW Unit) = Lib.tabData .u8 Lib.asciiSpaceTab := by kernel_rfl
theorem gType : (Tryd.prog.globals[0]?).map (·.type) = some 96 := by kernel_rfl
theorem cells5 : Tryd.prog.cellsOf 5 = 1 := by kernel_rfl
theorem cells256 : Tryd.prog.cellsOf 96 = 256 := by kernel_rfl
theorem tab {W : World} (h : laidMetH Tryd.prog Rows.fnListRow.laid W) : Tab W := by
  rw [MakeChecks.laidMetH_plain _ _ _ (by kernel_rfl)] at h
  have h1 := (laidMet.tail (laidMet.tail h))
  unfold Tab
  refine Lib.tabIs_of_head (rest := [("unicode.CaseRanges", Rows.laid_unicode_CaseRanges), ("unicode/utf8.first", Rows.laid_unicode_utf8_first)]) gSpace_named gType Tryd.underlying96 Tryd.underlying5 cells5 cells256 ?_
  rw [← space_data]
  exact h1
theorem tab_size {W : World} (h : Tab W) : 0 < W.heap.size := by
  unfold Tab Lib.TabIs World.var? at h
  rw [gSpace_named] at h
  simp only [Option.bind_some] at h
  rcases Nat.eq_zero_or_pos W.heap.size with h0 | h0
  · rw [Array.getElem?_eq_none (by omega)] at h
    cases h
  · exact h0

set_option maxRecDepth 100000 in
theorem lifted (os : Os) (started : os.Started) (H : Type) (enc : TypeId × Value → H) :
    ReturnsInHanded {} Tryd.checked os 6 .any (fun w args => (Rows.fnListSpec.pre enc Tryd.prog Tryd.f6 Rows.fnListRow.domain false w args ∧ laidMetH Tryd.prog Rows.fnListRow.laid w) ∧ sizedMet enc Tryd.prog Tryd.f6 (OpenSpec.ofChange Rows.fnListSpec) false w args)
      (Rows.fnListSpec.post enc Tryd.prog Tryd.f6 false true false false) := by
  refine returnsInHanded_of_change_and (C := Tryd.checked) (X := fun w _ => laidMetH Tryd.prog Rows.fnListRow.laid w) (fun _ _ _ hh h => h.of_heap hh) own started (by kernel_rfl) Tryd.func6
    (ChangeSpec.witness_shaped (enc := enc) (C := Tryd.checked) (os := os) (X := fun w _ => laidMetH Tryd.prog Rows.fnListRow.laid w) false (World.laidAll Tryd.prog os Rows.fnListRow.laid) #[.int .i64 0, .slice none 0 0, .slice none 0 0] 8 (World.laidAll_os _ _ _)
      (World.shaped_of_ZipB (by kernel_rfl) (by kernel_rfl)) (by kernel_rfl) (by kernel_rfl) (by kernel_rfl)
      (by rw [MakeChecks.laidMetH_plain _ _ _ (by kernel_rfl)]; exact laidMet_laidAll _ (by kernel_rfl) (by kernel_rfl))) ?_
  intro W base args ds gs before hval0 hW hcnd _ hL _
  have hval : ∀ (j : Nat) t v, Tryd.f6.params[j]? = some t → args[j]? = some v → Value.okWide Tryd.prog W .any base t v := hval0
  have hW' := hW
  obtain ⟨p, q, hA0, hV, rfl, hfz, hnd⟩ := hW
  have hA : DataW.TrodAll enc Tryd.prog W 0 (fun _ => true) true Tryd.f6.params.toList args.toList ds p := hA0
  rw [Tryd.params6] at hA hval
  obtain ⟨v0, vs0, d0, ds0, p0, q0, hargs, rfl, rfl, h0, r0⟩ := trodAll_cons hA
  obtain ⟨v1, vs1, d1, ds1, p1, q1, rfl, rfl, rfl, h1, r1⟩ := trodAll_cons r0
  obtain ⟨v2, vs2, d2, ds2, p2, q2, rfl, rfl, rfl, h2, r2⟩ := trodAll_cons r1
  obtain ⟨rfl, rfl, rfl⟩ := trodAll_nil r2
  obtain rfl : args = #[v0, v1, v2] := by cases args; simp_all
  obtain ⟨rfl, rfl⟩ := trodVars_none hV
  obtain ⟨a0, rfl, rfl, rfl, w0⟩ := open_int Tryd.underlying3 (hval 0 3 v0 rfl rfl) h0
  obtain ⟨a1, len1, cap1, rfl⟩ := okWide_slice Tryd.underlying33 (hval 1 33 v1 rfl rfl)
  obtain ⟨a2, len2, cap2, rfl⟩ := okWide_slice Tryd.underlying23 (hval 2 23 v2 rfl rfl)
  have lt1 : ∀ x ∈ p1, x.block < W.heap.size := by obtain ⟨m, hm⟩ := h1; exact DataW.trod_lt m _ _ _ hm
  have lt2 : ∀ x ∈ p2, x.block < W.heap.size := by obtain ⟨m, hm⟩ := h2; exact DataW.trod_lt m _ _ _ hm
  obtain ⟨b1, e1, l, hs1, hc1, hr1⟩ : ∃ (a : Option Addr) (cap : Nat) (l : List S36), [Value.slice a1 len1 cap1] = [.slice a l.length cap] ∧ l.length ≤ cap ∧ Kd.C k36 W a l.length l := by
    obtain ⟨m, hm⟩ := h1
    exact came_steps hm
  obtain ⟨b2, e2, ask, hs2, hc2, hr2⟩ : ∃ (a : Option Addr) (cap : Nat) (xs : List ByteArray), [Value.slice a2 len2 cap2] = [.slice a xs.length cap] ∧ xs.length ≤ cap ∧ Kd.C Kd.string W a xs.length xs := by
    obtain ⟨m, hm⟩ := h2
    exact came_cells hm
  injection hs1 with hs1 _
  injection hs1 with ha1 hl1 hcp1
  injection hs2 with hs2 _
  injection hs2 with ha2 hl2 hcp2
  subst ha1 hl1 hcp1 ha2 hl2 hcp2
  have htab := tab hL
  clear hA0 hval0
  simp only [List.append_nil] at hW'
  refine (fnlist_walk a0 a1 a2 cap1 cap2 l ask W hr1 hc1 hr2 hc2 htab (tab_size htab)).mono fun e W' ⟨he, bel⟩ => ?_
  subst he
  exact ⟨_, rfl, _, _, _, [], _, [], hW', trodAll_mk1 (shut_bool Tryd.underlying4 _), (trodAll_cons_mk (shut_int Tryd.underlying3 w0) (trodAll_cons_mk (Below.trod laidOut (by kernel_rfl) (of_decide_eq_true (by kernel_rfl)) h1 bel lt1) (trodAll_cons_mk (Below.trod laidOut (by kernel_rfl) (of_decide_eq_true (by kernel_rfl)) h2 bel lt2) trodAll_mk0))), rfl, bel.frame _, fun h => by cases h⟩

theorem said : Rows.FnListSaid :=
  OpenClaim.holds_of_wide 6 Tryd.f6 rfl rfl rfl rfl rfl rfl rfl ⟨rfl, rfl, rfl, rfl, rfl⟩ rfl rfl rfl rfl rfl (by kernel_rfl) Tryd.func6 (by kernel_rfl)
    (of_decide_eq_true (by kernel_rfl)) (by unfold Func.isWrapper; first | (rw [if_pos (by decide +kernel)]; kernel_rfl) | (rw [if_neg (by decide +kernel)]; exact ⟨rfl, rfl⟩))
    (fun os started H enc _ => lifted os started H enc)

theorem plain (f : FuncId) (fn : Func) (hf : Tryd.pinned.checked.prog.funcNamed "natschecks/laws.FnList" = some f) (hfn : Tryd.pinned.checked.prog.funcs[f]? = some fn) :
    true = Tryd.pinned.checked.prog.looks [] ∧ ∀ (j : Nat) t, fn.params[j]? = some t → Tryd.pinned.checked.prog.wantsStandIn t = false := by
  obtain rfl : f = 6 := Option.some.inj ((show Tryd.prog.funcNamed "natschecks/laws.FnList" = some 6 by kernel_rfl).symm.trans hf) |>.symm
  obtain rfl : fn = Tryd.f6 := (Option.some.inj (Tryd.func6.symm.trans hfn)).symm
  refine ⟨by kernel_rfl, fun j t ht => ?_⟩
  rw [Tryd.params6] at ht
  have hm : t ∈ [3, 33, 23] := by simpa using Array.mem_of_getElem? ht
  have hall : ([3, 33, 23].all fun u => !Tryd.prog.wantsStandIn u) = true := by kernel_rfl
  exact (show Tryd.prog.wantsStandIn t = false by simpa using List.all_eq_true.1 hall t hm)

theorem proved : Rows.FnListCardSaid :=
  Claim7.holds_tied_plain_at .later [] _ _ _ _ said (fun _ h => by cases h) (by kernel_rfl) (fun _ h => by cases h) fnList_row_tie rfl ⟨rfl, rfl⟩ (by kernel_rfl) rfl plain (by kernel_rfl)
#print axioms proved
end Go.Proofs.YtnbihmagbedfmaaDoorR.fnList
