/- The contract of spec.Small: a text in small letters of ASCII. -/
import Derived.Test.YtnbihmagbedfmaaDoorRTexts
import Derived.Laws.IdiomStrings
import Derived.Lib.ConvBytes
import Derived.Lib.Case
import Derived.Lib.Hide
import Derived.WalkKit
namespace Go.Proofs.YtnbihmagbedfmaaDoorR
open Go.RowKit Go.Proofs.YtnbihmagbedfmaaDoorRW.PrintWords

def smallT (s : ByteArray) : ByteArray := ⟨(Lib.toLowerA s.data.toList).toArray⟩

def half (l : List UInt8) (i j : Nat) (h : j < l.length) : UInt8 := if j < i then Lib.lowerB l[j] else l[j]

structure SmallAt (k : Nat) (l : List UInt8) (i : Nat) (w0 w : World) : Prop where
  below : Below w0.heap.size w0 w
  cell : ∀ j (hj : j < l.length), w.cell? ⟨k, j, none⟩ = some (.int .u8 ((half l i j hj).toNat : Int))
  free : ∀ j, j < l.length → w.frozen? ⟨k, j, none⟩ = false

theorem low_of {b : UInt8} : (65 ≤ b.toNat ∧ b.toNat ≤ 90) → (Lib.lowerB b).toNat = b.toNat + 32 := by
  intro h
  have h1 : Lib.isUpperB b = true := by
    unfold Lib.isUpperB
    simp only [Bool.and_eq_true, decide_eq_true_eq, UInt8.le_iff_toNat_le]
    exact ⟨h.1, h.2⟩
  unfold Lib.lowerB
  rw [if_pos h1, UInt8.toNat_add]
  have : (32 : UInt8).toNat = 32 := rfl
  omega
theorem low_not {b : UInt8} : ¬ (65 ≤ b.toNat ∧ b.toNat ≤ 90) → Lib.lowerB b = b := by
  intro h
  have h1 : ¬ Lib.isUpperB b = true := by
    unfold Lib.isUpperB
    simp only [Bool.and_eq_true, decide_eq_true_eq, UInt8.le_iff_toNat_le]
    exact h
  unfold Lib.lowerB
  rw [if_neg h1]

theorem smallAt_put {g : Nat} {l : List UInt8} {k : Nat} {w0 w : World} (h : SmallAt g l k w0 w) (hg : w0.heap.size ≤ g) (hlt : k < l.length) (n : Int) (hn : n = ((Lib.lowerB l[k]).toNat : Int)) : SmallAt g l (k + 1) w0 (w.setCell ⟨g, k, none⟩ (.int .u8 n)) := by
  have hold := h.cell k hlt
  subst hn
  refine ⟨h.below.setCell (p := ⟨g, k, none⟩) hg _, fun j hj => ?_, fun j hj => ?_⟩
  · by_cases hjk : j = k
    · subst hjk
      rw [World.cell?_setCell_same _ _ _ hold]
      simp [half]
    · rw [World.cell?_setCell_other _ _ _ _ (by intro e; injection e with _ e _; exact hjk e.symm)]
      rw [h.cell j hj]
      have : half l k j hj = half l (k + 1) j hj := by
        unfold half
        by_cases h1 : j < k
        · rw [if_pos h1, if_pos (by omega)]
        · rw [if_neg h1, if_neg (by omega)]
      rw [this]
  · rw [World.frozen?_setCell]; exact h.free j hj
theorem smallAt_same {g : Nat} {l : List UInt8} {k : Nat} {w0 w : World} (h : SmallAt g l k w0 w) (hlt : k < l.length) (hn : Lib.lowerB l[k] = l[k]) : SmallAt g l (k + 1) w0 w := by
  refine ⟨h.below, fun j hj => ?_, h.free⟩
  rw [h.cell j hj]
  have : half l k j hj = half l (k + 1) j hj := by
    unfold half
    by_cases h1 : j < k
    · rw [if_pos h1, if_pos (by omega)]
    · by_cases h2 : j = k
      · subst h2
        rw [if_neg h1, if_pos (by omega), hn]
      · rw [if_neg h1, if_neg (by omega)]
  rw [this]

set_option maxRecDepth 100000 in
set_option maxHeartbeats 2000000 in
theorem small_any (s : ByteArray) (hs : s.size ≤ 4294967296) (w : World) :
    Calls Tryd.prog 8 #[.string s] w fun e w' => e = .returned (.string (smallT s)) ∧ Below w.heap.size w w' := by
  have hconv := Lib.run_convert_string_bytes (P := Tryd.prog) w 9 28 5 s Tryd.underlying9 Tryd.underlying28 Tryd.underlying5
  obtain ⟨l, hl⟩ : ∃ l, l = s.data.toList := ⟨_, rfl⟩
  have hlen : s.size = l.length := by rw [hl, data_length]
  have hfz : ∀ j, j < l.length → (Lib.bytesWorld w 5 s).frozen? ⟨w.heap.size, j, none⟩ = false := fun j hj => by
    have h1 : s.size ≤ (Lib.bytesCells w 5 s).size := by
      have h2 : (s.data.map fun b => Value.int .u8 b.toNat).size = s.size := by simp
      unfold Lib.bytesCells; rw [Array.size_append, h2]; omega
    have h3 : ¬ (Lib.bytesCells w 5 s).size ≤ j := by omega
    simp [World.frozen?, Lib.bytesWorld_at_new, h3]
  have hst : SmallAt w.heap.size l 0 w (Lib.bytesWorld w 5 s) := by
    refine ⟨⟨rfl, rfl, rfl, by rw [Lib.bytesWorld_size]; omega, fun i hi => Lib.bytesWorld_at_old w _ s i hi⟩, fun j hj => ?_, fun j hj => ?_⟩
    · rw [Lib.bytesWorld_cell w _ s j (by omega)]
      subst hl
      simp [half, List.getD_eq_getElem?_getD, List.getElem?_eq_getElem hj]
    · exact hfz j hj
  generalize Lib.bytesWorld w 5 s = w1 at hconv hst
  generalize grownCap w s.size 0 5 = cap at hconv
  have hsm : smallT s = ⟨(l.map Lib.lowerB).toArray⟩ := by rw [hl]; rfl
  rw [hsm]
  clear hsm
  rw [hlen] at hconv
  have hl32 : l.length ≤ 4294967296 := by omega
  clear hl hlen hs
  go_enter Tryd.func8, Tryd.ntmps8
  go_wp2

  go_wp2

  go_loopw [10, 4, 5] (fun i _ _ wr => ∃ k : Nat, k ≤ l.length ∧ i = .int .i64 k ∧ SmallAt w.heap.size l k w wr) (fun i _ _ _ => l.length - (intOf i).toNat)
  case atStart => exact ⟨0, Nat.zero_le _, rfl, hst⟩
  case round =>
    clear hconv hst
    obtain ⟨k, hk, rfl, hv⟩ := hrel
    by_cases hlt : k < l.length
    · have hc := hv.cell k hlt
      have hf := hv.free k hlt
      have hh : half l k k hlt = l[k] := by simp [half]
      rw [hh] at hc
      have hnx := Lib.hid (smallAt_put hv (Nat.le_refl _) hlt)
      have hsame := Lib.hid (smallAt_same hv hlt)
      generalize l[k] = b at *
      by_cases h1 : 65 ≤ b.toNat ∧ b.toNat ≤ 90
      · have hlo := Lib.hid (low_of h1)
        obtain ⟨h1, h2⟩ := h1
        go_wp2
        go_roundw
        case rel => exact ⟨k + 1, by omega, by go_num, hnx.out _ (by have := hlo.out; omega)⟩
        case measure => simp [intOf]; omega
      · have hlo := Lib.hid (low_not h1)
        by_cases h2 : 65 ≤ b.toNat
        · have h3 : 90 < b.toNat := by omega
          clear h1
          go_wp2
          go_roundw
          case rel => exact ⟨k + 1, by omega, by go_num, hsame.out hlo.out⟩
          case measure => simp [intOf]; omega
        · clear h1
          go_wp2
          go_roundw
          case rel => exact ⟨k + 1, by omega, by go_num, hsame.out hlo.out⟩
          case measure => simp [intOf]; omega
    · obtain rfl : k = l.length := by omega
      have hback := run_convert_bytes_back (P := Tryd.prog) wr 28 9 5 ⟨w.heap.size, 0, none⟩ cap (l.map Lib.lowerB) Tryd.underlying28 Tryd.underlying5 Tryd.underlying9 (fun j hj => by
        have hj' : j < l.length := by simpa using hj
        have e : (⟨w.heap.size, 0, none⟩ : Addr).add j = ⟨w.heap.size, j, none⟩ := by unfold Addr.add; split <;> simp_all
        rw [e, hv.cell j hj']
        simp [half, hj'])
      rw [List.length_map] at hback
      have hb := Lib.hid hv.below
      clear hv hk hlt
      go_wp2
      go_ret
      exact ⟨rfl, hb.out⟩
end Go.Proofs.YtnbihmagbedfmaaDoorR
