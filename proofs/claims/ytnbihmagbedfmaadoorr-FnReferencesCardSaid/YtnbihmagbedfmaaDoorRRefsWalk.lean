/- impl.Renaming at the subjects of references; and: laws.FnReferences hands back true. -/
import Derived.Test.YtnbihmagbedfmaaDoorRRefsPure
import Derived.Laws.IdiomStrings
namespace Go.Proofs.YtnbihmagbedfmaaDoorR
open Go.RowKit Go.Proofs.YtnbihmagbedfmaaDoorRW.PrintWords
open Pl (hasSub toks toksA valid plain plainT okt okc join)

theorem rcell {w : World} {k : Nat} {v : Value} {t : TypeId} (h : w.heap[k]? = some (.cells #[v] t (0, 0))) : w.cell? ⟨k, 0, none⟩ = some v := cell_of_one h

set_option maxRecDepth 100000 in
theorem renaming1_any (B n : Nat) (v f : ByteArray) (w : World) (h : VR B 0 false w) (h0 : w.heap[n]? = some (.cells #[.string v] 9 (0, 0))) (h1 : w.heap[n + 1]? = some (.cells #[.string f] 9 (0, 0)))
    (hf : f.size ≤ 10000) (hf0 : (f.data.toList == []) = false) (hfit : fitsOf v.data.toList = true) (hsuf : isSuf v.data.toList = isSuf f.data.toList) :
    Calls Tryd.prog 32 #[.pointer (some ⟨B, 0, none⟩), .pointer (some ⟨n, 0, none⟩), .pointer (some ⟨n + 1, 0, none⟩)] w fun e w' => e = .returned (.tuple #[]) ∧ VS B 100000 (badOf (stars (toks 46 f.data.toList)) v.data.toList) w w' := by
  have c0 := cell_of_one h0
  have c1 := cell_of_one h1
  simp only [fitsOf, Bool.and_eq_true, Bool.not_eq_true', List.all_eq_true, decide_eq_true_eq, data_length] at hfit
  obtain ⟨⟨hbl, hok⟩, hlen⟩ := hfit
  have HV := Lib.hid (rvalidate_any B 0 false v f w w (VS.start h) (by omega) (by omega) hf hf0 hbl hsuf hok _ rfl)
  clear h h0 h1 hf0 hbl hok hsuf
  go_enter Tryd.func32, Tryd.ntmps32
  go_wp2_with fail
  refine HV.out.mono ?_
  rintro e w1 ⟨rfl, hv⟩
  go_wp2
  go_end0
  exact ⟨rfl, hv⟩

set_option maxRecDepth 100000 in
theorem renaming_any (v f : ByteArray) (w : World) (hf : f.size ≤ 10000) (hf0 : (f.data.toList == []) = false) (hfit : fitsOf v.data.toList = true) (hsuf : isSuf v.data.toList = isSuf f.data.toList) :
    Calls Tryd.prog 16 #[.string v, .string f] w fun e w' => e = .returned (.bool (!badOf (stars (toks 46 f.data.toList)) v.data.toList)) ∧ Below w.heap.size w w' := by
  have hmf : ∀ (fn : Fn) (first cap : Array Value) (w : World), (Instr.makeFunc fn first cap).run Tryd.prog w = .ok (.func fn first cap) w := fun _ _ _ _ => rfl
  obtain ⟨w2, hw2⟩ : ∃ w2 : World, w2 = (w.alloc (.cells #[.string v] 9)).alloc (.cells #[.string f] 9) := ⟨_, rfl⟩
  have hs2 : w2.heap.size = w.heap.size + 2 := by rw [hw2]; simp
  have hb2 : Below w.heap.size w w2 := by rw [hw2]; exact ((Below.refl _ _).alloc (Nat.le_refl _) _).alloc (by simp) _
  have g0 : w2.heap[w.heap.size]? = some (.cells #[.string v] 9 (0, 0)) := by
    rw [hw2]; exact (Below.heap_alloc _ _ _ (by simp)).trans (heap_alloc_new w _)
  have g1 : w2.heap[w.heap.size + 1]? = some (.cells #[.string f] 9 (0, 0)) := by
    rw [hw2]
    simpa using heap_alloc_new (w.alloc (.cells #[.string v] 9)) (.cells #[.string f] 9)
  have hch : Checks 32 #[.pointer (some ⟨w.heap.size, 0, none⟩), .pointer (some ⟨w.heap.size + 1, 0, none⟩)] w2.heap.size w2 (badOf (stars (toks 46 f.data.toList)) v.data.toList) := by
    intro W hb hbase
    have hbW : Below w2.heap.size w2 (W.alloc (.cells #[.slice none 0 0] 89)) := hb.alloc hbase _
    exact (renaming1_any W.heap.size w.heap.size v f _ (VR.fresh W) ((hbW.block _ (by omega)).trans g0) ((hbW.block _ (by omega)).trans g1) hf hf0 hfit hsuf).mono fun e w' ⟨he, hv⟩ => ⟨he, _, hv⟩
  have HF := Lib.hid (fine_any _ _ _ w2 (fun r W => by simp [go_sem]) hch)
  have HB := Lib.hid hb2
  clear hch hs2 hb2 g0 g1 hf0 hfit hsuf
  generalize badOf (stars (toks 46 f.data.toList)) v.data.toList = bd at *
  go_enter Tryd.func16, Tryd.ntmps16
  go_wp2_with fail
  rw [← hw2]
  refine HF.out.mono ?_
  rintro e w1 ⟨rfl, hb⟩
  clear hw2
  go_wp2
  go_ret
  exact ⟨by simp, HB.out.trans (hb.mono HB.out.size)⟩

theorem build_len (k : Nat) (hk : k ≤ 9) (y : ByteArray) (hy : y.data.toList = build k false) : y.size ≤ 100 := by
  have h : ∀ k : Fin 10, (build k.val false).length ≤ 100 := by decide +kernel
  rw [← data_length, hy]
  exact h ⟨k, by omega⟩
theorem endB_list (b : Bool) : (endB b).data.toList = if b then [46, 62] else [] := by cases b <;> rfl

set_option maxRecDepth 100000 in
set_option maxHeartbeats 2000000 in
theorem references_at (f : ByteArray) (w : World) (hs : f.size ≤ 60) (hp : plain f.data.toList = true) (b : Bool) (hw : ∀ w, Hid (Calls Tryd.prog 14 #[.string f] w fun e w' => e = .returned (.bool true) ∧ Below w.heap.size w w')) (K : Nat) (hK : stars (toks 46 f.data.toList) = K) (hK8 : K ≤ 8) (hb : endT (toks 46 f.data.toList) = b) :
    Calls Tryd.prog 5 #[.string f] w fun e w' => e = .returned (.bool true) ∧ Below w.heap.size w w' := by
  have H0 := Acc.refl w
  have hpl := plain_any f (by omega) w
  rw [hp] at hpl
  have HP := Lib.hid hpl
  have hsuf : isSuf f.data.toList = b := by rw [suf_plain _ hp, hb]
  have hne : (f.data.toList == []) = false := by
    rw [beq_eq_false_iff_ne]
    intro e
    rw [e] at hp
    exact absurd hp (by decide)
  have hst := fun w' => stars_any f (by omega) w'
  rw [hK, hb] at hst
  have HS := fun w' => Lib.hid (hst w')
  obtain ⟨⟨f1, f2, f3⟩, ⟨f4, f5, f6⟩⟩ := build_facts K hK8 b
  have hR1 : ∀ v : ByteArray, v.data.toList = build K b → ∀ w', Hid (Calls Tryd.prog 16 #[.string v, .string f] w' fun e w'' => e = .returned (.bool true) ∧ Below w'.heap.size w' w'') := fun v hv w' => by
    have := renaming_any v f w' (by omega) hne (by rw [hv]; exact f1) (by rw [hv, hsuf]; exact f2)
    rw [hK, hv, f3] at this
    exact this
  have hR2 : ∀ v : ByteArray, v.data.toList = build (K + 1) b → ∀ w', Hid (Calls Tryd.prog 16 #[.string v, .string f] w' fun e w'' => e = .returned (.bool false) ∧ Below w'.heap.size w' w'') := fun v hv w' => by
    have := renaming_any v f w' (by omega) hne (by rw [hv]; exact f4) (by rw [hv, hsuf]; exact f5)
    rw [hK, hv, f6] at this
    exact this
  have HR1 := Lib.hid hR1
  have HR2 := Lib.hid hR2
  clear hpl hp hsuf hne hst f1 f2 f3 f4 f5 f6 hR1 hR2 hK hb
  go_enter Tryd.func5, Tryd.ntmps5
  go_wp2_with fail
  refine HP.out.mono ?_
  rintro e w1 ⟨rfl, hb1⟩
  have H1 := Acc.step H0 hb1
  clear hb1 H0 HP
  go_wp2_with fail
  refine (hw _).out.mono ?_
  rintro e w2 ⟨rfl, hb2⟩
  have H2 := Acc.step H1 hb2
  clear hb2 H1 hw
  go_wp2_with fail
  refine (HS _).out.mono ?_
  rintro e w3 ⟨rfl, hb3⟩
  have H3 := Acc.step H2 hb3
  clear hb3 H2 HS
  go_wp2_with fail
  go_loopw [28, 5, 6] (fun i x _ wr => ∃ k : Nat, k ≤ K ∧ i = .int .i64 k ∧ (∃ y : ByteArray, x = .string y ∧ Hid (y.data.toList = build k false)) ∧ Acc w wr) (fun i _ _ _ => K - (intOf i).toNat)
  case atStart => exact ⟨0, Nat.zero_le _, rfl, ⟨_, rfl, rfl⟩, H3⟩
  case round =>
    clear H3
    obtain ⟨k, hk, rfl, ⟨y, rfl, hy⟩, hv⟩ := hrel
    have hysz := build_len k (by omega) y hy
    have hesz : (endB b).size ≤ 2 := by cases b <;> decide
    by_cases hlt : k < K
    · obtain ⟨d, hd⟩ : ∃ d : UInt8, d = UInt8.ofNat (49 + k) := ⟨_, rfl⟩
      have hdn : (d.toNat : Int) = 49 + (k : Int) := by rw [hd]; simp; omega
      have hback : (convert 28 9 (.slice (some ⟨wr.heap.size, 0, none⟩) 1 1)).run Tryd.prog (wr.alloc (.cells #[.int .u8 (49 + (k : Int))] 5)) = .ok (.string ⟨#[d]⟩) (wr.alloc (.cells #[.int .u8 (49 + (k : Int))] 5)) :=
        run_convert_bytes_back (P := Tryd.prog) _ 28 9 5 ⟨wr.heap.size, 0, none⟩ 1 [d] Tryd.underlying28 Tryd.underlying5 Tryd.underlying9 (fun j hj => by
          obtain rfl : j = 0 := by simp at hj; omega
          show (wr.alloc (.cells #[.int .u8 (49 + (k : Int))] 5)).cell? ⟨wr.heap.size, 0, none⟩ = some (.int .u8 (d.toNat : Int))
          rw [hdn]
          exact World.cell?_alloc_new _ _ _ _)
      have HD := Lib.hid hd
      clear hd hdn
      go_wp2_with fail
      go_roundw
      case rel => exact ⟨k + 1, by omega, by go_num, ⟨_, rfl, by show _ = _; rw [build_step, ← hy, ← HD.out]; simp [ByteArray.data_append]⟩, hv.alloc _⟩
      case measure => simp [intOf]; omega
    · obtain rfl : k = K := by omega
      clear hlt hk
      go_wp2_with fail
      refine (HR1.out _ ?_ _).out.mono ?_
      · rw [build_end, ← hy, ← endB_list]; simp [ByteArray.data_append]
      rintro e w4 ⟨rfl, hb4⟩
      have H4 := Acc.step hv hb4
      clear hv hb4
      obtain ⟨d, hd⟩ : ∃ d : UInt8, d = UInt8.ofNat (49 + k) := ⟨_, rfl⟩
      have hdn : (d.toNat : Int) = 49 + (k : Int) := by rw [hd]; simp; omega
      have hback : (convert 28 9 (.slice (some ⟨w4.heap.size, 0, none⟩) 1 1)).run Tryd.prog (w4.alloc (.cells #[.int .u8 (49 + (k : Int))] 5)) = .ok (.string ⟨#[d]⟩) (w4.alloc (.cells #[.int .u8 (49 + (k : Int))] 5)) :=
        run_convert_bytes_back (P := Tryd.prog) _ 28 9 5 ⟨w4.heap.size, 0, none⟩ 1 [d] Tryd.underlying28 Tryd.underlying5 Tryd.underlying9 (fun j hj => by
          obtain rfl : j = 0 := by simp at hj; omega
          show (w4.alloc (.cells #[.int .u8 (49 + (k : Int))] 5)).cell? ⟨w4.heap.size, 0, none⟩ = some (.int .u8 (d.toNat : Int))
          rw [hdn]
          exact World.cell?_alloc_new _ _ _ _)
      have HD := Lib.hid hd
      clear hd hdn
      go_wp2_with fail
      have H5 := Acc.alloc H4 (.cells #[.int .u8 (49 + (k : Int))] 5)
      refine (HR2.out _ ?_ _).out.mono ?_
      · rw [build_end, build_step, ← hy, ← endB_list, ← HD.out]; simp [ByteArray.data_append]
      rintro e w5 ⟨rfl, hb5⟩
      have H6 := Acc.step H5 hb5
      clear hb5 H4 H5 hback
      go_wp2_with (go_at_call 9; refine (works_any _).mono ?_; rintro e w1 ⟨rfl, hb⟩; have H7 := Acc.step H6 hb)
      go_ret
      exact ⟨rfl, H7.out⟩

set_option maxRecDepth 100000 in
theorem fnreferences_walk (f : ByteArray) (w : World) :
    Calls Tryd.prog 5 #[.string f] w fun e w' => e = .returned (.bool true) ∧ Below w.heap.size w w' := by
  have H0 := Acc.refl w
  by_cases hs : f.size ≤ 2147483647
  · cases hp : plain f.data.toList with
    | false =>
      have hpl := plain_any f (by omega) w
      rw [hp] at hpl
      have HP := Lib.hid hpl
      clear hpl hp
      go_enter Tryd.func5, Tryd.ntmps5
      go_wp2_with (first | (go_at_call 11; with_reducible refine HP.out.mono ?_; rintro e w1 ⟨rfl, hb⟩; have H1 := Acc.step (by assumption) hb) | (go_at_call 9; refine (works_any _).mono ?_; rintro e w1 ⟨rfl, hb⟩; have H1 := Acc.step (by assumption) hb))
      go_ret
      exact ⟨rfl, H1.out⟩
    | true =>
      have hs60 : f.size ≤ 60 := by
        have := hp
        simp only [plain, Bool.and_eq_true, decide_eq_true_eq] at this
        rw [← data_length]; exact this.2
      obtain ⟨b, hbw⟩ := wild_bool f (by omega)
      cases b with
      | false =>
        have hpl := plain_any f (by omega) w
        rw [hp] at hpl
        have HP := Lib.hid hpl
        have HW := fun w => Lib.hid (hbw w)
        clear hpl hp hbw
        go_enter Tryd.func5, Tryd.ntmps5
        go_wp2_with (first | (go_at_call 11; with_reducible refine HP.out.mono ?_; rintro e w1 ⟨rfl, hb⟩; have H1 := Acc.step (by assumption) hb) | (go_at_call 14; with_reducible refine (HW _).out.mono ?_; rintro e w1 ⟨rfl, hb⟩; have H1 := Acc.step (by assumption) hb) | (go_at_call 9; refine (works_any _).mono ?_; rintro e w1 ⟨rfl, hb⟩; have H1 := Acc.step (by assumption) hb))
        go_ret
        exact ⟨rfl, H1.out⟩
      | true =>
        by_cases h8 : stars (toks 46 f.data.toList) ≤ 8
        · exact references_at f w hs60 hp _ (fun w => Lib.hid (hbw w)) _ rfl h8 rfl
        · have hpl := plain_any f (by omega) w
          rw [hp] at hpl
          have HP := Lib.hid hpl
          have HW := fun w => Lib.hid (hbw w)
          have HS := fun w' => Lib.hid (stars_any f (by omega) w')
          have h9 : 8 < stars (toks 46 f.data.toList) := by omega
          generalize stars (toks 46 f.data.toList) = K at *
          generalize endB (endT (toks 46 f.data.toList)) = eb at *
          clear hpl hp hbw h8
          go_enter Tryd.func5, Tryd.ntmps5
          go_wp2_with (first | (go_at_call 11; with_reducible refine HP.out.mono ?_; rintro e w1 ⟨rfl, hb⟩; have H1 := Acc.step (by assumption) hb) | (go_at_call 14; with_reducible refine (HW _).out.mono ?_; rintro e w1 ⟨rfl, hb⟩; have H1 := Acc.step (by assumption) hb) | (go_at_call 15; with_reducible refine (HS _).out.mono ?_; rintro e w1 ⟨rfl, hb⟩; have H1 := Acc.step (by assumption) hb) | (go_at_call 9; refine (works_any _).mono ?_; rintro e w1 ⟨rfl, hb⟩; have H1 := Acc.step (by assumption) hb))
          go_ret
          exact ⟨rfl, H1.out⟩
  · have hC : 2147483647 < f.size := by omega
    clear hs
    go_enter Tryd.func5, Tryd.ntmps5
    go_wp2
    go_ret
    exact ⟨rfl, H0.out⟩
end Go.Proofs.YtnbihmagbedfmaaDoorR
