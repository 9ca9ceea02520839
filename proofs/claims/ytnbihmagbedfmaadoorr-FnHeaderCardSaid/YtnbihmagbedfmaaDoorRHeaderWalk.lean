/- impl.Header, and: laws.FnHeader hands back true. -/
import Derived.Test.YtnbihmagbedfmaaDoorRHeader

namespace Go.Proofs.YtnbihmagbedfmaaDoorR
open Go.RowKit Go.Proofs.YtnbihmagbedfmaaDoorRW.PrintWords
open Pl (wordc wordt wordsT)

theorem row_cell {w : World} {k j : Nat} {cs : Array Value} {t : TypeId} {fr : Nat × Nat} (h : w.heap[k]? = some (.cells cs t fr)) {v : Value} (hv : cs[j]? = some v) : w.cell? ⟨k, j, none⟩ = some v := by
  simp [World.cell?, h, hv]

set_option maxRecDepth 100000 in
theorem header1_any (n : Nat) (a b : ByteArray) (w : World) (h0 : w.heap[n]? = some (.cells #[.string a] 9 (0, 0))) (h1 : w.heap[n + 1]? = some (.cells #[.string b] 9 (0, 0))) (h2 : w.heap[n + 2]? = some (.cells #[.bool false] 4 (0, 0)))
    (hk : ∀ x ∈ a.data.toList, x.toNat < 128) (ha : ∀ x ∈ b.data.toList, x.toNat < 128) (hs0 : a.size ≤ 2147483647) (hs1 : b.size ≤ 2147483647) :
    Calls Tryd.prog 27 #[.pointer (some ⟨n, 0, none⟩), .pointer (some ⟨n + 1, 0, none⟩), .pointer (some ⟨n + 2, 0, none⟩)] w fun e w' => e = .returned (.tuple #[]) ∧
      w'.heap[n + 2]? = some (.cells #[.bool (isJwt a.data.toList && isAlg b.data.toList)] 4 (0, 0)) ∧ w.heap.size ≤ w'.heap.size ∧ w'.os = w.os ∧ w'.tape = w.tape ∧ w'.output = w.output ∧ (∀ k, k < w.heap.size → k ≠ n + 2 → w'.heap[k]? = w.heap[k]?) := by
  have c0 := cell_of_one h0
  have c1 := cell_of_one h1
  have l2 := lt_of_block h2
  have hu := hvalid_any w.heap.size a b (w.alloc (.cells #[.string a, .string b] 47)) (row_cell (heap_alloc_new w _) rfl) (row_cell (heap_alloc_new w _) rfl) hk ha hs0 hs1
  have hb0 : Below w.heap.size w (w.alloc (.cells #[.string a, .string b] 47)) := (Below.refl _ _).alloc (Nat.le_refl _) _
  have h2' : (w.alloc (.cells #[.string a, .string b] 47)).heap[n + 2]? = some (.cells #[.bool false] 4 (0, 0)) := (Below.heap_alloc _ _ _ l2).trans h2
  generalize (isJwt a.data.toList && isAlg b.data.toList) = res at *
  have HU := Lib.hid hu
  clear h0 h1 h2 hu hk ha
  go_enter Tryd.func27, Tryd.ntmps27
  go_wp2_with fail
  refine HU.out.mono ?_
  rintro e w1 ⟨⟨r, rfl, hr⟩, hb⟩
  have hb1 : Below w.heap.size w w1 := hb0.trans (hb.mono hb0.size)
  have h3 := (hb.block _ (lt_of_block h2')).trans h2'
  have d3 := cell_of_one h3
  have f3 := free_of_one h3
  have H3 := Lib.hid h3
  have HB := Lib.hid hb1
  clear h2' h3 hb hb0 hb1 HU
  have hend : ∀ v : Value, (w1.setCell ⟨n + 2, 0, none⟩ v).heap.size = w1.heap.size := fun v => by simp [World.setCell]
  cases res
  · obtain ⟨t, v, rfl⟩ : ∃ t v, r = .iface t v := hr
    have hend := Lib.hid hend
    go_wp2
    go_end0
    refine ⟨rfl, one_setCell H3.out, by rw [hend.out]; exact HB.out.size, HB.out.os, HB.out.tape, HB.out.output, fun k hk hne => ?_⟩
    rw [Below.heap_setCell _ _ _ _ hne]
    exact HB.out.block k hk
  · obtain rfl : r = .nilIface := hr
    have hend := Lib.hid hend
    go_wp2
    go_end0
    refine ⟨rfl, one_setCell H3.out, by rw [hend.out]; exact HB.out.size, HB.out.os, HB.out.tape, HB.out.output, fun k hk hne => ?_⟩
    rw [Below.heap_setCell _ _ _ _ hne]
    exact HB.out.block k hk

set_option maxRecDepth 100000 in
theorem header_any (a b : ByteArray) (w : World) (hk : ∀ x ∈ a.data.toList, x.toNat < 128) (ha : ∀ x ∈ b.data.toList, x.toNat < 128) (hs0 : a.size ≤ 2147483647) (hs1 : b.size ≤ 2147483647) :
    Calls Tryd.prog 10 #[.string a, .string b] w fun e w' => e = .returned (.bool (isJwt a.data.toList && isAlg b.data.toList)) ∧ Below w.heap.size w w' := by
  have hmf : ∀ (fn : Fn) (first cap : Array Value) (w : World), (Instr.makeFunc fn first cap).run Tryd.prog w = .ok (.func fn first cap) w := fun _ _ _ _ => rfl
  obtain ⟨w2, hw2⟩ : ∃ w2 : World, w2 = ((w.alloc (.cells #[.string a] 9)).alloc (.cells #[.string b] 9)).alloc (.cells #[.bool false] 4) := ⟨_, rfl⟩
  have hs2 : w2.heap.size = w.heap.size + 3 := by rw [hw2]; simp
  have hb2 : Below w.heap.size w w2 := by
    rw [hw2]; exact (((Below.refl _ _).alloc (Nat.le_refl _) _).alloc (by simp) _).alloc (by simp; omega) _
  have g0 : w2.heap[w.heap.size]? = some (.cells #[.string a] 9 (0, 0)) := by
    rw [hw2]; exact (Below.heap_alloc _ _ _ (by simp; omega)).trans ((Below.heap_alloc _ _ _ (by simp)).trans (heap_alloc_new w _))
  have g1 : w2.heap[w.heap.size + 1]? = some (.cells #[.string b] 9 (0, 0)) := by
    rw [hw2]; refine (Below.heap_alloc _ _ _ (by simp)).trans ?_
    simpa using heap_alloc_new (w.alloc (.cells #[.string a] 9)) (.cells #[.string b] 9)
  have g2 : w2.heap[w.heap.size + 2]? = some (.cells #[.bool false] 4 (0, 0)) := by
    rw [hw2]
    simpa using heap_alloc_new ((w.alloc (.cells #[.string a] 9)).alloc (.cells #[.string b] 9)) (.cells #[.bool false] 4)
  have hold : ∀ k, k < w2.heap.size → (w2.alloc (.cells #[.bool false] 4)).heap[k]? = w2.heap[k]? := fun k hk => Below.heap_alloc _ _ _ hk
  have h1 := header1_any w.heap.size a b (w2.alloc (.cells #[.bool false] 4)) ((hold _ (by omega)).trans g0) ((hold _ (by omega)).trans g1) ((hold _ (by omega)).trans g2) hk ha hs0 hs1
  generalize (isJwt a.data.toList && isAlg b.data.toList) = res at *
  have hq := quiet_any 27 #[.pointer (some ⟨w.heap.size, 0, none⟩), .pointer (some ⟨w.heap.size + 1, 0, none⟩), .pointer (some ⟨w.heap.size + 2, 0, none⟩)] w2
    (fun w' => Below w.heap.size w w' ∧ w'.heap[w.heap.size + 2]? = some (.cells #[.bool res] 4 (0, 0))) (fun W => by simp [go_sem])
    (h1.mono fun e w' ⟨he, k1, k2, k3, k4, k5, k6⟩ => ⟨he, (k6 _ (by simp) (by omega)).trans (heap_alloc_new _ _), hb2.trans ⟨k3, k4, k5, by simp at k2; omega, fun i hi => (k6 i (by simp; omega) (by omega)).trans (hold i (by omega))⟩, k1⟩)
  have HQ := Lib.hid hq
  clear hq h1 hold g0 g1 g2 hb2 hk ha
  have HS := Lib.hid hs2
  clear hs2
  go_enter Tryd.func10, Tryd.ntmps10
  go_wp2_with fail
  rw [← hw2]
  refine HQ.out.mono ?_
  rintro e w3 ⟨rfl, w1, h1, ⟨h2, h3⟩, hw3⟩
  have hb3 : Below w.heap.size w w3 := by rw [hw3]; exact h2.setCell (p := ⟨w2.heap.size, 0, none⟩) (by show w.heap.size ≤ w2.heap.size; have := HS.out; omega) _
  have hd3 : w3.heap[w.heap.size + 2]? = some (.cells #[.bool res] 4 (0, 0)) := by
    rw [hw3, Below.heap_setCell _ _ _ _ (by show w.heap.size + 2 ≠ w2.heap.size; have := HS.out; omega)]; exact h3
  clear hw3 h1 h2 h3 HQ HS hw2
  have hc3 := cell_of_one hd3
  have hf3 := free_of_one hd3
  have HB3 := Lib.hid hb3
  have HD3 := Lib.hid hd3
  clear hb3 hd3
  go_wp2
  have hcs := cell_of_one (one_setCell (u := .bool res) HD3.out)
  refine bodyPost_ret (v := .bool res) ?_ rfl ⟨rfl, HB3.out.setCell (p := ⟨w.heap.size + 2, 0, none⟩) (by show w.heap.size ≤ w.heap.size + 2; omega) _⟩
  simp [results, Tryd.results10, go_sem]
  rw [hcs]

theorem own_one (s : ByteArray) (w : World) : Kd.C Kd.string (w.alloc (.cells #[.string s] 9)) (some ⟨w.heap.size, 0, none⟩) 1 [s] := by
  have h : ReadsOf Value.string ByteArray.empty (w.alloc (.cells #[.string s] 9)) (some ⟨w.heap.size, 0, none⟩) 1 [s] := ⟨rfl, by decide, fun _ => ⟨_, rfl, fun j hj => by
    obtain rfl : j = 0 := by omega
    exact World.cell?_alloc_new _ _ _ _⟩⟩
  exact Kd.C_of_reads h

theorem words_one (s : ByteArray) (hs : s.size ≤ 4294967296) (w : World) (b : Bool) (hb : wordt s.data.toList = b) :
    Calls Tryd.prog 7 #[.slice (some ⟨w.heap.size, 0, none⟩) 1 1] (w.alloc (.cells #[.string s] 9)) fun e w' => e = .returned (.bool b) ∧ Below w.heap.size w w' := by
  have h := words_any (some ⟨w.heap.size, 0, none⟩) 1 [s] (w.alloc (.cells #[.string s] 9)) (own_one s w) (by simp) (by simp [big]) (by simp [big]; exact hs)
  refine h.mono fun e w' ⟨he, hd⟩ => ⟨?_, ?_⟩
  · rw [he]; simp [wordsT, lists, hb]
  · obtain ⟨n, rfl⟩ := hd.out
    exact (((Acc.refl w).alloc _).drewN n).out

set_option maxRecDepth 100000 in
set_option maxHeartbeats 8000000 in
/-- The walk, at texts whose tests are decided. -/
theorem fnheader_at (a b sa sb : ByteArray) (w : World) (j q e f m n wb : Bool) (hA : a.size ≤ 2147483647) (hB : b.size ≤ 2147483647)
    (hW : ∀ w', Hid (Calls Tryd.prog 7 #[.slice (some ⟨w'.heap.size, 0, none⟩) 1 1] (w'.alloc (.cells #[.string a] 9)) fun e w'' => e = .returned (.bool true) ∧ Below w'.heap.size w' w''))
    (hV : ∀ w', Hid (Calls Tryd.prog 7 #[.slice (some ⟨w'.heap.size, 0, none⟩) 1 1] (w'.alloc (.cells #[.string b] 9)) fun e w'' => e = .returned (.bool wb) ∧ Below w'.heap.size w' w''))
    (hSa : ∀ w', Hid (Calls Tryd.prog 8 #[.string a] w' fun e w'' => e = .returned (.string sa) ∧ Below w'.heap.size w' w''))
    (hSb : ∀ w', Hid (Calls Tryd.prog 8 #[.string b] w' fun e w'' => e = .returned (.string sb) ∧ Below w'.heap.size w' w''))
    (hH : (j = true ∨ q = false) → b.size ≤ 20 → (e = true ∨ f = false) → (m = true ∨ n = true ∨ wb = true) → ∀ w', Hid (Calls Tryd.prog 10 #[.string a, .string b] w' fun e w'' => e = .returned (.bool (j && (m || n))) ∧ Below w'.heap.size w' w''))
    (ej : (a.toList == [74, 87, 84]) = j) (eq : (sa.toList == [106, 119, 116]) = q) (ee : (b.toList == sb.toList) = e) (ef : (sb.toList == [101, 100, 50, 53, 53, 49, 57]) = f)
    (em : (b.toList == [101, 100, 50, 53, 53, 49, 57, 45, 110, 107, 101, 121]) = m) (en : (b.toList == [101, 100, 50, 53, 53, 49, 57]) = n) :
    Calls Tryd.prog 3 #[.string a, .string b] w fun e w' => e = .returned (.bool true) ∧ Below w.heap.size w w' := by
  have H0 := Acc.refl w
  have h1 : j = true ∨ (j = false ∧ q = false) ∨ (j = false ∧ q = true) := by cases j <;> cases q <;> simp
  have h2 : b.size ≤ 20 ∨ 20 < b.size := by omega
  have h3 : e = true ∨ (e = false ∧ f = false) ∨ (e = false ∧ f = true) := by cases e <;> cases f <;> simp
  have h4 : m = true ∨ (m = false ∧ n = true) ∨ (m = false ∧ n = false ∧ wb = true) ∨ (m = false ∧ n = false ∧ wb = false) := by cases m <;> cases n <;> cases wb <;> simp
  rcases h1 with rfl | ⟨rfl, rfl⟩ | ⟨rfl, rfl⟩
  · rcases h2 with h2 | h2
    · rcases h3 with rfl | ⟨rfl, rfl⟩ | ⟨rfl, rfl⟩
      · rcases h4 with rfl | ⟨rfl, rfl⟩ | ⟨rfl, rfl, rfl⟩ | ⟨rfl, rfl, rfl⟩
        · have HH := hH (by simp) h2 (by simp) (by simp)
          clear hH
          go_enter Tryd.func3, Tryd.ntmps3
          go_wp2_with (first | (go_at_call 7; (first | (with_reducible refine (hW _).out.mono ?_) | (with_reducible refine (hV _).out.mono ?_)); rintro e w1 ⟨rfl, hb⟩; have H1 := Acc.step (by assumption) hb) | (go_at_call 9; refine (works_any _).mono ?_; rintro e w1 ⟨rfl, hb⟩; have H1 := Acc.step (by assumption) hb) | (go_at_call 8; (first | (with_reducible refine (hSa _).out.mono ?_) | (with_reducible refine (hSb _).out.mono ?_)); rintro e w1 ⟨rfl, hb⟩; have H1 := Acc.step (by assumption) hb) | (go_at_call 10; with_reducible refine (HH _).out.mono ?_; rintro e w1 ⟨rfl, hb⟩; have H1 := Acc.step (by assumption) hb))
          go_ret
          exact ⟨rfl, H1.out⟩
        · have HH := hH (by simp) h2 (by simp) (by simp)
          clear hH
          go_enter Tryd.func3, Tryd.ntmps3
          go_wp2_with (first | (go_at_call 7; (first | (with_reducible refine (hW _).out.mono ?_) | (with_reducible refine (hV _).out.mono ?_)); rintro e w1 ⟨rfl, hb⟩; have H1 := Acc.step (by assumption) hb) | (go_at_call 9; refine (works_any _).mono ?_; rintro e w1 ⟨rfl, hb⟩; have H1 := Acc.step (by assumption) hb) | (go_at_call 8; (first | (with_reducible refine (hSa _).out.mono ?_) | (with_reducible refine (hSb _).out.mono ?_)); rintro e w1 ⟨rfl, hb⟩; have H1 := Acc.step (by assumption) hb) | (go_at_call 10; with_reducible refine (HH _).out.mono ?_; rintro e w1 ⟨rfl, hb⟩; have H1 := Acc.step (by assumption) hb))
          go_ret
          exact ⟨rfl, H1.out⟩
        · have HH := hH (by simp) h2 (by simp) (by simp)
          clear hH
          go_enter Tryd.func3, Tryd.ntmps3
          go_wp2_with (first | (go_at_call 7; (first | (with_reducible refine (hW _).out.mono ?_) | (with_reducible refine (hV _).out.mono ?_)); rintro e w1 ⟨rfl, hb⟩; have H1 := Acc.step (by assumption) hb) | (go_at_call 9; refine (works_any _).mono ?_; rintro e w1 ⟨rfl, hb⟩; have H1 := Acc.step (by assumption) hb) | (go_at_call 8; (first | (with_reducible refine (hSa _).out.mono ?_) | (with_reducible refine (hSb _).out.mono ?_)); rintro e w1 ⟨rfl, hb⟩; have H1 := Acc.step (by assumption) hb) | (go_at_call 10; with_reducible refine (HH _).out.mono ?_; rintro e w1 ⟨rfl, hb⟩; have H1 := Acc.step (by assumption) hb))
          go_ret
          exact ⟨rfl, H1.out⟩
        · clear hH
          go_enter Tryd.func3, Tryd.ntmps3
          go_wp2_with (first | (go_at_call 7; (first | (with_reducible refine (hW _).out.mono ?_) | (with_reducible refine (hV _).out.mono ?_)); rintro e w1 ⟨rfl, hb⟩; have H1 := Acc.step (by assumption) hb) | (go_at_call 9; refine (works_any _).mono ?_; rintro e w1 ⟨rfl, hb⟩; have H1 := Acc.step (by assumption) hb) | (go_at_call 8; (first | (with_reducible refine (hSa _).out.mono ?_) | (with_reducible refine (hSb _).out.mono ?_)); rintro e w1 ⟨rfl, hb⟩; have H1 := Acc.step (by assumption) hb))
          go_ret
          exact ⟨rfl, H1.out⟩
      · rcases h4 with rfl | ⟨rfl, rfl⟩ | ⟨rfl, rfl, rfl⟩ | ⟨rfl, rfl, rfl⟩
        · have HH := hH (by simp) h2 (by simp) (by simp)
          clear hH
          go_enter Tryd.func3, Tryd.ntmps3
          go_wp2_with (first | (go_at_call 7; (first | (with_reducible refine (hW _).out.mono ?_) | (with_reducible refine (hV _).out.mono ?_)); rintro e w1 ⟨rfl, hb⟩; have H1 := Acc.step (by assumption) hb) | (go_at_call 9; refine (works_any _).mono ?_; rintro e w1 ⟨rfl, hb⟩; have H1 := Acc.step (by assumption) hb) | (go_at_call 8; (first | (with_reducible refine (hSa _).out.mono ?_) | (with_reducible refine (hSb _).out.mono ?_)); rintro e w1 ⟨rfl, hb⟩; have H1 := Acc.step (by assumption) hb) | (go_at_call 10; with_reducible refine (HH _).out.mono ?_; rintro e w1 ⟨rfl, hb⟩; have H1 := Acc.step (by assumption) hb))
          go_ret
          exact ⟨rfl, H1.out⟩
        · have HH := hH (by simp) h2 (by simp) (by simp)
          clear hH
          go_enter Tryd.func3, Tryd.ntmps3
          go_wp2_with (first | (go_at_call 7; (first | (with_reducible refine (hW _).out.mono ?_) | (with_reducible refine (hV _).out.mono ?_)); rintro e w1 ⟨rfl, hb⟩; have H1 := Acc.step (by assumption) hb) | (go_at_call 9; refine (works_any _).mono ?_; rintro e w1 ⟨rfl, hb⟩; have H1 := Acc.step (by assumption) hb) | (go_at_call 8; (first | (with_reducible refine (hSa _).out.mono ?_) | (with_reducible refine (hSb _).out.mono ?_)); rintro e w1 ⟨rfl, hb⟩; have H1 := Acc.step (by assumption) hb) | (go_at_call 10; with_reducible refine (HH _).out.mono ?_; rintro e w1 ⟨rfl, hb⟩; have H1 := Acc.step (by assumption) hb))
          go_ret
          exact ⟨rfl, H1.out⟩
        · have HH := hH (by simp) h2 (by simp) (by simp)
          clear hH
          go_enter Tryd.func3, Tryd.ntmps3
          go_wp2_with (first | (go_at_call 7; (first | (with_reducible refine (hW _).out.mono ?_) | (with_reducible refine (hV _).out.mono ?_)); rintro e w1 ⟨rfl, hb⟩; have H1 := Acc.step (by assumption) hb) | (go_at_call 9; refine (works_any _).mono ?_; rintro e w1 ⟨rfl, hb⟩; have H1 := Acc.step (by assumption) hb) | (go_at_call 8; (first | (with_reducible refine (hSa _).out.mono ?_) | (with_reducible refine (hSb _).out.mono ?_)); rintro e w1 ⟨rfl, hb⟩; have H1 := Acc.step (by assumption) hb) | (go_at_call 10; with_reducible refine (HH _).out.mono ?_; rintro e w1 ⟨rfl, hb⟩; have H1 := Acc.step (by assumption) hb))
          go_ret
          exact ⟨rfl, H1.out⟩
        · clear hH
          go_enter Tryd.func3, Tryd.ntmps3
          go_wp2_with (first | (go_at_call 7; (first | (with_reducible refine (hW _).out.mono ?_) | (with_reducible refine (hV _).out.mono ?_)); rintro e w1 ⟨rfl, hb⟩; have H1 := Acc.step (by assumption) hb) | (go_at_call 9; refine (works_any _).mono ?_; rintro e w1 ⟨rfl, hb⟩; have H1 := Acc.step (by assumption) hb) | (go_at_call 8; (first | (with_reducible refine (hSa _).out.mono ?_) | (with_reducible refine (hSb _).out.mono ?_)); rintro e w1 ⟨rfl, hb⟩; have H1 := Acc.step (by assumption) hb))
          go_ret
          exact ⟨rfl, H1.out⟩
      · clear hH
        go_enter Tryd.func3, Tryd.ntmps3
        go_wp2_with (first | (go_at_call 7; (first | (with_reducible refine (hW _).out.mono ?_) | (with_reducible refine (hV _).out.mono ?_)); rintro e w1 ⟨rfl, hb⟩; have H1 := Acc.step (by assumption) hb) | (go_at_call 9; refine (works_any _).mono ?_; rintro e w1 ⟨rfl, hb⟩; have H1 := Acc.step (by assumption) hb) | (go_at_call 8; (first | (with_reducible refine (hSa _).out.mono ?_) | (with_reducible refine (hSb _).out.mono ?_)); rintro e w1 ⟨rfl, hb⟩; have H1 := Acc.step (by assumption) hb))
        go_ret
        exact ⟨rfl, H1.out⟩
    · clear hH
      go_enter Tryd.func3, Tryd.ntmps3
      go_wp2_with (first | (go_at_call 7; (first | (with_reducible refine (hW _).out.mono ?_) | (with_reducible refine (hV _).out.mono ?_)); rintro e w1 ⟨rfl, hb⟩; have H1 := Acc.step (by assumption) hb) | (go_at_call 9; refine (works_any _).mono ?_; rintro e w1 ⟨rfl, hb⟩; have H1 := Acc.step (by assumption) hb) | (go_at_call 8; (first | (with_reducible refine (hSa _).out.mono ?_) | (with_reducible refine (hSb _).out.mono ?_)); rintro e w1 ⟨rfl, hb⟩; have H1 := Acc.step (by assumption) hb))
      go_ret
      exact ⟨rfl, H1.out⟩
  · rcases h2 with h2 | h2
    · rcases h3 with rfl | ⟨rfl, rfl⟩ | ⟨rfl, rfl⟩
      · rcases h4 with rfl | ⟨rfl, rfl⟩ | ⟨rfl, rfl, rfl⟩ | ⟨rfl, rfl, rfl⟩
        · have HH := hH (by simp) h2 (by simp) (by simp)
          clear hH
          go_enter Tryd.func3, Tryd.ntmps3
          go_wp2_with (first | (go_at_call 7; (first | (with_reducible refine (hW _).out.mono ?_) | (with_reducible refine (hV _).out.mono ?_)); rintro e w1 ⟨rfl, hb⟩; have H1 := Acc.step (by assumption) hb) | (go_at_call 9; refine (works_any _).mono ?_; rintro e w1 ⟨rfl, hb⟩; have H1 := Acc.step (by assumption) hb) | (go_at_call 8; (first | (with_reducible refine (hSa _).out.mono ?_) | (with_reducible refine (hSb _).out.mono ?_)); rintro e w1 ⟨rfl, hb⟩; have H1 := Acc.step (by assumption) hb) | (go_at_call 10; with_reducible refine (HH _).out.mono ?_; rintro e w1 ⟨rfl, hb⟩; have H1 := Acc.step (by assumption) hb))
          go_ret
          exact ⟨rfl, H1.out⟩
        · have HH := hH (by simp) h2 (by simp) (by simp)
          clear hH
          go_enter Tryd.func3, Tryd.ntmps3
          go_wp2_with (first | (go_at_call 7; (first | (with_reducible refine (hW _).out.mono ?_) | (with_reducible refine (hV _).out.mono ?_)); rintro e w1 ⟨rfl, hb⟩; have H1 := Acc.step (by assumption) hb) | (go_at_call 9; refine (works_any _).mono ?_; rintro e w1 ⟨rfl, hb⟩; have H1 := Acc.step (by assumption) hb) | (go_at_call 8; (first | (with_reducible refine (hSa _).out.mono ?_) | (with_reducible refine (hSb _).out.mono ?_)); rintro e w1 ⟨rfl, hb⟩; have H1 := Acc.step (by assumption) hb) | (go_at_call 10; with_reducible refine (HH _).out.mono ?_; rintro e w1 ⟨rfl, hb⟩; have H1 := Acc.step (by assumption) hb))
          go_ret
          exact ⟨rfl, H1.out⟩
        · have HH := hH (by simp) h2 (by simp) (by simp)
          clear hH
          go_enter Tryd.func3, Tryd.ntmps3
          go_wp2_with (first | (go_at_call 7; (first | (with_reducible refine (hW _).out.mono ?_) | (with_reducible refine (hV _).out.mono ?_)); rintro e w1 ⟨rfl, hb⟩; have H1 := Acc.step (by assumption) hb) | (go_at_call 9; refine (works_any _).mono ?_; rintro e w1 ⟨rfl, hb⟩; have H1 := Acc.step (by assumption) hb) | (go_at_call 8; (first | (with_reducible refine (hSa _).out.mono ?_) | (with_reducible refine (hSb _).out.mono ?_)); rintro e w1 ⟨rfl, hb⟩; have H1 := Acc.step (by assumption) hb) | (go_at_call 10; with_reducible refine (HH _).out.mono ?_; rintro e w1 ⟨rfl, hb⟩; have H1 := Acc.step (by assumption) hb))
          go_ret
          exact ⟨rfl, H1.out⟩
        · clear hH
          go_enter Tryd.func3, Tryd.ntmps3
          go_wp2_with (first | (go_at_call 7; (first | (with_reducible refine (hW _).out.mono ?_) | (with_reducible refine (hV _).out.mono ?_)); rintro e w1 ⟨rfl, hb⟩; have H1 := Acc.step (by assumption) hb) | (go_at_call 9; refine (works_any _).mono ?_; rintro e w1 ⟨rfl, hb⟩; have H1 := Acc.step (by assumption) hb) | (go_at_call 8; (first | (with_reducible refine (hSa _).out.mono ?_) | (with_reducible refine (hSb _).out.mono ?_)); rintro e w1 ⟨rfl, hb⟩; have H1 := Acc.step (by assumption) hb))
          go_ret
          exact ⟨rfl, H1.out⟩
      · rcases h4 with rfl | ⟨rfl, rfl⟩ | ⟨rfl, rfl, rfl⟩ | ⟨rfl, rfl, rfl⟩
        · have HH := hH (by simp) h2 (by simp) (by simp)
          clear hH
          go_enter Tryd.func3, Tryd.ntmps3
          go_wp2_with (first | (go_at_call 7; (first | (with_reducible refine (hW _).out.mono ?_) | (with_reducible refine (hV _).out.mono ?_)); rintro e w1 ⟨rfl, hb⟩; have H1 := Acc.step (by assumption) hb) | (go_at_call 9; refine (works_any _).mono ?_; rintro e w1 ⟨rfl, hb⟩; have H1 := Acc.step (by assumption) hb) | (go_at_call 8; (first | (with_reducible refine (hSa _).out.mono ?_) | (with_reducible refine (hSb _).out.mono ?_)); rintro e w1 ⟨rfl, hb⟩; have H1 := Acc.step (by assumption) hb) | (go_at_call 10; with_reducible refine (HH _).out.mono ?_; rintro e w1 ⟨rfl, hb⟩; have H1 := Acc.step (by assumption) hb))
          go_ret
          exact ⟨rfl, H1.out⟩
        · have HH := hH (by simp) h2 (by simp) (by simp)
          clear hH
          go_enter Tryd.func3, Tryd.ntmps3
          go_wp2_with (first | (go_at_call 7; (first | (with_reducible refine (hW _).out.mono ?_) | (with_reducible refine (hV _).out.mono ?_)); rintro e w1 ⟨rfl, hb⟩; have H1 := Acc.step (by assumption) hb) | (go_at_call 9; refine (works_any _).mono ?_; rintro e w1 ⟨rfl, hb⟩; have H1 := Acc.step (by assumption) hb) | (go_at_call 8; (first | (with_reducible refine (hSa _).out.mono ?_) | (with_reducible refine (hSb _).out.mono ?_)); rintro e w1 ⟨rfl, hb⟩; have H1 := Acc.step (by assumption) hb) | (go_at_call 10; with_reducible refine (HH _).out.mono ?_; rintro e w1 ⟨rfl, hb⟩; have H1 := Acc.step (by assumption) hb))
          go_ret
          exact ⟨rfl, H1.out⟩
        · have HH := hH (by simp) h2 (by simp) (by simp)
          clear hH
          go_enter Tryd.func3, Tryd.ntmps3
          go_wp2_with (first | (go_at_call 7; (first | (with_reducible refine (hW _).out.mono ?_) | (with_reducible refine (hV _).out.mono ?_)); rintro e w1 ⟨rfl, hb⟩; have H1 := Acc.step (by assumption) hb) | (go_at_call 9; refine (works_any _).mono ?_; rintro e w1 ⟨rfl, hb⟩; have H1 := Acc.step (by assumption) hb) | (go_at_call 8; (first | (with_reducible refine (hSa _).out.mono ?_) | (with_reducible refine (hSb _).out.mono ?_)); rintro e w1 ⟨rfl, hb⟩; have H1 := Acc.step (by assumption) hb) | (go_at_call 10; with_reducible refine (HH _).out.mono ?_; rintro e w1 ⟨rfl, hb⟩; have H1 := Acc.step (by assumption) hb))
          go_ret
          exact ⟨rfl, H1.out⟩
        · clear hH
          go_enter Tryd.func3, Tryd.ntmps3
          go_wp2_with (first | (go_at_call 7; (first | (with_reducible refine (hW _).out.mono ?_) | (with_reducible refine (hV _).out.mono ?_)); rintro e w1 ⟨rfl, hb⟩; have H1 := Acc.step (by assumption) hb) | (go_at_call 9; refine (works_any _).mono ?_; rintro e w1 ⟨rfl, hb⟩; have H1 := Acc.step (by assumption) hb) | (go_at_call 8; (first | (with_reducible refine (hSa _).out.mono ?_) | (with_reducible refine (hSb _).out.mono ?_)); rintro e w1 ⟨rfl, hb⟩; have H1 := Acc.step (by assumption) hb))
          go_ret
          exact ⟨rfl, H1.out⟩
      · clear hH
        go_enter Tryd.func3, Tryd.ntmps3
        go_wp2_with (first | (go_at_call 7; (first | (with_reducible refine (hW _).out.mono ?_) | (with_reducible refine (hV _).out.mono ?_)); rintro e w1 ⟨rfl, hb⟩; have H1 := Acc.step (by assumption) hb) | (go_at_call 9; refine (works_any _).mono ?_; rintro e w1 ⟨rfl, hb⟩; have H1 := Acc.step (by assumption) hb) | (go_at_call 8; (first | (with_reducible refine (hSa _).out.mono ?_) | (with_reducible refine (hSb _).out.mono ?_)); rintro e w1 ⟨rfl, hb⟩; have H1 := Acc.step (by assumption) hb))
        go_ret
        exact ⟨rfl, H1.out⟩
    · clear hH
      go_enter Tryd.func3, Tryd.ntmps3
      go_wp2_with (first | (go_at_call 7; (first | (with_reducible refine (hW _).out.mono ?_) | (with_reducible refine (hV _).out.mono ?_)); rintro e w1 ⟨rfl, hb⟩; have H1 := Acc.step (by assumption) hb) | (go_at_call 9; refine (works_any _).mono ?_; rintro e w1 ⟨rfl, hb⟩; have H1 := Acc.step (by assumption) hb) | (go_at_call 8; (first | (with_reducible refine (hSa _).out.mono ?_) | (with_reducible refine (hSb _).out.mono ?_)); rintro e w1 ⟨rfl, hb⟩; have H1 := Acc.step (by assumption) hb))
      go_ret
      exact ⟨rfl, H1.out⟩
  · clear hH
    go_enter Tryd.func3, Tryd.ntmps3
    go_wp2_with (first | (go_at_call 7; (first | (with_reducible refine (hW _).out.mono ?_) | (with_reducible refine (hV _).out.mono ?_)); rintro e w1 ⟨rfl, hb⟩; have H1 := Acc.step (by assumption) hb) | (go_at_call 9; refine (works_any _).mono ?_; rintro e w1 ⟨rfl, hb⟩; have H1 := Acc.step (by assumption) hb) | (go_at_call 8; (first | (with_reducible refine (hSa _).out.mono ?_) | (with_reducible refine (hSb _).out.mono ?_)); rintro e w1 ⟨rfl, hb⟩; have H1 := Acc.step (by assumption) hb))
    go_ret
    exact ⟨rfl, H1.out⟩
end Go.Proofs.YtnbihmagbedfmaaDoorR
