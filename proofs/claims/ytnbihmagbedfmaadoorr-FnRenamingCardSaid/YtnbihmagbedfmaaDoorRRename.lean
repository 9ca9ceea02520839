/- impl.ToSubject at a text without references, and at a text with one. -/
import Derived.Test.YtnbihmagbedfmaaDoorRSubject
import Derived.Test.YtnbihmagbedfmaaDoorRValid
namespace Go.Proofs.YtnbihmagbedfmaaDoorR
open Go.RowKit Go.Proofs.YtnbihmagbedfmaaDoorRW.PrintWords
open Pl (hasSub toks toksA join plain plainT okt okc)

def SubjectIs (s o : ByteArray) : Prop := ∀ w, Calls Tryd.prog 30 #[.string s] w fun e w' => e = .returned (.string o) ∧ Below w.heap.size w w'

set_option maxRecDepth 100000 in
theorem tosub1_any (n : Nat) (s o : ByteArray) (ho : SubjectIs s o) (w : World) (h0 : w.heap[n]? = some (.cells #[.string s] 9 (0, 0))) (h1 : w.heap[n + 1]? = some (.cells #[.string ⟨#[]⟩] 9 (0, 0))) :
    Calls Tryd.prog 29 #[.pointer (some ⟨n, 0, none⟩), .pointer (some ⟨n + 1, 0, none⟩)] w fun e w' => e = .returned (.tuple #[]) ∧
      w'.heap[n + 1]? = some (.cells #[.string o] 9 (0, 0)) ∧ w.heap.size ≤ w'.heap.size ∧ w'.os = w.os ∧ w'.tape = w.tape ∧ w'.output = w.output ∧ (∀ k, k < w.heap.size → k ≠ n + 1 → w'.heap[k]? = w.heap[k]?) := by
  have c0 := cell_of_one h0
  have l1 := lt_of_block h1
  have HU := Lib.hid (ho w)
  have H1 := Lib.hid h1
  clear h0 h1 ho
  go_enter Tryd.func29, Tryd.ntmps29
  go_wp2_with fail
  refine HU.out.mono ?_
  rintro e w1 ⟨rfl, hb⟩
  have h3 := (hb.block _ l1).trans H1.out
  have d3 := cell_of_one h3
  have f3 := free_of_one h3
  have H3 := Lib.hid h3
  have HB := Lib.hid hb
  clear h3 hb
  have hend : ∀ v : Value, (w1.setCell ⟨n + 1, 0, none⟩ v).heap.size = w1.heap.size := fun v => by simp [World.setCell]
  have hend := Lib.hid hend
  go_wp2
  go_end0
  refine ⟨rfl, one_setCell H3.out, by rw [hend.out]; exact HB.out.size, HB.out.os, HB.out.tape, HB.out.output, fun k hk hne => ?_⟩
  rw [Below.heap_setCell _ _ _ _ hne]
  exact HB.out.block k hk

set_option maxRecDepth 100000 in
theorem tosub_any (s o : ByteArray) (ho : SubjectIs s o) (w : World) :
    Calls Tryd.prog 13 #[.string s] w fun e w' => e = .returned (.string o) ∧ Below w.heap.size w w' := by
  have hmf : ∀ (fn : Fn) (first cap : Array Value) (w : World), (Instr.makeFunc fn first cap).run Tryd.prog w = .ok (.func fn first cap) w := fun _ _ _ _ => rfl
  obtain ⟨w2, hw2⟩ : ∃ w2 : World, w2 = (w.alloc (.cells #[.string s] 9)).alloc (.cells #[.string ⟨#[]⟩] 9) := ⟨_, rfl⟩
  have hs2 : w2.heap.size = w.heap.size + 2 := by rw [hw2]; simp
  have hb2 : Below w.heap.size w w2 := by
    rw [hw2]; exact ((Below.refl _ _).alloc (Nat.le_refl _) _).alloc (by simp) _
  have g0 : w2.heap[w.heap.size]? = some (.cells #[.string s] 9 (0, 0)) := by
    rw [hw2]; exact (Below.heap_alloc _ _ _ (by simp)).trans (heap_alloc_new w _)
  have g1 : w2.heap[w.heap.size + 1]? = some (.cells #[.string ⟨#[]⟩] 9 (0, 0)) := by
    rw [hw2]
    simpa using heap_alloc_new (w.alloc (.cells #[.string s] 9)) (.cells #[.string ⟨#[]⟩] 9)
  have hold : ∀ k, k < w2.heap.size → (w2.alloc (.cells #[.bool false] 4)).heap[k]? = w2.heap[k]? := fun k hk => Below.heap_alloc _ _ _ hk
  have h1 := tosub1_any w.heap.size s o ho (w2.alloc (.cells #[.bool false] 4)) ((hold _ (by omega)).trans g0) ((hold _ (by omega)).trans g1)
  have hq := quiet_any 29 #[.pointer (some ⟨w.heap.size, 0, none⟩), .pointer (some ⟨w.heap.size + 1, 0, none⟩)] w2
    (fun w' => Below w.heap.size w w' ∧ w'.heap[w.heap.size + 1]? = some (.cells #[.string o] 9 (0, 0))) (fun W => by simp [go_sem])
    (h1.mono fun e w' ⟨he, k1, k2, k3, k4, k5, k6⟩ => ⟨he, (k6 _ (by simp) (by omega)).trans (heap_alloc_new _ _), hb2.trans ⟨k3, k4, k5, by simp at k2; omega, fun i hi => (k6 i (by simp; omega) (by omega)).trans (hold i (by omega))⟩, k1⟩)
  have HQ := Lib.hid hq
  clear hq h1 hold g0 g1 hb2 ho
  have HS := Lib.hid hs2
  clear hs2
  go_enter Tryd.func13, Tryd.ntmps13
  go_wp2_with fail
  rw [← hw2]
  refine HQ.out.mono ?_
  rintro e w3 ⟨rfl, w1, h1, ⟨h2, h3⟩, hw3⟩
  have hb3 : Below w.heap.size w w3 := by rw [hw3]; exact h2.setCell (p := ⟨w2.heap.size, 0, none⟩) (by show w.heap.size ≤ w2.heap.size; have := HS.out; omega) _
  have hd3 : w3.heap[w.heap.size + 1]? = some (.cells #[.string o] 9 (0, 0)) := by
    rw [hw3, Below.heap_setCell _ _ _ _ (by show w.heap.size + 1 ≠ w2.heap.size; have := HS.out; omega)]; exact h3
  clear hw3 h1 h2 h3 HQ HS hw2
  have hc3 := cell_of_one hd3
  have hf3 := free_of_one hd3
  have HB3 := Lib.hid hb3
  have HD3 := Lib.hid hd3
  clear hb3 hd3
  go_wp2
  have hcs := cell_of_one (one_setCell (u := .string o) HD3.out)
  refine bodyPost_ret (v := .string o) ?_ rfl ⟨rfl, HB3.out.setCell (p := ⟨w.heap.size + 1, 0, none⟩) (by show w.heap.size ≤ w.heap.size + 1; omega) _⟩
  simp [results, Tryd.results13, go_sem]
  rw [hcs]

theorem lists_mem {r : List ByteArray} {t : ByteArray} (h : t ∈ r) : t.data.toList ∈ lists r := List.mem_map_of_mem h

theorem toks_size {l t : List UInt8} (h : t ∈ toks 46 l) : t.length ≤ l.length := by
  have := tok_size l [] t h
  simpa using this

/-- A subject no part of which begins with a reference's sign stays as it is. -/
theorem subject_same (s : ByteArray) (hs : s.size ≤ 60) (h : ∀ t ∈ toks 46 s.data.toList, t.head? ≠ some 36) : SubjectIs s s := by
  intro w
  cases hc : hasSub [36] s.data.toList with
  | false => exact tosubject_none s (by omega) hc w
  | true =>
    obtain ⟨r, hr, hl⟩ := split_f 46 s ⟨#[46]⟩ rfl (by unfold big; omega)
    have hlen : r.length = (toks 46 s.data.toList).length := by rw [← hl]; simp [lists]
    have hle := Pl.toksA_length 46 [] s.data.toList
    rw [data_length] at hle
    have hj : join (r.map fun t => (id t).data.toList) = s.data.toList := by
      have : (r.map fun t => (id t).data.toList) = lists r := rfl
      rw [this, hl]
      exact Pl.join_toksA [] _
    have hres := tosubject_some id s r (by omega) hc hr (fun t ht => by
      have h1 := lists_mem ht
      rw [hl] at h1
      have h2 := h _ h1
      have h3 := toks_size h1
      rw [data_length, data_length] at h3
      refine ⟨?_, by simp; omega⟩
      by_cases h4 : t.size ≤ 1
      · exact .short h4 rfl
      · refine .other (by omega) (fun e => h2 ?_) rfl
        have h5 : t.data.toList = t[0] :: t.data.toList.drop 1 := by
          have := drop_cons t 0 (by omega)
          simpa using this
        rw [h5, e]; rfl) (by rw [hj, data_length]; omega) (by
      rw [hlen]
      have := Pl.toksA_ne 46 [] s.data.toList
      unfold toks
      exact List.length_pos_iff.2 this) (by rw [hlen]; unfold toks; omega) w
    rw [hj] at hres
    have he : (⟨s.data.toList.toArray⟩ : ByteArray) = s := by cases s; simp
    rw [he] at hres
    exact hres

/-- A reference in its place is a star. -/
theorem subject_ref (s : ByteArray) (d : UInt8) (h0 : 49 ≤ d.toNat) (h1 : d.toNat ≤ 57) (hs : s.data.toList = [120, 46, 36, d, 46, 121]) : SubjectIs s ⟨#[120, 46, 42, 46, 121]⟩ := by
  intro w
  have hsz : s.size = 6 := by rw [← data_length, hs]; rfl
  have hd : d ≠ 46 := by rintro rfl; revert h0; decide
  obtain ⟨r, hr, hl⟩ := split_f 46 s ⟨#[46]⟩ rfl (by unfold big; omega)
  have ht : toks 46 s.data.toList = [[120], [36, d], [121]] := by rw [hs]; simp [toks, toksA, hd]
  have hc : hasSub [36] s.data.toList = true := by rw [hs, Pl.hasSub_one]; simp
  rw [ht] at hl
  let cv : ByteArray → ByteArray := fun t => if t.data.toList = [36, d] then ⟨#[42]⟩ else t
  have hlen : r.length = 3 := by have := congrArg List.length hl; simpa [lists] using this
  have hj : join (r.map fun t => (cv t).data.toList) = [120, 46, 42, 46, 121] := by
    match r, hl with
    | [a, b, c], hl =>
      simp only [lists, List.map_cons, List.map_nil, List.cons.injEq, and_true] at hl
      obtain ⟨ha, hb, hc⟩ := hl
      simp [cv, ha, hb, hc, join]
  have hat : ∃ n, Lib.atoi [d] = some n := by
    have hm : ∀ m : Fin 256, 49 ≤ m.val → m.val ≤ 57 → (Lib.atoi [UInt8.ofNat m.val]).isSome = true := by decide +kernel
    have := hm ⟨d.toNat, d.toNat_lt⟩ h0 h1
    simp only [UInt8.ofNat_toNat] at this
    exact Option.isSome_iff_exists.1 this
  obtain ⟨n, hn⟩ := hat
  have hres := tosubject_some cv s r (by omega) hc hr (fun t hm => by
    have h1 := lists_mem hm
    rw [hl] at h1
    by_cases he : t.data.toList = [36, d]
    · have hcv : cv t = ⟨#[42]⟩ := if_pos he
      have hts : t.size = 2 := by rw [← data_length, he]; rfl
      rw [hcv]
      refine ⟨.ref n (by omega) ?_ (by rw [extract_size]; omega) ?_ rfl, by decide⟩
      · have h5 : t.data.toList = t[0] :: t.data.toList.drop 1 := by
          have := drop_cons t 0 (by omega)
          simpa using this
        rw [he] at h5
        injection h5 with h5 _
        exact h5.symm
      · rw [extract_rest, he]; exact hn
    · have hcv : cv t = t := if_neg he
      rw [hcv]
      have hts : t.size = 1 := by
        simp only [List.mem_cons, List.not_mem_nil, or_false] at h1
        rcases h1 with h1 | h1 | h1
        · rw [← data_length, h1]; rfl
        · exact absurd h1 he
        · rw [← data_length, h1]; rfl
      exact ⟨.short (by omega) rfl, by omega⟩) (by rw [hj]; decide) (by omega) (by omega) w
  rw [hj] at hres
  exact hres
end Go.Proofs.YtnbihmagbedfmaaDoorR
