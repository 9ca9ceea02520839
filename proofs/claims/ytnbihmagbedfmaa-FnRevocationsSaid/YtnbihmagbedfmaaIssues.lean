/- Contracts of the list of validation issues: Add, AddError, IsBlocking, CreateValidationResults. -/
import Derived.Test.YtnbihmagbedfmaaProg
import Derived.WalkKit
import Derived.OneCell
import Derived.Test.YtnbihmagbedfmaaWMore
import Derived.Lib.OthersKept
import Derived.Lib.Hide
namespace Go.Proofs.Ytnbihmagbedfmaa
open Go.RowKit

/-- Block B is a list of at most N issues; it has one just if 'bad', and the first one blocks. -/
def VR (B N : Nat) (bad : Bool) (w : World) : Prop :=
  ∃ v xs, w.heap[B]? = some (.cells #[v] 93 (0, 0)) ∧ w.ownsRow (B + 1) 94 1 v xs.length xs ∧ xs.length ≤ N ∧ (bad = false → xs = []) ∧
    (bad = true → ∃ k d rest, xs = .pointer (some ⟨k, 0, none⟩) :: rest ∧ w.heap[k]? = some (.cells #[d, .bool true, .bool false] 96 (0, 0)))

theorem own_below {w w1 : World} {base : Nat} {e : TypeId} {size n : Nat} {v : Value} {xs : List Value} (h : w.ownsRow base e size v n xs) (hb : Below w.heap.size w w1) : w1.ownsRow base e size v n xs :=
  h.kept (row := none) ⟨hb.os, hb.tape, hb.output, hb.size, fun i hi _ => hb.block i hi⟩ (by cases v.ownBlock <;> simp)

theorem VR.lt {B N : Nat} {bad : Bool} {w : World} (h : VR B N bad w) : B < w.heap.size := by
  obtain ⟨v, xs, h1, _⟩ := h
  exact lt_of_block h1

theorem VR.below {B N : Nat} {bad : Bool} {w w1 : World} (h : VR B N bad w) (hb : Below w.heap.size w w1) : VR B N bad w1 := by
  obtain ⟨v, xs, h1, h2, h3, h4, h5⟩ := h
  refine ⟨v, xs, (hb.block B (lt_of_block h1)).trans h1, own_below h2 hb, h3, h4, fun hbad => ?_⟩
  obtain ⟨k, d, rest, h6, h7⟩ := h5 hbad
  exact ⟨k, d, rest, h6, (hb.block k (lt_of_block h7)).trans h7⟩

theorem VR.mono {B N N' : Nat} {bad : Bool} {w : World} (h : VR B N bad w) (hN : N ≤ N') : VR B N' bad w := by
  obtain ⟨v, xs, h1, h2, h3, h4, h5⟩ := h
  exact ⟨v, xs, h1, h2, by omega, h4, h5⟩

theorem VR.fresh (w : World) : VR w.heap.size 0 false (w.alloc (.cells #[.slice none 0 0] 93)) :=
  ⟨.slice none 0 0, [], heap_alloc_new w _, ⟨by simp, .inl ⟨rfl, rfl⟩⟩, by simp, fun _ => rfl, by simp⟩

theorem Try.infoIssue : (Try.prog.info? 94).map (fun i => (i.zero, i.size, i.bytes)) = some (some (.pointer none), 1, 8) := by kernel_rfl

/-- A store into the list's own block keeps what lies elsewhere. -/
theorem others_of_add {B : Nat} {v v' : Value} {w w0 w1 : World} {n : Nat} {xs : List Value} (hB : w.heap[B]? = some (.cells #[v] 93 (0, 0))) (hown : w.ownsRow (B + 1) 94 1 v n xs)
    (h0 : Below w.heap.size w w0) (hg : w0.grownBy w1 v.ownBlock) : w1.heap[B]? = some (.cells #[v] 93 (0, 0)) ∧ Below B w (w1.setCell ⟨B, 0, none⟩ v') ∧ Lib.OthersKept 94 (some B) w (w1.setCell ⟨B, 0, none⟩ v') := by
  have hlt := lt_of_block hB
  have hrow : ∀ k, v.ownBlock = some k → B + 1 ≤ k ∧ ∃ cur, w.heap[k]? = some (.cells cur 94 (0, 0)) := by
    intro k hk
    rcases hown.2 with ⟨rfl, _⟩ | ⟨g, cap, cur, rfl, hb, hh, _⟩
    · simp [Value.ownBlock] at hk
    · have : g = k := by simpa [Value.ownBlock] using hk
      subst this
      exact ⟨hb, cur, hh⟩
  have hsame : ∀ k, k < w.heap.size → some k ≠ v.ownBlock → w1.heap[k]? = w.heap[k]? := fun k hk hne => (hg.block k (Nat.lt_of_lt_of_le hk h0.size) hne).trans (h0.block k hk)
  have hBne : some B ≠ v.ownBlock := fun e => by have := (hrow B e.symm).1; omega
  refine ⟨(hsame B hlt hBne).trans hB, ?_, ?_⟩
  · have hbel : Below B w w1 := ⟨hg.os.trans h0.os, hg.tape.trans h0.tape, hg.output.trans h0.output, Nat.le_trans h0.size hg.size, fun k hk => hsame k (by omega) fun e => by have := (hrow k e.symm).1; omega⟩
    exact hbel.setCell (p := ⟨B, 0, none⟩) (Nat.le_refl _) _
  · intro k o hk hkB ho
    have hne : some k ≠ v.ownBlock := by
      intro e
      obtain ⟨cur, hc⟩ := (hrow k e.symm).2
      rw [hk] at hc
      exact ho cur _ (Option.some.inj hc)
    rw [Below.heap_setCell _ _ _ _ (fun e => hkB (by rw [e]))]
    exact (hsame k (lt_of_block hk) hne).trans hk

set_option maxRecDepth 100000 in
theorem add_any (B k : Nat) (v : Value) (xs : List Value) (w : World) (hB : w.heap[B]? = some (.cells #[v] 93 (0, 0))) (hown : w.ownsRow (B + 1) 94 1 v xs.length xs) (hn : xs.length ≤ 1000000) :
    Calls Try.prog 51 #[.pointer (some ⟨B, 0, none⟩), .pointer (some ⟨k, 0, none⟩)] w fun e w' => e = .returned (.tuple #[]) ∧ ∃ v', w'.heap[B]? = some (.cells #[v'] 93 (0, 0)) ∧ w'.ownsRow (B + 1) 94 1 v' (xs.length + 1) (xs ++ [.pointer (some ⟨k, 0, none⟩)]) ∧ Below B w w' ∧ Lib.OthersKept 94 (some B) w w' := by
  have hc := cell_of_one hB
  have hlt := lt_of_block hB
  obtain ⟨i0, hi, hz0, hz1, hz2⟩ := info_parts Try.infoIssue
  have HB := Lib.hid hB
  clear hB
  have HN := Lib.hid hn
  clear hn
  go_enter Try.func51, Try.ntmps51
  go_wp2_with (at_builtin; refine wpList_append_own _ rfl _ _ 91 rfl (B + 1) 94 i0 (.pointer none) 1 8 Try.underlying91 hi hz0 hz1 hz2 rfl (by decide) v xs.length xs rfl (hown.alloc _) ⟨w.heap.size, 0, none⟩ 1 1 [.pointer (some ⟨k, 0, none⟩)] rfl rfl ?c1 ?c2 ?c3 ?c4 ?c5 ?_)
  case c1 => exact cell_one_new _ _ _
  case c2 => intro u hu; simp at hu; subst hu; rfl
  case c3 => have := HN.out; unfold maxLen; omega
  case c4 => have := HN.out; omega
  case c5 => simp; omega
  intro v' w1 hown' hg hnn
  obtain ⟨g, cap, hv, _, _⟩ := hown'.form (by omega)
  rw [hv] at hown'
  rw [hv]
  clear hv hnn
  obtain ⟨v', hv'⟩ : ∃ v' : Value, v' = .slice (some ⟨g, 0, none⟩) (xs.length + 1) cap := ⟨_, rfl⟩
  obtain ⟨h1, h2, h3⟩ := others_of_add (v' := v') HB.out hown ((Below.refl _ _).alloc (Nat.le_refl _) _) hg
  have hc1 := cell_of_one h1
  have hf1 := free_of_one h1
  have F : (w1.setCell ⟨B, 0, none⟩ v').heap[B]? = some (.cells #[v'] 93 (0, 0)) ∧ (w1.setCell ⟨B, 0, none⟩ v').ownsRow (B + 1) 94 1 v' (xs.length + 1) (xs ++ [.pointer (some ⟨k, 0, none⟩)]) := ⟨one_setCell h1, ownsRow_setCell_below (hv' ▸ hown') (by simp) _⟩
  rw [hv'] at h2 h3 F
  clear hown' hg hown h1 hc HB hv'
  have H2 := Lib.hid h2
  have H3 := Lib.hid h3
  have HF := Lib.hid F
  clear h2 h3 F
  go_wp2
  go_end0
  exact ⟨rfl, _, HF.out.1, HF.out.2, H2.out, H3.out⟩

theorem VR.added {B N : Nat} {bad : Bool} {d v' : Value} {v : Value} {xs : List Value} {w w1 : World} (hB : w.heap[B]? = some (.cells #[v] 93 (0, 0))) (hN : xs.length ≤ N) (h4 : bad = false → xs = [])
    (h5 : bad = true → ∃ k d rest, xs = .pointer (some ⟨k, 0, none⟩) :: rest ∧ w.heap[k]? = some (.cells #[d, .bool true, .bool false] 96 (0, 0)))
    (h1 : w1.heap[B]? = some (.cells #[v'] 93 (0, 0))) (h2 : w1.ownsRow (B + 1) 94 1 v' (xs.length + 1) (xs ++ [.pointer (some ⟨w.heap.size, 0, none⟩)]))
    (ho : Lib.OthersKept 94 (some B) (w.alloc (.cells #[d, .bool true, .bool false] 96)) w1) : VR B (N + 1) true w1 := by
  refine ⟨v', xs ++ [.pointer (some ⟨w.heap.size, 0, none⟩)], h1, by simpa using h2, by simp; omega, by simp, fun _ => ?_⟩
  have hlt := lt_of_block hB
  cases xs with
  | nil =>
    refine ⟨w.heap.size, d, [], rfl, ho _ _ (heap_alloc_new w _) (by simp; omega) (fun c fz e => ?_)⟩
    injection e with _ e _
    exact absurd e (by decide)
  | cons x r =>
    have hbad : bad = true := by
      cases bad with
      | true => rfl
      | false => exact absurd (h4 rfl) (by simp)
    obtain ⟨k, d', rest, hx, hk⟩ := h5 hbad
    refine ⟨k, d', rest ++ [.pointer (some ⟨w.heap.size, 0, none⟩)], by rw [hx]; rfl, ho _ _ ((Below.heap_alloc _ _ _ (lt_of_block hk)).trans hk) ?_ (fun c fz e => ?_)⟩
    · intro e
      injection e with e
      subst e
      rw [hB] at hk
      injection hk with hk
      injection hk with _ hk _
      exact absurd hk (by decide)
    · injection e with _ e _
      exact absurd e (by decide)

set_option maxRecDepth 100000 in
theorem adderror_any (B N : Nat) (bad : Bool) (d : ByteArray) (w : World) (h : VR B N bad w) (hN : N ≤ 1000000) :
    Calls Try.prog 41 #[.pointer (some ⟨B, 0, none⟩), .string d] w fun e w' => e = .returned (.tuple #[]) ∧ VR B (N + 1) true w' ∧ Below B w w' ∧ Lib.OthersKept 94 (some B) w w' := by
  obtain ⟨v, xs, h1, h2, h3, h4, h5⟩ := h
  have hlt := lt_of_block h1
  have hadd := add_any B w.heap.size v xs (w.alloc (.cells #[.string d, .bool true, .bool false] 96)) ((Below.heap_alloc _ _ _ hlt).trans h1) (h2.alloc _) (by omega)
  have H1 := Lib.hid h1
  have H4 := Lib.hid h4
  have H5 := Lib.hid h5
  clear h1 h2 h4 h5
  go_enter Try.func41, Try.ntmps41
  go_wp2_with fail
  refine hadd.mono ?_
  rintro e w1 ⟨rfl, v', g1, g2, g3, g4⟩
  have G1 := Lib.hid g1
  have G2 := Lib.hid g2
  have G3 := Lib.hid g3
  have G4 := Lib.hid g4
  clear g1 g2 g3 g4 hadd
  go_wp2
  go_end0
  exact ⟨rfl, VR.added H1.out h3 H4.out H5.out G1.out G2.out G4.out, ((Below.refl B w).alloc (by omega) _).trans G3.out, ((Lib.OthersKept.refl _ _ w).alloc _).trans G4.out⟩

set_option maxRecDepth 100000 in
theorem create_any (w : World) :
    Calls Try.prog 39 #[] w fun e w' => e = .returned (.pointer (some ⟨w.heap.size, 0, none⟩)) ∧ w' = w.alloc (.cells #[.slice none 0 0] 93) := by
  go_enter Try.func39, Try.ntmps39
  go_wp2
  go_ret
  exact ⟨rfl, rfl⟩

set_option maxRecDepth 100000 in
theorem blocking_no (B N : Nat) (w : World) (h : VR B N false w) :
    Calls Try.prog 40 #[.pointer (some ⟨B, 0, none⟩), .bool true] w fun e w' => e = .returned (.bool false) ∧ w' = w := by
  obtain ⟨v, xs, h1, h2, h3, h4, h5⟩ := h
  obtain rfl := h4 rfl
  have hv : ∃ a c, v = .slice a 0 c := by
    rcases h2.2 with ⟨rfl, _⟩ | ⟨g, cap, cur, rfl, _⟩
    · exact ⟨_, _, rfl⟩
    · exact ⟨_, _, rfl⟩
  obtain ⟨a, c, rfl⟩ := hv
  have hc := cell_of_one h1
  clear h1 h2 h3 h4 h5
  go_enter Try.func40, Try.ntmps40
  go_wp2
  refine wp_loop_rounds 1 ?_
  rw [rounds_succ]
  go_wp2
  go_ret
  exact ⟨rfl, rfl⟩

set_option maxRecDepth 100000 in
theorem blocking_yes (B N : Nat) (w : World) (h : VR B N true w) :
    Calls Try.prog 40 #[.pointer (some ⟨B, 0, none⟩), .bool true] w fun e w' => e = .returned (.bool true) ∧ w' = w := by
  obtain ⟨v, xs, h1, h2, h3, h4, h5⟩ := h
  obtain ⟨k, d, rest, rfl, h6⟩ := h5 rfl
  obtain ⟨g, cap, rfl, _, _⟩ := h2.form (by simp)
  have hc := cell_of_one h1
  have hg : w.cell? ⟨g, 0, none⟩ = some (.pointer (some ⟨k, 0, none⟩)) := h2.cells (g := g) rfl 0 _ rfl
  have hk : w.cell? ⟨k, 1, none⟩ = some (.bool true) := by simp [World.cell?, h6]
  have hl : 0 < (Value.pointer (some ⟨k, 0, none⟩) :: rest).length := by simp
  generalize (Value.pointer (some ⟨k, 0, none⟩) :: rest).length = n at hl
  clear h1 h2 h3 h4 h5 h6
  go_enter Try.func40, Try.ntmps40
  go_wp2
  refine wp_loop_rounds 1 ?_
  rw [rounds_succ]
  go_wp2
  go_ret
  exact ⟨rfl, rfl⟩

theorem blocking_any (B N : Nat) (bad : Bool) (w : World) (h : VR B N bad w) :
    Calls Try.prog 40 #[.pointer (some ⟨B, 0, none⟩), .bool true] w fun e w' => e = .returned (.bool bad) ∧ w = w' := by
  cases bad with
  | true => exact (blocking_yes B N w h).mono fun _ _ ⟨he, hw⟩ => ⟨he, hw.symm⟩
  | false => exact (blocking_no B N w h).mono fun _ _ ⟨he, hw⟩ => ⟨he, hw.symm⟩
end Go.Proofs.Ytnbihmagbedfmaa
