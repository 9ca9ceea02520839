/- Contracts of checkPermission, of Permission.Validate and of Permitted, at subjects without a blank. -/
import Derived.Test.YtnbihmagbedfmaaValid
import Derived.Test.YtnbihmagbedfmaaAppend
import Derived.Test.YtnbihmagbedfmaaAcc
namespace Go.Proofs.Ytnbihmagbedfmaa
open Go.RowKit Go.Proofs.YtnbihmagbedfmaaW.PrintWords
open Pl (hasSub toks toksA valid plain plainT okt okc)

theorem own_others {B base n : Nat} {e : TypeId} {v : Value} {xs : List Value} {w w1 : World} (h : w.ownsRow base e 1 v n xs) (ho : Lib.OthersKept 94 (some B) w w1) (he : e ≠ 94) (hB : B < base) : w1.ownsRow base e 1 v n xs := by
  refine own_move h fun k hk => ?_
  obtain ⟨cells, hc⟩ := own_typed h k hk
  have hb := own_base h k hk
  rw [hc]
  refine ho k _ hc (fun e => by injection e with e; omega) (fun c fz e1 => ?_)
  injection e1 with _ e1 _
  exact he e1

theorem toksA_none (c : UInt8) (l cur : List UInt8) (h : c ∉ l) : toksA c cur l = [cur ++ l] := by
  induction l generalizing cur with
  | nil => simp [toksA]
  | cons x r ih =>
    unfold toksA
    rw [if_neg (fun e => h (by rw [e]; exact List.mem_cons_self)), ih _ (fun hm => h (List.mem_cons_of_mem _ hm))]
    simp

theorem bytes_eq {a b : ByteArray} (h : a.data.toList = b.data.toList) : a = b := by
  have := Lib.mk_data a
  rw [← Lib.mk_data a, ← Lib.mk_data b, h]

theorem VS.below0 {B N : Nat} {bad : Bool} {w0 w w1 : World} (h : VS B N bad w0 w) (hb : Below w.heap.size w w1) : VS B N bad w0 w1 :=
  ⟨h.vr.below hb, h.below.trans (hb.mono (Nat.le_of_lt h.vr.lt)), h.others.trans (fun k _ hk _ _ => (hb.block k (lt_of_block hk)).trans hk)⟩

set_option maxRecDepth 100000 in
theorem checkperm_one (B N : Nat) (bad q : Bool) (s : ByteArray) (w0 w : World) (h : VS B N bad w0 w) (hN : N ≤ 900000) (hs : s.size ≤ 4294967296) (hbl : (32 : UInt8) ∉ s.data.toList) :
    Calls Try.prog 44 #[.pointer (some ⟨B, 0, none⟩), .string s, .bool q] w fun e w' => e = .returned (.tuple #[]) ∧ VS B (N + 4) (bad || !valid s.data.toList) w0 w' := by
  obtain ⟨r, hr, hl⟩ := split_f 32 s ⟨#[32]⟩ rfl hs
  have h1 : lists r = [s.data.toList] := by rw [hl]; unfold toks; rw [toksA_none 32 _ _ hbl]; rfl
  obtain rfl : r = [s] := by
    cases r with
    | nil => simp [lists] at h1
    | cons a b =>
      simp only [lists, List.map_cons, List.cons.injEq, List.map_eq_nil_iff] at h1
      rw [bytes_eq h1.1, h1.2]
  have hsp := Lib.hid (Psplit.natsjwt_split.calls (s.size + 1) s ⟨#[32]⟩ [s] w hr)
  clear hr hl h1 hbl
  go_enter Try.func44, Try.ntmps44
  go_wp2_with fail
  refine hsp.out.mono ?_
  rintro e w1 ⟨v, rfl, hR, hb⟩
  have hown := Kd.own_of_R hR
  have hv1 := h.below0 hb
  obtain ⟨g, cap, rfl, _, _⟩ := hown.form (by simp)
  have hc : w1.cell? ⟨g, 0, none⟩ = some (.string s) := hown.cells (g := g) rfl 0 _ rfl
  clear hown hR hb hsp
  go_wp2_with (go_at_call 23; refine (validate_any B N bad s w0 _ hv1 hN hs).mono ?_; rintro e w2 ⟨rfl, hv2⟩)
  go_end0
  exact ⟨rfl, hv2⟩

/-- Is each of the texts a valid subject? -/
def allValid (l : List ByteArray) : Bool := l.all fun s => valid s.data.toList
theorem allValid_snoc (l : List ByteArray) (k : Nat) (h : k < l.length) : allValid (l.take (k + 1)) = (allValid (l.take k) && valid l[k].data.toList) := by
  unfold allValid
  rw [List.take_succ_eq_append_getElem h, List.all_append, List.all_cons, List.all_nil, Bool.and_true]

/-- The two rows of a permission that the call has made, in block p. -/
structure PermAt (B p : Nat) (A1 A2 : Option Addr) (c1 c2 : Nat) (xs ys : List ByteArray) (w : World) : Prop where
  box : w.heap[p]? = some (.cells #[.slice A1 xs.length c1, .slice A2 ys.length c2] 61 (0, 0))
  ne : p ≠ B
  one : w.ownsRow (B + 1) 9 1 (.slice A1 xs.length c1) xs.length (encs Value.string xs)
  two : w.ownsRow (B + 1) 9 1 (.slice A2 ys.length c2) ys.length (encs Value.string ys)

theorem PermAt.kept {B p N : Nat} {bad : Bool} {A1 A2 : Option Addr} {c1 c2 : Nat} {xs ys : List ByteArray} {w w1 : World} (h : PermAt B p A1 A2 c1 c2 xs ys w) (hv : VS B N bad w w1) : PermAt B p A1 A2 c1 c2 xs ys w1 :=
  ⟨hv.others p _ h.box (fun e => h.ne (by injection e)) (fun c fz e => by injection e with _ e _; exact absurd e (by decide)), h.ne, own_others h.one hv.others (by decide) (by omega), own_others h.two hv.others (by decide) (by omega)⟩

theorem own_at_string {w : World} {base : Nat} {e : TypeId} {A : Option Addr} {c : Nat} {xs : List ByteArray} (h : w.ownsRow base e 1 (.slice A xs.length c) xs.length (encs Value.string xs)) (k : Nat) (hk : k < xs.length) :
    ∃ ad, A = some ad ∧ w.cell? (ad.add k) = some (.string xs[k]) := by
  obtain ⟨_, _, hr⟩ := reads_own Value.string ByteArray.empty h
  obtain ⟨ad, hA, hc⟩ := hr.2.2 (by omega)
  refine ⟨ad, hA, ?_⟩
  rw [hc k hk, List.getD_eq_getElem?_getD, List.getElem?_eq_getElem hk]
  rfl

set_option maxRecDepth 100000 in
set_option maxHeartbeats 800000 in
theorem pvalidate_any (B p : Nat) (q : Bool) (A1 A2 : Option Addr) (c1 c2 : Nat) (xs ys : List ByteArray) (N : Nat) (bad : Bool) (w : World) (h : VR B N bad w) (hp : PermAt B p A1 A2 c1 c2 xs ys w) (hN : N + 4 * xs.length + 4 * ys.length ≤ 900000)
    (hx : ∀ s ∈ xs, s.size ≤ 4294967296 ∧ (32 : UInt8) ∉ s.data.toList) (hy : ∀ s ∈ ys, s.size ≤ 4294967296 ∧ (32 : UInt8) ∉ s.data.toList) :
    Calls Try.prog 28 #[.pointer (some ⟨p, 0, none⟩), .pointer (some ⟨B, 0, none⟩), .bool q] w fun e w' => e = .returned (.tuple #[]) ∧ VS B (N + 4 * xs.length + 4 * ys.length) ((bad || !allValid xs) || !allValid ys) w w' := by
  have g0 : w.cell? ⟨p, 0, none⟩ = some (.slice A1 xs.length c1) := by simp [World.cell?, hp.box]
  have hl1 : xs.length ≤ 900000 := by omega
  have hl2 : ys.length ≤ 900000 := by omega
  have HX := Lib.hid hx
  have HY := Lib.hid hy
  clear hx hy
  go_enter Try.func28, Try.ntmps28
  go_wp2
  go_loopw [15, 7] (fun i _ wr => ∃ k : Nat, k ≤ xs.length ∧ i = .int .i64 k ∧ VS B (N + 4 * k) (bad || !allValid (xs.take k)) w wr) (fun i _ _ => xs.length - (intOf i).toNat)
  case atStart => exact ⟨0, Nat.zero_le _, rfl, by simpa [allValid] using VS.start h⟩
  case round =>
    clear g0
    obtain ⟨k, hk, rfl, hv⟩ := hrel
    have hpr := hp.kept hv
    by_cases hlt : k < xs.length
    · obtain ⟨ad, hA, hcell⟩ := own_at_string hpr.one k hlt
      cases hA
      have hs := HX.out xs[k] (List.getElem_mem hlt)
      have hce := Lib.hid (checkperm_one B (N + 4 * k) _ q xs[k] w wr hv (by omega) hs.1 hs.2)
      have hsn := Lib.hid (allValid_snoc xs k hlt)
      clear hs hpr
      generalize xs[k] = s at *
      go_wp2_with fail
      refine hce.out.mono ?_
      rintro e w2 ⟨rfl, hv2⟩
      go_wp2
      go_roundw
      case rel => exact ⟨k + 1, by omega, by go_num, by rw [hsn.out]; exact hv2.close (by omega) (by simp [Bool.or_assoc])⟩
      case measure => simp [intOf]; omega
    · obtain rfl : k = xs.length := by omega
      have g1 : wr.cell? ⟨p, 1, none⟩ = some (.slice A2 ys.length c2) := by simp [World.cell?, hpr.box]
      rw [List.take_length] at hv
      clear hlt hk hpr
      go_wp2
      go_loopw [29, 9] (fun i _ wq => ∃ k : Nat, k ≤ ys.length ∧ i = .int .i64 k ∧ VS B (N + 4 * xs.length + 4 * k) ((bad || !allValid xs) || !allValid (ys.take k)) w wq) (fun i _ _ => ys.length - (intOf i).toNat)
      case atStart => exact ⟨0, Nat.zero_le _, rfl, hv.close (by omega) (by simp [allValid])⟩
      case round =>
        clear g1 hv
        obtain ⟨k, hk, rfl, hv⟩ := hrel
        have hpr := hp.kept hv
        by_cases hlt : k < ys.length
        · obtain ⟨ad, hA, hcell⟩ := own_at_string hpr.two k hlt
          cases hA
          have hs := HY.out ys[k] (List.getElem_mem hlt)
          have hce := Lib.hid (checkperm_one B (N + 4 * xs.length + 4 * k) _ q ys[k] w _ hv (by omega) hs.1 hs.2)
          have hsn := Lib.hid (allValid_snoc ys k hlt)
          clear hs hpr
          generalize ys[k] = s at *
          go_wp2_with fail
          refine hce.out.mono ?_
          rintro e w2 ⟨rfl, hv2⟩
          go_wp2
          go_roundw
          case rel => exact ⟨k + 1, by omega, by go_num, by rw [hsn.out]; exact hv2.close (by omega) (by simp [Bool.or_assoc])⟩
          case measure => simp [intOf]; omega
        · obtain rfl : k = ys.length := by omega
          rw [List.take_length] at hv
          clear hlt hk hpr
          go_wp2
          go_end0
          exact ⟨rfl, hv⟩
end Go.Proofs.Ytnbihmagbedfmaa
