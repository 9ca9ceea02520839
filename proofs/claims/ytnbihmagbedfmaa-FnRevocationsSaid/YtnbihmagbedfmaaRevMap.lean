/- Revoke, ClearRevocation, IsRevoked over a map that is owned. -/
import Derived.Test.YtnbihmagbedfmaaUnix
import Derived.Maps.OwnSet
namespace Go.Proofs.Ytnbihmagbedfmaa
open Go.RowKit Go.Maps Go.WideMaps Go.Proofs.YtnbihmagbedfmaaW.PrintWords

theorem lawS : Keyed Try.prog 9 := string_keyed Try.underlying9
theorem zero64 (w : World) : (zeroValue 2).run Try.prog w = .ok (.int .i64 0) w := by kernel_rfl
abbrev MapAt (w : World) (b n : Nat) (D : DataW Unit) : Prop := w.ownsMap Try.prog 9 (plainElem Try.prog 2) b n D
def kl (s : ByteArray) : Lit := .string s.data.toList
def i64 (t : Int) : DataW Unit := .lit (.int .i64 t)
theorem key_s (s : ByteArray) (h : s.size ≤ maxLen) : keyOf Try.prog 9 (.string s) = some (kl s) := keyOf_string_mk Try.underlying9 h

/-- What Revoke makes of the map. -/
def revD (D : DataW Unit) (s : ByteArray) (t : Int) (c : Int) : DataW Unit := if has D (kl s) = true ∧ c > t then D else D.put (kl s) (i64 t)

set_option maxRecDepth 100000 in
theorem revoke_any (b n : Nat) (D : DataW Unit) (s : ByteArray) (t : Int) (hs : s.size ≤ maxLen) (hn : n < maxLen) (h0 : 0 ≤ t) (h1 : t ≤ 1099511627776) (w : World) (hown : MapAt w b n D) :
    Calls Try.prog 31 #[.map (some b), .string s, timeV t] w fun e w' => e = .returned (.tuple #[]) ∧ ∃ c, D.atKey (kl s) (i64 0) = i64 c ∧ MapAt w' b (n + 1) (revD D s t c) ∧ w.grownBy w' (some b) := by
  have hkey := key_s s hs
  have H := Lib.hid (time_unix_any t h0 h1 (w.alloc (Obj.cells #[.int .u64 0, .int .i64 (wrap64 (t + 62135596800)), .pointer none] 70)))
  have HW := Lib.hid hown
  clear hown
  unfold timeV at H
  unfold timeV
  go_enter Try.func31, Try.ntmps31
  go_wp2_with fail
  refine H.out.mono ?_
  rintro e w1 ⟨rfl, hb⟩
  have hg1 : w.grownBy w1 (some b) := ((World.grownBy_alloc w _ _).trans ⟨hb.os, hb.tape, hb.output, hb.size, fun i hi _ => hb.block i hi⟩)
  have hown1 : MapAt w1 b n D := HW.out.kept (row := none) ((World.grownBy_alloc w _ _).trans ⟨hb.os, hb.tape, hb.output, hb.size, fun i hi _ => hb.block i hi⟩) (by simp)
  have G1 := Lib.hid hg1
  clear hg1 hb H
  go_wp2_with (first
    | (at_lookup; refine wpList_lookup_own_ok_int _ rfl _ _ 65 rfl 9 2 .i64 lawS Try.underlying65 Try.underlying2 (zero64 _) b n D rfl hown1 _ _ rfl hkey ?_; intro c hat hwc)
    | (at_mapUpdate; refine wpList_mapUpdate_own _ rfl _ _ _ 65 rfl 9 2 lawS Try.underlying65 _ b n D rfl hown1 hn _ _ _ rfl rfl hkey _ [] (plainElem_int Try.underlying2 (WalkArith.wf_i64 (by omega))) ?_; intro w2 hown2 hgrow2))
  · have hh : has D (kl s) = true := by assumption
    have hc : t < c := by assumption
    refine bodyPost_ret (results_none rfl _ _ _) rfl ⟨rfl, c, hat, ?_, G1.out⟩
    unfold revD; rw [if_pos ⟨hh, hc⟩]; exact hown1.mono (Nat.le_succ _)
  · have hc : c ≤ t := by assumption
    go_end0
    refine ⟨rfl, c, hat, ?_, G1.out.trans hgrow2⟩
    unfold revD; rw [if_neg (by omega)]; exact hown2
  · have hh : ¬ has D (kl s) = true := by assumption
    go_end0
    refine ⟨rfl, c, hat, ?_, G1.out.trans hgrow2⟩
    unfold revD; rw [if_neg (by intro h; exact hh h.1)]; exact hown2

set_option maxRecDepth 100000 in
theorem clear_any (b n : Nat) (D : DataW Unit) (s : ByteArray) (hs : s.size ≤ maxLen) (w : World) (hown : MapAt w b n D) :
    Calls Try.prog 33 #[.map (some b), .string s] w fun e w' => e = .returned (.tuple #[]) ∧ MapAt w' b n (D.del (kl s)) ∧ w.grownBy w' (some b) := by
  have hkey := key_s s hs
  go_enter Try.func33, Try.ntmps33
  go_wp2_with (at_delete; refine wpList_delete_own _ rfl _ _ 65 9 rfl 2 lawS Try.underlying65 _ b n D rfl hown _ _ rfl hkey ?_; intro w1 hown1 hturn1)
  go_end0
  exact ⟨rfl, hown1, hturn1.grown⟩

def starS : ByteArray := ⟨#[42]⟩
/-- What a key's entry says of a time. -/
def atD (D : DataW Unit) (s : ByteArray) (t c : Int) : Bool := has D (kl s) && decide (t ≤ c)

set_option maxRecDepth 100000 in
theorem all_any (b n : Nat) (D : DataW Unit) (t : Int) (h0 : 0 ≤ t) (h1 : t ≤ 1099511627776) (w : World) (hown : MapAt w b n D) :
    Calls Try.prog 47 #[.map (some b), timeV t] w fun e w' => ∃ c, D.atKey (kl starS) (i64 0) = i64 c ∧ e = .returned (.bool (atD D starS t c)) ∧ MapAt w' b n D ∧ w.grownBy w' none := by
  have hkey := key_s starS (by decide)
  have hown0 : MapAt (w.alloc (Obj.cells #[.int .u64 0, .int .i64 (wrap64 (t + 62135596800)), .pointer none] 70)) b n D := hown.alloc _
  have H := Lib.hid (time_unix_any t h0 h1 (w.alloc (Obj.cells #[.int .u64 0, .int .i64 (wrap64 (t + 62135596800)), .pointer none] 70)))
  have HW := Lib.hid hown
  clear hown
  unfold timeV at H
  unfold timeV
  unfold starS at hkey
  go_enter Try.func47, Try.ntmps47
  go_wp2_with (at_lookup; refine wpList_lookup_own_ok_int _ rfl _ _ 65 rfl 9 2 .i64 lawS Try.underlying65 Try.underlying2 (zero64 _) b n D rfl hown0 _ _ rfl hkey ?_; intro c hat hwc)
  · have hh : has D (kl ⟨#[42]⟩) = true := by assumption
    refine H.out.mono ?_
    rintro e w1 ⟨rfl, hb⟩
    have hg1 : w.grownBy w1 none := ((World.grownBy_alloc w _ _).trans ⟨hb.os, hb.tape, hb.output, hb.size, fun i hi _ => hb.block i hi⟩)
    have G1 := Lib.hid hg1
    clear hb hg1
    go_wp2
    all_goals (go_ret; exact ⟨c, hat, by simp [atD, starS, *], HW.out.kept G1.out (by simp), G1.out⟩)
  · have hh : ¬ has D (kl ⟨#[42]⟩) = true := by assumption
    go_ret
    exact ⟨c, hat, by simp [atD, starS, *], hown0, World.grownBy_alloc w _ _⟩

set_option maxRecDepth 100000 in
theorem isRevoked_any (b n : Nat) (D : DataW Unit) (s : ByteArray) (t : Int) (hs : s.size ≤ maxLen) (h0 : 0 ≤ t) (h1 : t ≤ 1099511627776) (w : World) (hown : MapAt w b n D) :
    Calls Try.prog 34 #[.map (some b), .string s, timeV t] w fun e w' => ∃ c c', D.atKey (kl starS) (i64 0) = i64 c ∧ D.atKey (kl s) (i64 0) = i64 c' ∧ e = .returned (.bool (atD D starS t c || atD D s t c')) ∧ MapAt w' b n D ∧ w.grownBy w' none := by
  have hkey := key_s s hs
  have hown0 : MapAt (w.alloc (Obj.cells #[.int .u64 0, .int .i64 (wrap64 (t + 62135596800)), .pointer none] 70)) b n D := hown.alloc _
  have HA := Lib.hid (all_any b n D t h0 h1 _ hown0)
  have HT := Lib.hid (time_unix_any t h0 h1)
  have HW := Lib.hid hown
  obtain ⟨c', _, hat', hwc'⟩ := hown.lookup_int lawS Try.underlying65 Try.underlying2 (zero64 _) hkey
  clear hown
  unfold timeV at HA HT
  unfold timeV
  go_enter Try.func34, Try.ntmps34
  go_wp2_with fail
  refine HA.out.mono ?_
  rintro e w1 ⟨c, hat, rfl, hown1, hg1⟩
  have G1 := Lib.hid ((World.grownBy_alloc w _ none).trans hg1)
  have hg := hg1.block w.heap.size (by simp) (by simp)
  rw [heap_alloc_new] at hg
  have q0 : w1.cell? ⟨w.heap.size, 0, none⟩ = some (.int .u64 0) := by simp [World.cell?, hg]
  have q1 : w1.cell? ⟨w.heap.size, 1, none⟩ = some (.int .i64 (wrap64 (t + 62135596800))) := by simp [World.cell?, hg]
  have q2 : w1.cell? ⟨w.heap.size, 2, none⟩ = some (.pointer none) := by simp [World.cell?, hg]
  clear hg1 hg HA hown0
  go_wp2_with (at_lookup; refine wpList_lookup_own_ok_int _ rfl _ _ 65 rfl 9 2 .i64 lawS Try.underlying65 Try.underlying2 (zero64 _) b n D rfl hown1 _ _ rfl hkey ?_; intro c2 hat2 hwc2)
  · have ht : atD D starS t c = true := by assumption
    go_ret
    exact ⟨c, c', hat, hat', by simp [ht], hown1, G1.out⟩
  · have ht : atD D starS t c = false := by assumption
    have hh : has D (kl s) = true := by assumption
    refine (HT.out _).mono ?_
    rintro e w2 ⟨rfl, hb⟩
    have hg2 : w1.grownBy w2 none := ⟨hb.os, hb.tape, hb.output, hb.size, fun i hi _ => hb.block i hi⟩
    have G2 := Lib.hid hg2
    have hown2 := hown1.kept hg2 (by simp)
    clear hb hg2
    go_wp2
    have key : (atD D starS t c || atD D s t c2) = decide (t ≤ c2) := by rw [ht, Bool.false_or]; unfold atD; rw [hh, Bool.true_and]
    all_goals (go_ret; exact ⟨c, c2, hat, hat2, by rw [key]; simp [*], hown2, G1.out.trans G2.out⟩)
  · have ht : atD D starS t c = false := by assumption
    have hh : ¬ has D (kl s) = true := by assumption
    have key : (atD D starS t c || atD D s t c2) = false := by rw [ht, Bool.false_or]; unfold atD; rw [Bool.eq_false_iff.2 hh]; rfl
    go_ret
    exact ⟨c, c2, hat, hat2, by rw [key]; rfl, hown1, G1.out⟩
end Go.Proofs.Ytnbihmagbedfmaa
