-- PRINTED BY print.sh 35421559b90ae4d0a3588c463048766b98c2df88dd9212a6774a882060cdf62d: not written by this session
import Derived.Test.YtnbihmagbedfmaaDoorRProg
import Derived.Below
import Derived.Deep.Draws
import Derived.Deep.AppendLies
import Derived.Maps.AppendAt
import Derived.OwnWalk
import Derived.Laws.BytesArg
import Derived.Laws.MakeOwn
import Derived.Laws.OwnMore
import Derived.Deep.OwnRows
import Derived.Tactics
import Derived.Lib.ConvBytes
import Derived.Laws.Slices
import Derived.WalkKit
import Derived.KernelRfl
import Derived.RowKit3
import Derived.Deep.LoopGhost
import Derived.Deep.QuietTactic
import Derived.BigQuiet
import Derived.WideLaws
import Derived.Deep.DeepCutAuto
import Derived.Deep.CutBlock
import Derived.Deep.RegionHeld3
import Derived.Laws.Rows
import Derived.Lib.AppendStr
import Derived.ArgAppend
import Derived.Laws.IdiomCopy
import Derived.OrdersHeld
import Derived.Laws.BitsLemmas
import Derived.RowKit
import Derived.Test.YtnbihmagbedfmaaDoorRWWords
import Derived.Test.YtnbihmagbedfmaaDoorRWLast
import Derived.Test.YtnbihmagbedfmaaDoorRWTab
import Derived.Test.YtnbihmagbedfmaaDoorRWFour
import Derived.Test.YtnbihmagbedfmaaDoorRWQPut
import Derived.Test.YtnbihmagbedfmaaDoorRWApart
import Derived.Test.YtnbihmagbedfmaaDoorRWArr
import Derived.Test.YtnbihmagbedfmaaDoorRWZeros
import Derived.Test.YtnbihmagbedfmaaDoorRWFoot
import Derived.Test.YtnbihmagbedfmaaDoorRWKept
import Derived.Test.YtnbihmagbedfmaaDoorRWShare
import Derived.Test.YtnbihmagbedfmaaDoorRWN
import Derived.Test.YtnbihmagbedfmaaDoorRWFootNe
import Derived.Test.YtnbihmagbedfmaaDoorRWAt
import Derived.Test.YtnbihmagbedfmaaDoorRWEqStruct
import Derived.Test.YtnbihmagbedfmaaDoorRWRepsOne
import Derived.Test.YtnbihmagbedfmaaDoorRWInv
import Derived.Test.YtnbihmagbedfmaaDoorRWInvWords
import Derived.Test.YtnbihmagbedfmaaDoorRWGuard
import Derived.Test.YtnbihmagbedfmaaDoorRWNEv
import Derived.Test.YtnbihmagbedfmaaDoorRWMore
namespace Go.Proofs.YtnbihmagbedfmaaDoorR.PzzFits1
open Go.RowKit Go.Proofs.YtnbihmagbedfmaaDoorRW.PrintWords Go.Proofs.YtnbihmagbedfmaaDoorRW.PrintLast Go.Proofs.YtnbihmagbedfmaaDoorRW.PrintMore
attribute [local go_sem] max2_int min2_int max_two min_two max_three min_three max_four min_four   -- for this text's walks alone
set_option linter.unusedVariables false
set_option linter.unusedSimpArgs false



def errW : Option Int → Value
  | none => .nilIface
  | some c => .iface 0 (.int .i64 c)
theorem errW_none : errW none = .nilIface := rfl
theorem errW_some (c : Int) : errW (some c) = .iface 0 (.int .i64 c) := rfl

-- the values' own types
def rd_L2 (xs : List (List ByteArray)) (i : Int) : (List ByteArray) := xs.getD i.toNat ([] : List ByteArray)
theorem at_L2 {w : World} {A : Option Addr} {n : Nat} {xs : List (List ByteArray)} (h : Kd.C (Kd.slice 9 Kd.string) w A n xs) (i : Int) (h0 : 0 ≤ i) (h1 : i < n) : ∃ ad A0 c0, A = some ad ∧ w.cell? (ad.add i.toNat) = some (.slice A0 (rd_L2 xs i).length c0) ∧ (rd_L2 xs i).length ≤ c0 ∧ Kd.string.C w A0 (rd_L2 xs i).length (rd_L2 xs i) := by
  obtain ⟨ad, c, e, _, hK, hc0⟩ := Kd.C_get h ([] : List ByteArray) i h0 h1
  have hc : ∀ j u, c[j]? = some u → w.cell? (ad.add (i.toNat * 1 + j)) = some u := hc0
  obtain ⟨A0, c0, rfl, l0, g0⟩ := hK
  exact ⟨ad, A0, c0, e, by have hq := hc 0 _ rfl; rwa [Nat.mul_one, Nat.add_zero] at hq, l0, g0⟩

/-! #### struct type 36 -/
structure S36 where
  f0 : Bool
  f1 : (List ByteArray)
def z36 : S36 := ⟨false, ([] : List ByteArray)⟩
def k36 : Kd S36 := Kd.iso (Kd.pair Kd.bool (Kd.slice 9 Kd.string)) (fun x : S36 => (x.f0, x.f1))
theorem k36_open {w : World} {x : S36} {cs : List Value} (h : k36.K w x cs) : ∃ A1 c1, cs = [.bool x.f0, .slice A1 x.f1.length c1] ∧ x.f1.length ≤ c1 ∧ Kd.string.C w A1 x.f1.length x.f1 := by
  obtain ⟨_, _, rfl, rfl, ⟨A1, c1, rfl, l1, g1⟩⟩ := h
  exact ⟨A1, c1, rfl, l1, g1⟩
theorem k36_openM {w : World} {base : Nat} {ok : Nat → Prop} {x : S36} {cs : List Value} (h : k36.M w base ok x cs) : ∃ v1, cs = [.bool x.f0, v1] ∧ Kd.string.R 9 w base ok v1 x.f1 := by
  obtain ⟨_, _, rfl, rfl, ⟨v1, rfl, g1⟩⟩ := h
  exact ⟨v1, rfl, g1⟩
theorem k36_mk (w : World) (x : S36) {A1 : Option Addr} {c1 : Nat} (l1 : x.f1.length ≤ c1) (g1 : Kd.string.C w A1 x.f1.length x.f1) : k36.K w x [.bool x.f0, .slice A1 x.f1.length c1] := ⟨[.bool x.f0], [.slice A1 x.f1.length c1], rfl, rfl, ⟨A1, c1, rfl, l1, g1⟩⟩
theorem k36_mkM (w : World) (base : Nat) (ok : Nat → Prop) (x : S36) {v1 : Value} (g1 : Kd.string.R 9 w base ok v1 x.f1) : k36.M w base ok x [.bool x.f0, v1] := ⟨[.bool x.f0], [v1], rfl, rfl, ⟨v1, rfl, g1⟩⟩
def rd_T36 (xs : List S36) (i : Int) : S36 := xs.getD i.toNat z36
theorem at_T36 {w : World} {A : Option Addr} {n : Nat} {xs : List S36} (h : Kd.C k36 w A n xs) (i : Int) (h0 : 0 ≤ i) (h1 : i < n) : ∃ ad A1 c1, A = some ad ∧ w.cell? (ad.add (i.toNat * 2)) = some (.bool (rd_T36 xs i).f0) ∧ w.cell? ⟨(ad.add (i.toNat * 2)).block, (ad.add (i.toNat * 2)).off + 1, none⟩ = some (.slice A1 (rd_T36 xs i).f1.length c1) ∧ (rd_T36 xs i).f1.length ≤ c1 ∧ Kd.string.C w A1 (rd_T36 xs i).f1.length (rd_T36 xs i).f1 := by
  obtain ⟨ad, c, e, _, hK, hc0⟩ := Kd.C_get h z36 i h0 h1
  have hc : ∀ j u, c[j]? = some u → w.cell? (ad.add (i.toNat * 2 + j)) = some u := hc0
  obtain ⟨A1, c1, rfl, l1, g1⟩ := k36_open hK
  exact ⟨ad, A1, c1, e, hc 0 _ rfl, by rw [← add_field _ _ 1 (by omega)]; exact hc 1 _ rfl, l1, g1⟩

end Go.Proofs.YtnbihmagbedfmaaDoorR.PzzFits1
