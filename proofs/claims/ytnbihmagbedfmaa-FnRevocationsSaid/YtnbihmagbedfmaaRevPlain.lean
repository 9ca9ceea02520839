/- The list that the specification keeps, and the map's datum. -/
import Derived.Test.YtnbihmagbedfmaaRevMap
import Derived.Test.YtnbihmagbedfmaaPFnRevocationsx0
namespace Go.Proofs.Ytnbihmagbedfmaa
open Go.RowKit Go.Maps Go.WideMaps
abbrev En := PFnRevocations.S47
/-- The map's datum of a list of entries. -/
def MD (L : List En) : DataW Unit := .map (L.map fun e => (kl e.f0, i64 e.f1))
def keyLt (a b : En) : Prop := a.f0.data.toList < b.f0.data.toList
/-- Strictly rising by keys. -/
def Up (L : List En) : Prop := L.Pairwise fun a b => bytesBefore a.f0.data.toList b.f0.data.toList = true

theorem kl_inj {a b : ByteArray} (h : kl a = kl b) : a = b := by
  unfold kl at h
  injection h with h
  exact ByteArray.ext (Array.toList_inj.1 h)
theorem same_kl (a b : ByteArray) : (kl a).sameKey (kl b) = decide (a = b) := by
  by_cases h : a = b
  · subst h; simp [kl, Lit.sameKey]
  · rw [decide_eq_false h]; exact sameKey_ne (fun e => h (kl_inj e))

theorem del_MD (L : List En) (s : ByteArray) : (MD L).del (kl s) = MD (L.filter fun e => decide (e.f0 ≠ s)) := by
  unfold MD DataW.del
  simp only
  congr 1
  rw [List.filter_map]
  congr 1
  apply List.filter_congr
  intro e _
  simp [same_kl]

theorem has_MD (L : List En) (s : ByteArray) : has (MD L) (kl s) = L.any fun e => decide (e.f0 = s) := by
  unfold MD
  rw [has_eq, List.any_map]
  congr 1
  funext e
  simp [same_kl]

theorem at_MD (L : List En) (s : ByteArray) (z : Int) : (MD L).atKey (kl s) (i64 z) = i64 (((L.find? fun e => decide (e.f0 = s)).map (·.f1)).getD z) := by
  unfold MD DataW.atKey
  simp only [List.find?_map]
  have : ((fun p : Lit × DataW Unit => p.1.sameKey (kl s)) ∘ fun e : En => (kl e.f0, i64 e.f1)) = fun e => decide (e.f0 = s) := by
    funext e; simp [same_kl]
  rw [this]
  cases L.find? fun e => decide (e.f0 = s) <;> rfl

/-- An entry put where it belongs. -/
def ins (x : En) : List En → List En
  | [] => [x]
  | y :: r => if bytesBefore x.f0.data.toList y.f0.data.toList then x :: y :: r else y :: ins x r
theorem put_MD (L : List En) (s : ByteArray) (t : Int) : (MD L).put (kl s) (i64 t) = MD (ins ⟨s, t⟩ (L.filter fun e => decide (e.f0 ≠ s))) := by
  have h1 : ∀ l : List En, DataW.insert (kl s, i64 t) (l.map fun e => (kl e.f0, i64 e.f1)) = (ins ⟨s, t⟩ l).map fun e => (kl e.f0, i64 e.f1) := by
    intro l
    induction l with
    | nil => rfl
    | cons y r ih =>
      simp only [List.map_cons, DataW.insert, ins]
      have hb : (kl s).before (kl y.f0) = bytesBefore s.data.toList y.f0.data.toList := rfl
      rw [hb]
      split
      · rfl
      · simp [ih]
  have h2 := del_MD L s
  unfold MD DataW.del at h2
  unfold MD DataW.put
  simp only at h2 ⊢
  injection h2 with h2
  rw [h2, h1]
end Go.Proofs.Ytnbihmagbedfmaa
