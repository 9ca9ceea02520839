/- Laws on append, whatever the program: a copy of a slice of one-cell elements that is read ('append([]T(nil), xs...)'). -/
import Derived.Test.YtnbihmagbedfmaaWMore
import Derived.Deep.RegionHeld3
import Derived.Deep.AppendLies
namespace Go.Proofs.Ytnbihmagbedfmaa
open Go.RowKit Go.Proofs.YtnbihmagbedfmaaW.PrintWords
section
variable {P : Program}

theorem append_types (t u ty e e' : TypeId) (ht : P.underlying t = some (.slice e)) (hu : P.underlying u = some (.slice e')) (a : Option Addr) (n c : Nat) (x : Value) (w : World) :
    (Builtin.append_ #[t, u] ty #[.slice a n c, x]).run P w = (Builtin.append_ #[t, t] ty #[.slice a n c, x]).run P w := by
  unfold Builtin.append_
  simp only [List.getElem?_toArray, List.getElem?_cons_zero, List.getElem?_cons_succ, Sem.run_bind, run_underlying ht, run_underlying hu, Result.andThen_ok]

/-- append(nil, xs...), xs a slice of one-cell elements that is read. -/
theorem run_append_copy {α : Type} (enc : α → Value) (d : α) (h1 : ∀ x, (enc x).oneCell' = true) (w : World) (t u ty e e' : TypeId) (z : Value) (bytes : Nat) (ht : P.underlying t = some (.slice e)) (hu : P.underlying u = some (.slice e'))
    (hinfo : (P.info? e).map (fun i => (i.zero, i.size, i.bytes)) = some (some z, 1, bytes)) (hz : z.cells.size = 1) (A : Option Addr) (n c : Nat) (xs : List α) (hr : ReadsOf enc d w A n xs) (hb : n * bytes ≤ 140737488355328) (hb0 : 0 < bytes) :
    ∃ A' c' w', (Builtin.append_ #[t, u] ty #[.slice none 0 0, .slice A n c]).run P w = .ok (.slice A' n c') w' ∧ w'.ownsRow w.heap.size e 1 (.slice A' n c') n (encs enc xs) ∧ w.grownBy w' none := by
  obtain ⟨i0, hi, hzz⟩ := Option.map_eq_some_iff.1 hinfo
  simp only [Prod.mk.injEq] at hzz
  obtain ⟨hz0, hz1, hz2⟩ := hzz
  have hl := hr.1
  have hn0 : w.ownsRow w.heap.size e 1 (.slice none 0 0) 0 [] := own_nil _ _ _ _
  rw [append_types t u ty e e' ht hu]
  rcases A with _ | ad
  · have h0 : n = 0 := by
      rcases Nat.eq_zero_or_pos n with h0 | h0
      · exact h0
      · obtain ⟨ad, h, _⟩ := hr.2.2 h0
        cases h
    subst h0
    obtain rfl : xs = [] := List.eq_nil_of_length_eq_zero hl
    refine ⟨none, 0, w, ?_, hn0, World.grownBy.refl w _⟩
    simp [Builtin.append_, run_underlying ht, sizeOf, typeInfo, hi, Builtin.lenOf, Builtin.firstCells]
  · have hcells : ∀ j u, (encs enc xs)[j]? = some u → w.cell? (ad.add j) = some u := by
      intro j u hu
      have hj : j < xs.length := by
        rcases Nat.lt_or_ge j xs.length with h | h
        · exact h
        · simp [encs, List.getElem?_eq_none h] at hu
      obtain ⟨ad', h', hc⟩ := hr.2.2 (by omega)
      injection h' with h'
      subst h'
      have := hc j (by omega)
      simp [encs, List.getElem?_eq_getElem hj] at hu
      subst hu
      rw [this]
      simp [List.getD_eq_getElem?_getD, List.getElem?_eq_getElem hj]
    have hn2 : n ≤ 140737488355328 := Nat.le_trans (Nat.le_mul_of_pos_right _ hb0) hb
    obtain ⟨v1, w1, hrun, h2, h3, _, h5⟩ := run_append_own_at (P := P) w w.heap.size t ty e i0 z 1 bytes ht hi hz0 hz1 hz2 hz (by omega) (.slice none 0 0) 0 [] hn0 ad n c (encs enc xs) (by rw [encs_length]; omega) hcells
      (by intro u hu; simp only [encs, List.mem_map] at hu; obtain ⟨q, _, rfl⟩ := hu; exact h1 q) (by simp only [maxLen]; omega) (by rw [Nat.zero_add]; exact hb) (Nat.le_refl _)
    rw [Nat.zero_add, List.nil_append] at h2
    obtain ⟨A', c', rfl⟩ := own_slice h2
    exact ⟨A', c', w1, hrun, h2, h3⟩

theorem step_append_copy {ops : Array Oper} {o : Oper} {a : Act} {K : Act → World → Prop} {Q : Exit → Act → World → Prop} {E : Prop} {α : Type} (enc : α → Value) (d : α) (h1 : ∀ x, (enc x).oneCell' = true) (w : World) (hgd : o.guard = none) (s x : Operand) (t u e e' : TypeId)
    (ho : o.op = .call { callee := .builtin .append, args := #[s, x], argTypes := #[t, u] }) (z : Value) (bytes : Nat) (ht : P.underlying t = some (.slice e)) (hu : P.underlying u = some (.slice e'))
    (hinfo : (P.info? e).map (fun i => (i.zero, i.size, i.bytes)) = some (some z, 1, bytes)) (hz : z.cells.size = 1) (A : Option Addr) (n c : Nat) (xs : List α) (hs : a.eval s = .slice none 0 0) (hx : a.eval x = .slice A n c) (hr : ReadsOf enc d w A n xs) (hb : n * bytes ≤ 140737488355328) (hb0 : 0 < bytes)
    (h : ∀ A' c' w', w'.ownsRow w.heap.size e 1 (.slice A' n c') n (encs enc xs) → w.grownBy w' none → K (a.put o.dst (.slice A' n c')) w') :
    if Region.wanted o (yielded ops a.tmps) = true then Oper.wp P o a w K Q else E := by
  have hw : Region.wanted o (yielded ops a.tmps) = true := by simp [Region.wanted, hgd]
  rw [if_pos hw]
  obtain ⟨A', c', w', hrun, h2, h3⟩ := run_append_copy (P := P) enc d h1 w t u o.type e e' z bytes ht hu hinfo hz A n c xs hr hb hb0
  unfold Oper.wp execOp
  simp only [ho, resolve, invoke, builtin, Sem.run_bind, Sem.run_pure, Result.andThen_ok, List.map_toArray, List.map_cons, List.map_nil, hs, hx, hrun]
  exact h A' c' w' h2 h3

theorem wpList_append_copy {ops : Array Oper} {rest : List Oper} {o : Oper} {a : Act} {Q : Exit → Act → World → Prop} {α : Type} (enc : α → Value) (d : α) (h1 : ∀ x, (enc x).oneCell' = true) (w : World) (hgd : o.guard = none) (s x : Operand) (t u e e' : TypeId)
    (ho : o.op = .call { callee := .builtin .append, args := #[s, x], argTypes := #[t, u] }) (z : Value) (bytes : Nat) (ht : P.underlying t = some (.slice e)) (hu : P.underlying u = some (.slice e'))
    (hinfo : (P.info? e).map (fun i => (i.zero, i.size, i.bytes)) = some (some z, 1, bytes)) (hz : z.cells.size = 1) (A : Option Addr) (n c : Nat) (xs : List α) (hs : a.eval s = .slice none 0 0) (hx : a.eval x = .slice A n c) (hr : ReadsOf enc d w A n xs) (hb : n * bytes ≤ 140737488355328) (hb0 : 0 < bytes)
    (h : ∀ A' c' w', w'.ownsRow w.heap.size e 1 (.slice A' n c') n (encs enc xs) → w.grownBy w' none → wpList P ops Q rest (a.put o.dst (.slice A' n c')) w') : wpList P ops Q (o :: rest) a w := by
  refine wpList_plain hgd fun K hK => ?_
  obtain ⟨A', c', w', hrun, h2, h3⟩ := run_append_copy (P := P) enc d h1 w t u o.type e e' z bytes ht hu hinfo hz A n c xs hr hb hb0
  unfold Oper.wp execOp
  simp only [ho, resolve, invoke, builtin, Sem.run_bind, Sem.run_pure, Result.andThen_ok, List.map_toArray, List.map_cons, List.map_nil, hs, hx, hrun]
  exact hK _ _ (h A' c' w' h2 h3)
end

/-- A row of one-cell elements that the call owns reads as its list. -/
theorem reads_own {α : Type} (enc : α → Value) (d : α) {w : World} {base n : Nat} {e : TypeId} {A : Option Addr} {m c : Nat} {xs : List α} (h : w.ownsRow base e 1 (.slice A m c) n (encs enc xs)) : m = n ∧ xs.length = n ∧ ReadsOf enc d w A n xs := by
  have hl : xs.length = n := by have := h.1; rw [encs_length] at this; omega
  rcases h.2 with ⟨hv, h0⟩ | ⟨g, cap, cur, hv, _, hh, hnc, hcm, hcs, htk⟩
  · injection hv with ha hm hc
    subst ha; subst hm; subst h0
    exact ⟨rfl, hl, hl, by omega, fun hp => absurd hp (by omega)⟩
  · injection hv with ha hm hc
    subst ha; subst hm
    refine ⟨rfl, hl, hl, by unfold maxLen at hcm; omega, fun hp => ⟨_, rfl, fun j hj => ?_⟩⟩
    refine h.cells (g := g) rfl j _ ?_
    simp [encs, List.getElem?_eq_getElem (show j < xs.length by omega), List.getD_eq_getElem?_getD]
end Go.Proofs.Ytnbihmagbedfmaa
