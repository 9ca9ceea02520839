/- Contracts of what FnRevocations calls: the specification's Revoked, Cleared, Is and Compact keep the list as its plain law says; impl.Revocations answers and leaves what that list says. No condition beyond those that each theorem names. -/
import Derived.Test.YtnbihmagbedfmaaSortLay
import Derived.Test.YtnbihmagbedfmaaActs
import Derived.WalkKit
import Derived.Laws.OwnMore
import Derived.Deep.RegionLawGrows
import Derived.Deep.AppendLies
import Derived.Deep.RegionHeld3
import Derived.Test.YtnbihmagbedfmaaAppend
import Derived.Maps.RangeWalk
import Derived.Maps.AppendAt
import Derived.Sort.OwnSorted
import Derived.Test.YtnbihmagbedfmaaCompactMap
import Derived.Test.YtnbihmagbedfmaaValid
import Derived.RegionTactic
import Derived.ChangeAlike
/- slices.SortFunc over the entries: what is sorted by keys is the list. -/
namespace Go.Proofs.Ytnbihmagbedfmaa
open Go.Shelf Go.RowKit Go.Lib Go.Sort
def encEn (x : En) : List Value := [.string x.f0, .int .i64 x.f1]
instance : Inhabited En := ⟨⟨ByteArray.empty, 0⟩⟩
def cmpK (x y : En) : Int := if bb x.f0 y.f0 = true then -1 else 1
theorem less_before : ∀ (a b : List UInt8), Op.bytesLess a b = bytesBefore a b
  | [], [] => rfl
  | _ :: _, [] => rfl
  | [], _ :: _ => rfl
  | a :: x, b :: y => by unfold Op.bytesLess bytesBefore; rw [less_before x y]
theorem less_bb (a b : ByteArray) : Op.bytesLess a.toList b.toList = bb a b := by rw [less_before, Lib.toList_data, Lib.toList_data]; rfl

set_option maxRecDepth 100000 in
theorem cmp_any (x y : En) (W : World) : Calls Try.prog 37 #[.agg #[.string x.f0, .int .i64 x.f1], .agg #[.string y.f0, .int .i64 y.f1]] W fun e w' => e = .returned (.int .i64 (cmpK x y)) ∧ ∃ q os', w' = grow (W.drewN q) os' := by
  have hb := less_bb x.f0 y.f0
  have HB := Lib.hid hb
  clear hb
  go_enter Try.func37, Try.ntmps37
  go_wp2
  · have h : Op.bytesLess x.f0.toList y.f0.toList = true := by assumption
    go_ret
    refine ⟨?_, 0, _, by rw [alloc_eq_grow, alloc_eq_grow, grow_grow]; rfl⟩
    unfold cmpK
    rw [← HB.out, if_pos h]
    rfl
  · have h : Op.bytesLess x.f0.toList y.f0.toList = false := by assumption
    go_ret
    refine ⟨?_, 0, _, by rw [alloc_eq_grow, alloc_eq_grow, grow_grow]; rfl⟩
    unfold cmpK
    rw [← HB.out, if_neg (by rw [h]; decide)]
    rfl

theorem cmp_lays (blk off size : Nat) (w : World) : CmpLays Try.prog 37 #[] encEn 2 cmpK blk off size w := fun _ _ _ _ x y => cmp_any x y _

theorem lt_key (x y : En) : ltOf cmpK x y = bb x.f0 y.f0 := by
  unfold ltOf cmpK
  cases bb x.f0 y.f0 <;> simp
theorem bb_not {a b : ByteArray} (h : bb a b = false) : a = b ∨ bb b a = true := by
  rcases Decidable.em (a = b) with e | e
  · exact .inl e
  · rcases bb_total e with h1 | h1
    · rw [h] at h1; cases h1
    · exact .inr h1
theorem swo_key : SWO (ltOf cmpK) where
  irrefl x := by rw [lt_key]; exact bb_irrefl _
  trans x y z h1 h2 := by rw [lt_key] at *; exact bb_trans h1 h2
  ntrans x y z h1 h2 := by
    rw [lt_key] at *
    rcases bb_not h1 with e | h3
    · rw [e]; exact h2
    · rcases bb_not h2 with e | h4
      · rw [← e]; exact h1
      · exact bb_asymm (bb_trans h4 h3)

theorem flat_get (L : List En) : ∀ t, (L.flatMap encEn)[t]? = (L[t / 2]?).bind fun x => (encEn x)[t % 2]? := by
  induction L with
  | nil => intro t; simp
  | cons e r ih =>
    intro t
    rw [List.flatMap_cons]
    match t with
    | 0 => rfl
    | 1 => rfl
    | t + 2 =>
      have h1 : (encEn e ++ r.flatMap encEn)[t + 2]? = (r.flatMap encEn)[t]? := rfl
      rw [h1, ih t, show (t + 2) / 2 = t / 2 + 1 by omega, show (t + 2) % 2 = t % 2 by omega]
      rfl
theorem flat_len (L : List En) : (L.flatMap encEn).length = L.length * 2 := by
  induction L with
  | nil => rfl
  | cons e r ih => rw [List.flatMap_cons, List.length_append, ih, List.length_cons]; simp [encEn]; omega
theorem flatK_en (d : Array En) : flatK encEn 2 d = (d.toList.flatMap encEn).toArray := by
  apply Array.ext_getElem?
  intro t
  have h0 : ((d.toList.flatMap encEn).toArray)[t]? = (d.toList.flatMap encEn)[t]? := by simp
  rw [h0, flat_get]
  unfold flatK
  by_cases ht : t < d.size * 2
  · have h2 : t / 2 < d.size := by omega
    have h3 : t % 2 < (encEn d[t / 2]).length := by simp [encEn]; omega
    rw [Array.getElem?_map, Array.getElem?_range, if_pos ht, Array.getElem?_toList, Array.getElem?_eq_getElem h2]
    simp only [Option.map_some, Option.bind_some]
    rw [getElem!_pos d (t / 2) h2, getElem!_pos (encEn d[t / 2]) (t % 2) h3, List.getElem?_eq_getElem h3]
  · rw [Array.getElem?_map, Array.getElem?_range, if_neg ht, Array.getElem?_toList, Array.getElem?_eq_none (by omega)]
    rfl

theorem heap_put {w : World} {g n : Nat} {os : Array Obj} {cur : Array Value} {e : TypeId} {fr : Nat × Nat} (F : Array Value) (hb : w.heap[g]? = some (.cells cur e fr)) :
    (grow (putRow id (Sort.ahead w n) g 0 F) os).heap[g]? = some (.cells (putCells id 0 F cur) e fr) := by
  have hg : g < w.heap.size := (Array.getElem?_eq_some_iff.1 hb).1
  rw [heap_grow_old _ _ (by simpa using hg)]
  simp [putRow, mapBlock, Sort.ahead, Array.getElem?_modify, hb, onCells]
theorem grown_put {w : World} {g n : Nat} {os : Array Obj} (F : Array Value) : w.grownBy (grow (putRow id (Sort.ahead w n) g 0 F) os) (some g) := by
  refine ⟨rfl, rfl, rfl, by simp, fun k hk hne => ?_⟩
  rw [heap_grow_old _ _ (by simpa using hk)]
  have : g ≠ k := fun e => hne (by rw [e])
  simp [putRow, mapBlock, Sort.ahead, Array.getElem?_modify, this]
theorem take_put (cur F : Array Value) (h : F.size ≤ cur.size) : (putCells id 0 F cur).toList.take F.size = F.toList := by
  apply List.ext_getElem?
  intro j
  by_cases hj : j < F.size
  · rw [List.getElem?_take_of_lt hj, Array.getElem?_toList]
    simp [putCells, hj, show j < cur.size by omega]
  · rw [List.getElem?_take_eq_none (by omega), List.getElem?_eq_none (by simp; omega)]

set_option maxRecDepth 100000 in
/-- What is handed to SortFunc in whatever order is the list behind it. -/
theorem sort_any (v : Value) (base : Nat) (es L : List En) (w : World) (hown : w.ownsRow base 48 2 v es.length (es.flatMap encEn)) (hp : es.Perm L) (hL : Up L) (hl : L.length ≤ 1000) :
    Calls Try.prog 36 #[v, .func (.func 37) #[] #[]] w fun e w' => e = .returned (.tuple #[]) ∧ w'.ownsRow base 48 2 v L.length (L.flatMap encEn) ∧ w.grownBy w' v.ownBlock := by
  have hlen := hp.length_eq
  rcases hown.2 with ⟨rfl, hn0⟩ | ⟨g, cap, cur, rfl, hbase, hb, h1, h2, h3, h4⟩
  · have h0 : es = [] := List.length_eq_zero_iff.1 hn0
    subst h0
    have hL0 : L = [] := by rw [← List.length_eq_zero_iff, ← hlen]; rfl
    subst hL0
    have hcon := AnyF.slices_SortFunc_none Try.sortEnt none 0 (.func (.func 37) #[] #[]) w
    exact hcon.mono fun e w' ⟨he, hw⟩ => ⟨he, by rw [hw]; exact hown, by rw [hw]; exact World.grownBy.refl _ _⟩
  · have eg : ∀ args w, (callFunc 37 args).run Try.prog w = .ok (.enter 37 args) w := enters_of Try.func37 (by kernel_rfl) rfl
    have hg : g < w.heap.size := (Array.getElem?_eq_some_iff.1 hb).1
    have hH : HoldsK encEn 2 w g 0 es.toArray := by
      unfold HoldsK
      intro j hj
      have hj' : j < es.length * 2 := by simpa using hj
      refine ⟨?_, by simp [World.frozen?, hb]⟩
      have h5 : (cur.toList.take (es.length * 2))[j]? = (es.flatMap encEn)[j]? := by rw [h4]
      rw [List.getElem?_take_of_lt hj'] at h5
      simp only [World.cell?, hb, Nat.zero_add]
      simp only [Option.isSome_none, Bool.false_eq_true, if_false]
      rw [← Array.getElem?_toList, h5, flatK_en, List.getElem?_eq_getElem (by rw [flat_len]; exact hj')]
      simp only [id, getElem!_def, List.getElem?_toArray]
      rw [List.getElem?_eq_getElem (by rw [flat_len]; exact hj')]
    have hcon := AnyQ.slices_SortFunc Try.sortEnt 2 Try.isAgg48 Try.sizeOf48 encEn (fun _ => rfl) (fun x v hv => by simp [encEn] at hv; rcases hv with rfl | rfl <;> rfl) cmpK swo_key 37 #[] g 0 cap es.toArray w eg (cmp_lays g 0 es.toArray.size w) hH hg (by simp; omega)
    change Calls Try.prog 36 _ _ _ at hcon
    refine hcon.mono ?_
    rintro e w' ⟨he, d', n, os, hpm, hs, rfl⟩
    obtain ⟨hsz, _, hperm⟩ := hpm
    have e1 : d'.extract 0 es.toArray.size = d' := by rw [← hsz]; exact Array.extract_size
    rw [e1, Array.extract_size] at hperm
    have hpl : d'.toList.Perm L := by
      have : d'.toList.Perm es := by simpa using hperm
      exact this.trans hp
    have hdl : d'.toList = L := by
      refine sorted_is hL hpl ?_
      rw [List.pairwise_iff_getElem]
      intro i j hi hj hij
      have hi' : i < d'.size := by simpa using hi
      have hj' : j < d'.size := by simpa using hj
      have := hs i j (Nat.zero_le _) hij (by omega)
      rw [getElem!_pos d' j hj', getElem!_pos d' i hi', lt_key] at this
      simpa using this
    have hF : flatK encEn 2 d' = (L.flatMap encEn).toArray := by rw [flatK_en, hdl]
    unfold sortWorldK putRowK
    rw [hF]
    refine ⟨he, ⟨flat_len L, .inr ⟨g, cap, _, by rw [hlen], hbase, heap_put _ hb, by omega, h2, by simp [putCells, h3], ?_⟩⟩, grown_put _⟩
    have h6 := take_put cur (L.flatMap encEn).toArray (by simp only [List.size_toArray, flat_len]; omega)
    have h7 : (L.flatMap encEn).toArray.size = L.length * 2 := by rw [List.size_toArray, flat_len]
    rw [h7] at h6
    exact h6
end Go.Proofs.Ytnbihmagbedfmaa
/- spec.Revoked. -/
namespace Go.Proofs.Ytnbihmagbedfmaa
open Go.RowKit Go.Proofs.YtnbihmagbedfmaaW.PrintWords

theorem rev_hit (s : ByteArray) (t : Int) : ∀ (L : List En) (k : Nat) (hk : k < L.length), (∀ (j : Nat) (h : j < k), bb (L[j]'(by omega)).f0 s = true) → L[k].f0 = s → revL L s t = L.set k ⟨s, max L[k].f1 t⟩
  | [], k, hk, _, _ => absurd hk (by simp)
  | e :: r, 0, _, _, h => by
    have h' : e.f0 = s := h
    unfold revL
    rw [h', bb_irrefl, if_neg (by decide), if_pos rfl]
    rfl
  | e :: r, k + 1, hk, hb, h => by
    have h0 : bb e.f0 s = true := hb 0 (by omega)
    unfold revL
    rw [if_pos h0, rev_hit s t r k (by simpa using hk) (fun j hj => hb (j + 1) (by omega)) h]
    rfl
theorem rev_miss (s : ByteArray) (t : Int) : ∀ (L : List En) (k : Nat) (_ : k ≤ L.length), (∀ (j : Nat) (h : j < k), bb (L[j]'(by omega)).f0 s = true) → (∀ h : k < L.length, bb L[k].f0 s = false ∧ L[k].f0 ≠ s) → revL L s t = L.take k ++ ⟨s, t⟩ :: L.drop k
  | [], k, _, _, _ => by simp [revL]
  | e :: r, 0, _, _, h => by
    have h' := h (by simp)
    have h1 : bb e.f0 s = false := h'.1
    have h2 : e.f0 ≠ s := h'.2
    unfold revL
    rw [h1, if_neg (by decide), if_neg h2]
    rfl
  | e :: r, k + 1, hk, hb, h => by
    have h0 : bb e.f0 s = true := hb 0 (by omega)
    unfold revL
    rw [if_pos h0, rev_miss s t r k (by simpa using hk) (fun j hj => hb (j + 1) (by omega)) (fun h1 => h (by simpa using h1))]
    rfl

theorem flat_set (L : List En) (k : Nat) (hk : k < L.length) (s : ByteArray) (m : Int) (hs : L[k].f0 = s) : (L.flatMap encEn).set (k * 2 + 1) (.int .i64 m) = (L.set k ⟨s, m⟩).flatMap encEn := by
  apply List.ext_getElem?
  intro t
  rw [List.getElem?_set, flat_get, flat_get, List.getElem?_set, flat_len]
  by_cases h1 : k * 2 + 1 = t
  · subst h1
    rw [if_pos rfl, if_pos (by omega), show (k * 2 + 1) / 2 = k by omega, if_pos rfl, if_pos hk, show (k * 2 + 1) % 2 = 1 by omega]
    rfl
  · rw [if_neg h1]
    by_cases h2 : k = t / 2
    · rw [if_pos h2, if_pos hk, ← h2, List.getElem?_eq_getElem hk, show t % 2 = 0 by omega]
      simp [encEn, hs]
    · rw [if_neg h2]
theorem flat_take (L : List En) (k : Nat) : (L.take k).flatMap encEn = (L.flatMap encEn).take (k * 2) := by
  apply List.ext_getElem?
  intro t
  rw [flat_get, List.getElem?_take, List.getElem?_take, flat_get]
  by_cases h : t < k * 2
  · rw [if_pos h, if_pos (by omega)]
  · rw [if_neg h, if_neg (by omega)]; rfl
theorem flat_drop (L : List En) (k : Nat) : (L.drop k).flatMap encEn = (L.flatMap encEn).drop (k * 2) := by
  apply List.ext_getElem?
  intro t
  rw [flat_get, List.getElem?_drop, List.getElem?_drop, flat_get, show (k * 2 + t) / 2 = k + t / 2 by omega, show (k * 2 + t) % 2 = t % 2 by omega]

theorem en_cell {w : World} {base g c : Nat} {T : TypeId} {L : List En} (h : w.ownsRow base T 2 (.slice (some ⟨g, 0, none⟩) L.length c) L.length (L.flatMap encEn)) (k : Nat) (hk : k < L.length) :
    w.cell? ⟨g, k * 2, none⟩ = some (.string L[k].f0) ∧ w.cell? ⟨g, k * 2 + 1, none⟩ = some (.int .i64 L[k].f1) := by
  refine ⟨?_, ?_⟩
  · rw [h.cellAt _ (by omega), flat_get, show k * 2 / 2 = k by omega, List.getElem?_eq_getElem hk, show k * 2 % 2 = 0 by omega]; rfl
  · rw [h.cellAt _ (by omega), flat_get, show (k * 2 + 1) / 2 = k by omega, List.getElem?_eq_getElem hk, show (k * 2 + 1) % 2 = 1 by omega]; rfl

theorem infoE : (Try.prog.info? 47).map (fun i => (i.zero, i.size, i.bytes)) = some (some (.agg #[.string ⟨#[]⟩, .int .i64 0]), 2, 24) := by kernel_rfl

section
variable {P : Program} {ops : Array Oper} {o : Oper} {a : Act} {w : World} {K : Act → World → Prop} {Q : Exit → Act → World → Prop} {E : Prop}
/-- append onto a row of the call's own, whatever is appended, as a step of a region that draws. -/
theorem step_append_onto (hgd : o.guard = none) (s x : Operand) (t : TypeId) (ho : o.op = .call { callee := .builtin .append, args := #[s, x], argTypes := #[t, t] })
    (base : Nat) (e : TypeId) (i : TypeInfo) (z : Value) (size bytes : Nat) (ht : P.underlying t = some (.slice e)) (hi : P.info? e = some i) (hz : i.zero = some z) (hsize : i.size = size) (hby : i.bytes = bytes) (hzs : z.cells.size = size) (hsz : 0 < size)
    (v : Value) (n : Nat) (xs : List Value) (hs : a.eval s = v) (hown : w.ownsRow base e size v n xs)
    (ad : Addr) (m c : Nat) (news : List Value) (hx : a.eval x = .slice (some ad) m c) (hl : news.length = m * size) (hnews : ∀ j u, news[j]? = some u → w.cell? (ad.add j) = some u) (h1 : ∀ u ∈ news, u.oneCell' = true)
    (hnm : 0 < n + m) (h63 : n + m ≤ maxLen) (hbytes : (n + m) * bytes ≤ 140737488355328) (hbase : base ≤ w.heap.size)
    (h : ∀ g cap w', w'.ownsRow base e size (.slice (some ⟨g, 0, none⟩) (n + m) cap) (n + m) (xs ++ news) → w.grownBy w' v.ownBlock → K (a.put o.dst (.slice (some ⟨g, 0, none⟩) (n + m) cap)) w') :
    if Region.wanted o (yielded ops a.tmps) = true then Oper.wp P o a w K Q else E := by
  have hw : Region.wanted o (yielded ops a.tmps) = true := by simp [Region.wanted, hgd]
  rw [if_pos hw]
  obtain ⟨v', w', hr, h2, h3, _, _⟩ := run_append_own_at (P := P) w base t o.type e i z size bytes ht hi hz hsize hby hzs hsz v n xs hown ad m c news hl hnews h1 h63 hbytes hbase
  obtain ⟨g, cap, rfl, _, _⟩ := h2.form hnm
  unfold Oper.wp execOp
  simp only [ho, resolve, invoke, builtin, Sem.run_bind, Sem.run_pure, Result.andThen_ok, List.map_toArray, List.map_cons, List.map_nil, hs, hx, hr]
  exact h g cap w' h2 h3
end

theorem grown_ad (w : World) (o : Obj) : w.grownBy (w.alloc o).drew none := ⟨rfl, rfl, rfl, (World.grownBy_alloc w o none).size, (World.grownBy_alloc w o none).block⟩
theorem en_one (L : List En) : ∀ u ∈ L.flatMap encEn, u.oneCell' = true := by
  intro u hu
  obtain ⟨e, _, h⟩ := List.mem_flatMap.1 hu
  simp [encEn] at h
  rcases h with rfl | rfl <;> rfl
theorem add_at (g i j : Nat) : (⟨g, i, none⟩ : Addr).add j = ⟨g, i + j, none⟩ := by
  unfold Addr.add
  split
  · next h => subst h; rfl
  · rfl

/-- A list of entries in a row of the call's own. -/
def OwnE (T : TypeId) (base : Nat) (v : Value) (L : List En) (w : World) : Prop := ∃ A c, v = .slice A L.length c ∧ w.ownsRow base T 2 (.slice A L.length c) L.length (L.flatMap encEn)
def RevPost (base : Nat) (row : Option Nat) (M : List En) (w : World) (e : Ending) (w' : World) : Prop := ∃ v, e = .returned v ∧ OwnE 47 base v M w' ∧ w.grownBy w' row

theorem rev_close {base k : Nat} {row : Option Nat} {w w1 w2 : World} {L : List En} {s : ByteArray} {t : Int} {v2 : Value} (hk : k ≤ L.length) (hr : revL L s t = L.take k ++ ⟨s, t⟩ :: L.drop k) (g1 : w.grownBy w1 none)
    (h : w2.ownsRow w1.heap.size 47 2 v2 (k + (1 + (L.length - k))) ((L.take k).flatMap encEn ++ ([.string s, .int .i64 t] ++ (L.drop k).flatMap encEn))) (g2 : w1.grownBy w2 none) (hbase : base ≤ w.heap.size) :
    RevPost base row (revL L s t) w (.returned v2) w2 := by
  obtain ⟨A, c, rfl⟩ := own_slice h
  have hn : k + (1 + (L.length - k)) = (revL L s t).length := by rw [hr, List.length_append, List.length_cons, List.length_take, List.length_drop]; omega
  have hx : (L.take k).flatMap encEn ++ ([.string s, .int .i64 t] ++ (L.drop k).flatMap encEn) = (revL L s t).flatMap encEn := by rw [hr, List.flatMap_append, List.flatMap_cons]; rfl
  rw [hn, hx] at h
  refine ⟨_, rfl, ⟨A, c, by rw [hn], own_weaken h (Nat.le_trans hbase g1.size)⟩, (g1.andThen g2 (fun j hj => by cases hj)).but row⟩

theorem rev_end {base : Nat} {row : Option Nat} {w w1 w2 : World} {L : List En} {s : ByteArray} {t : Int} {v2 : Value} (hr : revL L s t = L.take L.length ++ ⟨s, t⟩ :: L.drop L.length) (g1 : w.grownBy w1 none)
    (h : w2.ownsRow w1.heap.size 47 2 v2 (L.length + 1) ((L.take L.length).flatMap encEn ++ [.string s, .int .i64 t])) (g2 : w1.grownBy w2 none) (hbase : base ≤ w.heap.size) :
    RevPost base row (revL L s t) w (.returned v2) w2 := by
  refine rev_close (k := L.length) (Nat.le_refl _) hr g1 ?_ g2 hbase
  have e1 : L.length + (1 + (L.length - L.length)) = L.length + 1 := by omega
  rw [e1, List.drop_length]
  exact h

set_option maxRecDepth 100000 in
set_option maxHeartbeats 1000000 in
theorem revoked_some (g c base : Nat) (L : List En) (s : ByteArray) (t : Int) (w : World) (hown : w.ownsRow base 47 2 (.slice (some ⟨g, 0, none⟩) L.length c) L.length (L.flatMap encEn)) (hbase : base ≤ w.heap.size) (hl : L.length ≤ 1000) :
    Calls Try.prog 15 #[.slice (some ⟨g, 0, none⟩) L.length c, .string s, .int .i64 t] w (RevPost base (some g) (revL L s t) w) := by
  obtain ⟨i0, hi, hz0, hz1, hz2⟩ := info_parts infoE
  have HO := Lib.hid hown
  clear hown
  go_enter Try.func15, Try.ntmps15
  go_wp2
  go_loop [7] (fun a => ∃ k : Nat, k ≤ L.length ∧ a = .int .i64 k ∧ Hid (∀ (j : Nat) (_ : j < k) (h : j < L.length), bb L[j].f0 s = true)) (fun a => L.length - (intOf a).toNat)
  case atStart => exact ⟨0, Nat.zero_le _, rfl, fun j hj _ => absurd hj (by omega)⟩
  case round =>
    obtain ⟨k, hk, rfl, hb⟩ := hrel
    by_cases hlt : k < L.length
    · obtain ⟨hc0, hc1⟩ := en_cell HO.out k hlt
      cases hbk : bb L[k].f0 s with
      | true =>
        have hnx : Hid (∀ (j : Nat) (_ : j < k + 1) (h : j < L.length), bb L[j].f0 s = true) := fun j hj h => by
          by_cases e : j = k
          · subst e; exact hbk
          · exact hb j (by omega) h
        have hle : Op.bytesLess L[k].f0.toList s.toList = true := by rw [less_bb]; exact hbk
        generalize L[k].f0 = q at *
        clear hbk hb
        go_wp2
        go_round
        case rel => exact ⟨k + 1, by omega, by go_num, hnx⟩
        case measure => simp [intOf]; omega
      | false =>
        have hle : Op.bytesLess L[k].f0.toList s.toList = false := by rw [less_bb]; exact hbk
        by_cases he : L[k].f0 = s
        · have HR := Lib.hid (rev_hit s t L k hlt (fun j hj => hb j hj (by omega)) he)
          have hf := HO.out.frozenAt (k * 2 + 1)
          have HF := Lib.hid (flat_set L k hlt s (max L[k].f1 t) he)
          clear hb hbk
          generalize L[k].f1 = m at *
          generalize L[k].f0 = q at *
          subst he
          go_wp2
          go_ret
          have hlen : (revL L q t).length = L.length := by rw [HR.out, List.length_set]
          refine ⟨_, rfl, ⟨some ⟨g, 0, none⟩, c, by rw [hlen]; rfl, ?_⟩, (HO.out.stored _ _).2⟩
          rw [hlen, HR.out, ← HF.out]
          exact (HO.out.stored _ _).1
        · have HR := Lib.hid (rev_miss s t L k hk (fun j hj => hb j hj (by omega)) (fun _ => ⟨hbk, he⟩))
          have hcl : L.length ≤ c := own_le HO.out
          clear hb hbk
          have he2 : (L[k].f0.toList == s.toList) = false := by rw [beq_eq_false_iff_ne, ne_eq, eq_bytes]; exact he
          have he3 : ¬ L[k].f0.toList = s.toList := by rw [eq_bytes]; exact he
          generalize L[k].f1 = m at *
          generalize L[k].f0 = q at *
          clear he
          have i1 : (0 : Int) ≤ (k : Int) := Int.natCast_nonneg _
          have i2 : (k : Int) ≤ (L.length : Int) := by omega
          have i3 : (L.length : Int) ≤ (c : Int) := by omega
          have i4 : (k : Int) ≤ (c : Int) := by omega
          have hck : ¬ c = k := by omega
          go_wp2
          have HN : Hid (∀ W, w.grownBy W none → ∀ j u, ((L.drop k).flatMap encEn)[j]? = some u → W.cell? ((⟨g, k * 2, none⟩ : Addr).add j) = some u) := fun W hg j u hu => by
            rw [add_at]
            refine hg.cell ?_ (by simp)
            rw [HO.out.cellAt _ (by rw [flat_drop, List.getElem?_drop] at hu; have := (List.getElem?_eq_some_iff.1 hu).1; rw [flat_len] at this; exact this)]
            rw [flat_drop, List.getElem?_drop] at hu
            exact hu
          have HT : Hid (∀ W, w.grownBy W none → ∀ b, some (⟨g, 0, none⟩ : Addr) = some b → ∀ j u, ((L.take k).flatMap encEn)[j]? = some u → W.cell? (b.add j) = some u) := fun W hg b hb j u hu => by
            cases hb
            rw [add_at]
            refine hg.cell ?_ (by simp)
            rw [flat_take, List.getElem?_take] at hu
            split at hu
            · rw [HO.out.cellAt _ (by omega), Nat.zero_add]; exact hu
            · cases hu
          go_wp2
          go_region_law (first
            | (refine step_append_onto (by rfl) (.tmp 55) (.tmp 58) _ (by rfl) w.heap.size 47 i0 _ 2 24 Try.underlying35 hi hz0 hz1 hz2 (by rfl) (by decide) (.slice (some ⟨w.heap.size, 0, none⟩) 1 1) 1 [.string s, .int .i64 t] (by rfl) (by exact World.ownsRow_lit w #[.string s, .int .i64 t] 1 (Nat.le_refl _) (by decide) rfl) ⟨g, k * 2, none⟩ (L.length - k) (c - k) ((L.drop k).flatMap encEn) (by rfl) (by rw [flat_len, List.length_drop]) (by exact HN.out _ (grown_ad w _)) (en_one _) (by omega) (by unfold maxLen; omega) (by omega) (by simp) ?_; intro g1 c1 w1 hown1 hgr1; have G1 : Hid (w.grownBy w1 none) := (grown_ad w (Obj.cells #[Value.string s, Value.int IntKind.i64 t] 47)).andThen hgr1 (fun j hj => by cases hj; exact .inl (Nat.le_refl _)); have O1 := Lib.hid hown1; clear hgr1 hown1)
            | (refine step_append_grows (by rfl) (.tmp 51) (.tmp 59) _ (by rfl) 47 i0 _ 2 24 Try.underlying35 hi hz0 hz1 hz2 (by rfl) (by decide) (some ⟨g, 0, none⟩) k k ((L.take k).flatMap encEn) (by rfl) (by intro h; cases h) (by rw [flat_len, List.length_take]; omega) (HT.out _ G1.out) ⟨g1, 0, none⟩ (1 + (L.length - k)) c1 ([.string s, .int .i64 t] ++ (L.drop k).flatMap encEn) (by rfl) O1.out.1 (O1.out.cells (by rfl)) (en_one (⟨s, t⟩ :: L.drop k)) (by omega) (by unfold maxLen; omega) (by omega) ?_; intro v2 w2 hown2 hgr2; have O2 := Lib.hid hown2; have G2 := Lib.hid hgr2; clear hown2 hgr2))
          go_wp2
          go_ret
          exact rev_close hk HR.out G1.out O2.out G2.out hbase
    · obtain rfl : k = L.length := by omega
      have HR := Lib.hid (rev_miss s t L L.length hk (fun j hj => hb j hj (by omega)) (fun h => absurd h (by omega)))
      have hcl : L.length ≤ c := own_le HO.out
      have i1 : (0 : Int) ≤ (L.length : Int) := Int.natCast_nonneg _
      have i3 : (L.length : Int) ≤ (c : Int) := by omega
      have HT : Hid (∀ W, w.grownBy W none → ∀ b, some (⟨g, 0, none⟩ : Addr) = some b → ∀ j u, ((L.take L.length).flatMap encEn)[j]? = some u → W.cell? (b.add j) = some u) := fun W hg b hb j u hu => by
        cases hb
        rw [add_at]
        refine hg.cell ?_ (by simp)
        rw [List.take_length] at hu
        rw [HO.out.cellAt _ (by have := (List.getElem?_eq_some_iff.1 hu).1; rw [flat_len] at this; omega), Nat.zero_add]; exact hu
      clear hb hlt
      by_cases hck : c = L.length
      · subst hck
        go_wp2
        go_region_law (first | (refine step_append_grows (by rfl) (.tmp 51) (.tmp 59) _ (by rfl) 47 i0 _ 2 24 Try.underlying35 hi hz0 hz1 hz2 (by rfl) (by decide) (some ⟨g, 0, none⟩) L.length L.length ((L.take L.length).flatMap encEn) (by rfl) (by intro h; cases h) (by rw [flat_len, List.length_take]; omega) (HT.out _ (grown_ad w _)) ⟨w.heap.size, 0, none⟩ 1 1 [.string s, .int .i64 t] (by rfl) (by rfl) (World.news_of_block (cs := #[.string s, .int .i64 t]) (t := 47) (fr := (0, 0)) (heap_alloc_new w _)) (en_one [⟨s, t⟩]) (by omega) (by unfold maxLen; omega) (by omega) ?_; intro v2 w2 hown2 hgr2; have O2 := Lib.hid hown2; have G2 := Lib.hid hgr2; clear hown2 hgr2) | fail)
        go_wp2
        go_ret
        exact rev_end HR.out (grown_ad w _) O2.out G2.out hbase
      · go_wp2
        go_region_law (first | (refine step_append_grows (by rfl) (.tmp 51) (.tmp 59) _ (by rfl) 47 i0 _ 2 24 Try.underlying35 hi hz0 hz1 hz2 (by rfl) (by decide) (some ⟨g, 0, none⟩) L.length L.length ((L.take L.length).flatMap encEn) (by rfl) (by intro h; cases h) (by rw [flat_len, List.length_take]; omega) (HT.out _ (grown_ad w _)) ⟨w.heap.size, 0, none⟩ 1 1 [.string s, .int .i64 t] (by rfl) (by rfl) (World.news_of_block (cs := #[.string s, .int .i64 t]) (t := 47) (fr := (0, 0)) (heap_alloc_new w _)) (en_one [⟨s, t⟩]) (by omega) (by unfold maxLen; omega) (by omega) ?_; intro v2 w2 hown2 hgr2; have O2 := Lib.hid hown2; have G2 := Lib.hid hgr2; clear hown2 hgr2) | fail)
        go_wp2
        go_ret
        exact rev_end HR.out (grown_ad w _) O2.out G2.out hbase

set_option maxRecDepth 100000 in
theorem revoked_none (base : Nat) (s : ByteArray) (t : Int) (w : World) (hbase : base ≤ w.heap.size) :
    Calls Try.prog 15 #[.slice none 0 0, .string s, .int .i64 t] w (RevPost base none (revL [] s t) w) := by
  obtain ⟨i0, hi, hz0, hz1, hz2⟩ := info_parts infoE
  go_enter Try.func15, Try.ntmps15
  go_wp2
  refine wp_loop_rounds 1 ?_
  rw [rounds_succ]
  go_wp2
  go_region_law (first | (refine step_append_grows (by rfl) (.tmp 51) (.tmp 59) _ (by rfl) 47 i0 _ 2 24 Try.underlying35 hi hz0 hz1 hz2 (by rfl) (by decide) none 0 0 [] (by rfl) (by intro _; exact ⟨rfl, rfl⟩) (by rfl) (by intro b h; cases h) ⟨w.heap.size, 0, none⟩ 1 1 [.string s, .int .i64 t] (by rfl) (by rfl) (World.news_of_block (cs := #[.string s, .int .i64 t]) (t := 47) (fr := (0, 0)) (heap_alloc_new w _)) (en_one [⟨s, t⟩]) (by omega) (by unfold maxLen; omega) (by omega) ?_; intro v2 w2 hown2 hgr2; have O2 := Lib.hid hown2; have G2 := Lib.hid hgr2; clear hown2 hgr2) | fail)
  go_wp2
  go_ret
  exact rev_end (L := []) rfl (grown_ad w _) O2.out G2.out hbase

/-- spec.Revoked. -/
theorem revoked_any (A : Option Addr) (c base : Nat) (L : List En) (s : ByteArray) (t : Int) (w : World) (hown : w.ownsRow base 47 2 (.slice A L.length c) L.length (L.flatMap encEn)) (hbase : base ≤ w.heap.size) (hl : L.length ≤ 1000) :
    Calls Try.prog 15 #[.slice A L.length c, .string s, .int .i64 t] w (RevPost base (Value.slice A L.length c).ownBlock (revL L s t) w) := by
  rcases hown.2 with ⟨h1, h2⟩ | ⟨g, cap, cur, h1, _⟩
  · obtain rfl : L = [] := List.length_eq_zero_iff.1 h2
    injection h1 with ha hb hc
    subst ha
    subst hc
    exact revoked_none base s t w hbase
  · injection h1 with ha hb hc
    subst ha
    subst hc
    exact revoked_some g c base L s t w hown hbase hl
end Go.Proofs.Ytnbihmagbedfmaa
/- Cleared, Is and Compact over a row of the call's own. -/
namespace Go.Proofs.Ytnbihmagbedfmaa
open Go.RowKit Go.Proofs.YtnbihmagbedfmaaW.PrintWords
open PFnRevocations (S38 S47 k38 k47 k47_mk k47_openM)

theorem own_C {w : World} {base c : Nat} {T : TypeId} {A : Option Addr} {L : List En} (h : w.ownsRow base T 2 (.slice A L.length c) L.length (L.flatMap encEn)) (hl : L.length ≤ 1000) : Kd.C k47 w A L.length L ∧ L.length ≤ c := by
  refine ⟨⟨rfl, by omega, fun hn => ?_⟩, own_le h⟩
  obtain ⟨g, cap, hv, _, _⟩ := h.form hn
  injection hv with ha hb hc
  subst ha
  refine ⟨_, rfl, fun j p hp => ⟨encEn p, rfl, k47_mk w p, fun i u hu => ?_⟩⟩
  obtain ⟨hj, rfl⟩ := List.getElem?_eq_some_iff.1 hp
  have hi : i < 2 := by have := (List.getElem?_eq_some_iff.1 hu).1; simpa [encEn] using this
  rw [show k47.sz = 2 from rfl, add_at, Nat.zero_add, h.cellAt _ (by omega), flat_get, show (j * 2 + i) / 2 = j by omega, show (j * 2 + i) % 2 = i by omega, hp]
  exact hu

theorem R_own {w : World} {base : Nat} {ok : Nat → Prop} {v : Value} {L : List En} (h : Kd.R k47 47 w base ok v L) : OwnE 47 base v L w := by
  obtain ⟨_, inner, ho, hr⟩ := h
  obtain ⟨A, c, rfl⟩ := own_slice ho
  have hl : inner.length = L.length * 2 := hr.1
  have hi : inner = L.flatMap encEn := by
    apply List.ext_getElem?
    intro t
    rw [flat_get]
    by_cases ht : t < L.length * 2
    · have h2 : t / 2 < L.length := by omega
      have hk := k47_openM (hr.2 (t / 2) L[t / 2] (List.getElem?_eq_getElem h2))
      have h3 : ((inner.drop (t / 2 * 2)).take 2)[t % 2]? = inner[t]? := by
        rw [List.getElem?_take_of_lt (by omega), List.getElem?_drop, show t / 2 * 2 + t % 2 = t by omega]
      rw [← h3, List.getElem?_eq_getElem h2]
      exact congrArg (fun x : List Value => x[t % 2]?) hk
    · rw [List.getElem?_eq_none (by omega), (List.getElem?_eq_none (by omega) : L[t / 2]? = none)]
      rfl
  rw [hi] at ho
  exact ⟨A, c, rfl, ho⟩
theorem grown_below0 {w w' : World} (hb : Below w.heap.size w w') : w.grownBy w' none := ⟨hb.os, hb.tape, hb.output, hb.size, fun i hi _ => hb.block i hi⟩
theorem OwnE.weaken {T : TypeId} {b b' : Nat} {v : Value} {L : List En} {w : World} (h : OwnE T b v L w) (hb : b' ≤ b) : OwnE T b' v L w := by
  obtain ⟨A, c, h1, h2⟩ := h
  exact ⟨A, c, h1, own_weaken h2 hb⟩

theorem cleared_any (A : Option Addr) (c base : Nat) (L : List En) (s : ByteArray) (w : World) (hown : w.ownsRow base 47 2 (.slice A L.length c) L.length (L.flatMap encEn)) (hbase : base ≤ w.heap.size) (hl : L.length ≤ 1000) :
    Calls Try.prog 16 #[.slice A L.length c, .string s] w (RevPost base none (clearL L s) w) := by
  obtain ⟨h1, h2⟩ := own_C hown hl
  exact (PFnRevocations.spec_Cleared.calls (L.length + 1) A c L s _ w h1 h2 (cleared_f s L hl)).mono fun e w' ⟨v, he, hR, hb⟩ => ⟨v, he, (R_own hR).weaken hbase, grown_below0 hb⟩
theorem is_any (A : Option Addr) (c base : Nat) (L : List En) (s : ByteArray) (t : Int) (w : World) (hown : w.ownsRow base 47 2 (.slice A L.length c) L.length (L.flatMap encEn)) (hl : L.length ≤ 1000) :
    Calls Try.prog 17 #[.slice A L.length c, .string s, .int .i64 t] w fun e w' => e = .returned (.bool (isL L s t)) ∧ Below w.heap.size w w' := by
  obtain ⟨h1, h2⟩ := own_C hown hl
  exact PFnRevocations.spec_Is.calls (L.length + 1) A c L s t _ w h1 h2 (is_f s t L hl)
theorem comp_any (A : Option Addr) (c base : Nat) (L : List En) (w : World) (hown : w.ownsRow base 47 2 (.slice A L.length c) L.length (L.flatMap encEn)) (hbase : base ≤ w.heap.size) (hl : L.length ≤ 1000) (hL : Up L) :
    Calls Try.prog 18 #[.slice A L.length c] w (RevPost base none (compL L) w) := by
  obtain ⟨h1, h2⟩ := own_C hown hl
  exact (PFnRevocations.spec_Compact.calls (2 * L.length + 2) A c L _ w h1 h2 (compact_f L hl hL.nodup)).mono fun e w' ⟨v, he, hR, hb⟩ => ⟨v, he, (R_own hR).weaken hbase, grown_below0 hb⟩
end Go.Proofs.Ytnbihmagbedfmaa
/- What holds between the acts: the map, the answers, and what stays as it was. -/
namespace Go.Proofs.Ytnbihmagbedfmaa
open Go.RowKit Go.Maps Go.WideMaps Go.Proofs.YtnbihmagbedfmaaW.PrintWords
open PFnRevocations (S38 k38 rd_T38 at_T38)

theorem infoBool : (Try.prog.info? 4).map (fun i => (i.zero, i.size, i.bytes)) = some (some (.bool false), 1, 1) := by kernel_rfl
theorem infoEnt : (Try.prog.info? 48).map (fun i => (i.zero, i.size, i.bytes)) = some (some (.agg #[.string ⟨#[]⟩, .int .i64 0]), 2, 24) := by kernel_rfl

/-- Behind k acts: the map in block B (the first of the call's own) holds L, block n + 1 the answers. -/
structure RevAt (n : Nat) (w0 : World) (L : List En) (k : Nat) (bs : List Bool) (w : World) : Prop where
  map : MapAt w w0.heap.size k (MD L)
  ans : ∃ A c, w.heap[n + 1]? = some (.cells #[.slice A bs.length c] 36 (0, 0)) ∧ w.ownsRow (w0.heap.size + 1) 4 1 (.slice A bs.length c) bs.length (encs Value.bool bs)
  os : w.os = w0.os
  tape : w.tape = w0.tape
  output : w.output = w0.output
  size : w0.heap.size ≤ w.heap.size
  kept : ∀ j, j < w0.heap.size → j ≠ n + 1 → w.heap[j]? = w0.heap[j]?

theorem RevAt.lt {n k : Nat} {w0 w : World} {L : List En} {bs : List Bool} (h : RevAt n w0 L k bs w) : w0.heap.size < w.heap.size := h.map.lt
theorem RevAt.grown {n k k' : Nat} {w0 w w1 : World} {L L' : List En} {bs : List Bool} (h : RevAt n w0 L k bs w) (hn : n + 1 < w0.heap.size) (hg : w.grownBy w1 (some w0.heap.size)) (hm : MapAt w1 w0.heap.size k' (MD L')) : RevAt n w0 L' k' bs w1 := by
  obtain ⟨A, c, h1, h2⟩ := h.ans
  have hlt := h.lt
  refine ⟨hm, ⟨A, c, (hg.block _ (by omega) (by intro e; injection e with e; omega)).trans h1, h2.kept hg (.inr (row_ne_low h2 (by omega)).symm)⟩, hg.os.trans h.os, hg.tape.trans h.tape, hg.output.trans h.output, Nat.le_trans h.size hg.size, fun j hj hne => ?_⟩
  exact (hg.block j (by omega) (by intro e; injection e with e; omega)).trans (h.kept j hj hne)
theorem RevAt.still {n k : Nat} {w0 w w1 : World} {L : List En} {bs : List Bool} (h : RevAt n w0 L k bs w) (hn : n + 1 < w0.heap.size) (hg : w.grownBy w1 none) : RevAt n w0 L k bs w1 :=
  h.grown hn (hg.but _) (h.map.kept hg (by simp))
theorem RevAt.below {n k : Nat} {w0 w w1 : World} {L : List En} {bs : List Bool} (h : RevAt n w0 L k bs w) (hn : n + 1 < w0.heap.size) (hb : Below w.heap.size w w1) : RevAt n w0 L k bs w1 := h.still hn (grown_below0 hb)
theorem RevAt.below_drew {n k : Nat} {w0 w w1 : World} {L : List En} {bs : List Bool} (h : RevAt n w0 L k bs w) (hn : n + 1 < w0.heap.size) (hb : Below w.drew.heap.size w.drew w1) : RevAt n w0 L k bs w1 := h.still hn ⟨hb.os, hb.tape, hb.output, hb.size, fun i hi _ => hb.block i hi⟩
theorem RevAt.more {n k : Nat} {w0 w : World} {L : List En} {bs : List Bool} (h : RevAt n w0 L k bs w) : RevAt n w0 L (k + 1) bs w := ⟨h.map.mono (Nat.le_succ _), h.ans, h.os, h.tape, h.output, h.size, h.kept⟩

/-- An answer more. -/
theorem RevAt.put {n k : Nat} {w0 w w1 w2 : World} {L : List En} {bs : List Bool} {b : Bool} {A A' : Option Addr} {m c c' : Nat} (h : RevAt n w0 L k bs w) (hn : n + 1 < w0.heap.size) (h1 : w.heap[n + 1]? = some (.cells #[.slice A bs.length c] 36 (0, 0))) (h2 : w.ownsRow (w0.heap.size + 1) 4 1 (.slice A bs.length c) bs.length (encs Value.bool bs))
    (h0 : Below w.heap.size w w1) (hg : w1.grownBy w2 (Value.slice A bs.length c).ownBlock) (hm : m = bs.length + 1) (ho : w2.ownsRow (w0.heap.size + 1) 4 1 (.slice A' m c') m (encs Value.bool bs ++ [.bool b])) :
    w2.heap[n + 1]? = some (.cells #[.slice A bs.length c] 36 (0, 0)) ∧ RevAt n w0 L k (bs ++ [b]) (w2.setCell ⟨n + 1, 0, none⟩ (.slice A' m c')) := by
  subst hm
  have hlt := h.lt
  have hrow : ∀ j, (Value.slice A bs.length c).ownBlock = some j → w0.heap.size + 1 ≤ j := fun j hj => own_base h2 j hj
  have hsame : ∀ j, j < w.heap.size → some j ≠ (Value.slice A bs.length c).ownBlock → w2.heap[j]? = w.heap[j]? := fun j hj hne => (hg.block j (Nat.lt_of_lt_of_le hj h0.size) hne).trans (h0.block j hj)
  have k1 : w2.heap[n + 1]? = some (.cells #[.slice A bs.length c] 36 (0, 0)) := (hsame _ (by omega) (fun e => by have := hrow _ e.symm; omega)).trans h1
  have hmap : MapAt w2 w0.heap.size k (MD L) := (h.map.kept (grown_below0 h0) (by simp)).kept hg (fun e => by have := hrow _ e.symm; omega)
  refine ⟨k1, ⟨?_, ⟨A', c', by rw [List.length_append]; exact one_setCell k1, ?_⟩, hg.os.trans (h0.os.trans h.os), hg.tape.trans (h0.tape.trans h.tape), hg.output.trans (h0.output.trans h.output), ?_, fun j hj hne => ?_⟩⟩
  · exact hmap.setCell (by show w0.heap.size ≠ n + 1; omega) _
  · have he : encs Value.bool (bs ++ [b]) = encs Value.bool bs ++ [.bool b] := by simp [encs]
    rw [he, List.length_append]
    exact ownsRow_setCell_below ho (by show n + 1 < w0.heap.size + 1; omega) _
  · simp only [World.setCell, Array.size_modify]; exact Nat.le_trans h.size (Nat.le_trans h0.size hg.size)
  · rw [Below.heap_setCell _ _ _ _ (by exact hne)]
    exact (hsame j (by omega) (fun e => by have := hrow _ e.symm; omega)).trans (h.kept j hj hne)
theorem RevAt.old {n k N : Nat} {w0 w : World} {L : List En} {bs : List Bool} (h : RevAt n w0 L k bs w) (hN : N ≤ n) (hn : n + 1 < w0.heap.size) : Below N w0 w :=
  ⟨h.os, h.tape, h.output, h.size, fun j hj => h.kept j (by omega) (by omega)⟩

theorem grown_set (w : World) (a : Addr) (u : Value) : w.grownBy (w.setCell a u) (some a.block) :=
  ⟨rfl, rfl, rfl, by simp [World.setCell], fun j _ hne => Below.heap_setCell w a u j (fun e => hne (by rw [e]))⟩

/-- While the map in block B is gone through: block n + 2 the entries that came. -/
structure LeftAt (n B N : Nat) (wm : World) (L : List En) (left : Lit → Bool) (cnt : Nat) (es : List En) (w : World) : Prop where
  rg : w.ranges Try.prog 9 (plainElem Try.prog 2) B wm.heap.size N (MD L) left cnt
  cnt : es.length + cnt ≤ L.length
  row : ∃ A c, w.heap[n + 2]? = some (.cells #[.slice A es.length c] 43 (0, 0)) ∧ w.ownsRow wm.heap.size 48 2 (.slice A es.length c) es.length (es.flatMap encEn)
  col : CollE L left es
  os : w.os = wm.os
  tape : w.tape = wm.tape
  output : w.output = wm.output
  size : wm.heap.size ≤ w.heap.size
  kept : ∀ j, j < wm.heap.size → j ≠ n + 2 → w.heap[j]? = wm.heap[j]?

theorem LeftAt.put {n B N cnt cnt2 m cap cap' : Nat} {wm w w2 w3 : World} {L es : List En} {left : Lit → Bool} {x : ByteArray} {c : Int} {A A' : Option Addr} {o : Obj} (h : LeftAt n B N wm L left cnt es w) (hn : n + 2 < B) (hB : B < wm.heap.size) (hL : Up L)
    (hg2 : w.grownBy w2 (some wm.heap.size)) (hrg2 : w2.ranges Try.prog 9 (plainElem Try.prog 2) B wm.heap.size N (MD L) (fun z => left z && !z.sameKey (kl x)) cnt2) (hlt : cnt2 < cnt) (hlk : left (kl x) = true) (hat : ∀ zd, (MD L).atKey (kl x) zd = i64 c)
    (a1 : w.heap[n + 2]? = some (.cells #[.slice A es.length cap] 43 (0, 0))) (a2 : w.ownsRow wm.heap.size 48 2 (.slice A es.length cap) es.length (es.flatMap encEn)) (hg3 : (w2.alloc o).grownBy w3 (Value.slice A es.length cap).ownBlock)
    (hm : m = es.length + 1) (ho : w3.ownsRow wm.heap.size 48 2 (.slice A' m cap') m (es.flatMap encEn ++ [.string x, .int .i64 c])) :
    w3.heap[n + 2]? = some (.cells #[.slice A es.length cap] 43 (0, 0)) ∧ LeftAt n B N wm L (fun z => left z && !z.sameKey (kl x)) cnt2 (es ++ [⟨x, c⟩]) (w3.setCell ⟨n + 2, 0, none⟩ (.slice A' m cap')) := by
  subst hm
  have hsz := h.size
  have hrow : ∀ j, (Value.slice A es.length cap).ownBlock = some j → wm.heap.size ≤ j := fun j hj => own_base a2 j hj
  have a22 := a2.kept hg2 (.inr (row_ne_iter a2 h.rg).symm)
  have hs2 := hg2.size
  have hs3 := hg3.size
  simp only [World.alloc, Array.size_push] at hs3
  have hsame : ∀ j, j < wm.heap.size → w3.heap[j]? = w.heap[j]? := fun j hj =>
    (hg3.block j (by simp only [World.alloc, Array.size_push]; omega) (fun e => by have := hrow _ e.symm; omega)).trans ((Below.heap_alloc w2 o j (by omega)).trans (hg2.block j (by omega) (by intro e; injection e with e; omega)))
  have k1 := (hsame (n + 2) (by omega)).trans a1
  have hrg3 := (hrg2.alloc o).kept hg3 (fun e => by have := hrow _ e.symm; omega) (row_ne_iter (a22.alloc o) (hrg2.alloc o))
  refine ⟨k1, ⟨hrg3.kept (grown_set w3 ⟨n + 2, 0, none⟩ _) (by show some B ≠ some (n + 2); intro e; injection e with e; omega) (by show some wm.heap.size ≠ some (n + 2); intro e; injection e with e; omega), by have := h.cnt; simp; omega, ⟨A', cap', by rw [List.length_append]; exact one_setCell k1, ?_⟩, h.col.step hL hlk hat, hg3.os.trans (hg2.os.trans h.os), hg3.tape.trans (hg2.tape.trans h.tape), hg3.output.trans (hg2.output.trans h.output), ?_, fun j hj hne => ?_⟩⟩
  · have he : (es ++ [(⟨x, c⟩ : En)]).flatMap encEn = es.flatMap encEn ++ [.string x, .int .i64 c] := by rw [List.flatMap_append]; rfl
    rw [he, List.length_append]
    exact ownsRow_setCell_below ho (by show n + 2 < wm.heap.size; omega) _
  · simp only [World.setCell, Array.size_modify]; omega
  · rw [Below.heap_setCell _ _ _ _ (by exact hne)]
    exact (hsame j hj).trans (h.kept j hj hne)

/-- What impl.Revocations's function leaves. -/
structure RevLeft (n : Nat) (L : List En) (bs : List Bool) (w w' : World) : Prop where
  ans : ∃ A c, w'.heap[n + 1]? = some (.cells #[.slice A bs.length c] 36 (0, 0)) ∧ w'.ownsRow w.heap.size 4 1 (.slice A bs.length c) bs.length (encs Value.bool bs)
  left : ∃ A c, ∃ es : List En, es.Perm L ∧ w'.heap[n + 2]? = some (.cells #[.slice A es.length c] 43 (0, 0)) ∧ w'.ownsRow w.heap.size 48 2 (.slice A es.length c) es.length (es.flatMap encEn)
  os : w'.os = w.os
  tape : w'.tape = w.tape
  output : w'.output = w.output
  size : w.heap.size ≤ w'.heap.size
  kept : ∀ j, j < w.heap.size → j ≠ n + 1 → j ≠ n + 2 → w'.heap[j]? = w.heap[j]?
theorem RevLeft.of {n k N cnt : Nat} {w wm wr : World} {L es : List En} {bs : List Bool} {left : Lit → Bool} (hn : n + 2 < w.heap.size) (R : RevAt n w L k bs wm) (h : LeftAt n w.heap.size N wm L left cnt es wr) (hL : Up L) (hl : ∀ k, left k = false) : RevLeft n L bs w wr := by
  obtain ⟨A, c, h1, h2⟩ := R.ans
  obtain ⟨A2, c2, h3, h4⟩ := h.row
  have hs := R.size
  have hlt := R.lt
  refine ⟨⟨A, c, (h.kept _ (by omega) (by omega)).trans h1, own_weaken (own_move h2 fun k hk => h.kept k (own_lt h2 k hk) (by have := own_base h2 k hk; omega)) (by omega)⟩, ⟨A2, c2, es, h.col.perm hL hl, h3, own_weaken h4 hs⟩, h.os.trans R.os, h.tape.trans R.tape, h.output.trans R.output, Nat.le_trans hs h.size, fun j hj h5 h6 => (h.kept j (by omega) h6).trans (R.kept j hj h5)⟩
end Go.Proofs.Ytnbihmagbedfmaa
/- impl.Revocations's function: the acts, then the entries that are left. -/
namespace Go.Proofs.Ytnbihmagbedfmaa
open Go.RowKit Go.Maps Go.WideMaps Go.Sort Go.Proofs.YtnbihmagbedfmaaW.PrintWords
open PFnRevocations (S38 k38 rd_T38 at_T38)

theorem rd_38 (l : List Ac) (k : Nat) (h : k < l.length) : rd_T38 l (k : Int) = l[k] := by simp [rd_T38, List.getD_eq_getElem?_getD, List.getElem?_eq_getElem h]

set_option maxRecDepth 100000 in
set_option maxHeartbeats 2000000 in
theorem rev1_any (n : Nat) (Al : Option Addr) (cl : Nat) (l : List Ac) (W0 w : World) (hl : Kd.C k38 W0 Al l.length l) (hb : Below W0.heap.size W0 w) (hWn : W0.heap.size ≤ n) (h40 : l.length ≤ 40) (hf : ∀ a ∈ l, Fine a)
    (g0 : w.heap[n]? = some (.cells #[.slice Al l.length cl] 33 (0, 0))) (g1 : w.heap[n + 1]? = some (.cells #[.slice none 0 0] 36 (0, 0))) (g2 : w.heap[n + 2]? = some (.cells #[.slice none 0 0] 43 (0, 0))) :
    Calls Try.prog 30 #[.pointer (some ⟨n, 0, none⟩), .pointer (some ⟨n + 1, 0, none⟩), .pointer (some ⟨n + 2, 0, none⟩)] w fun e w' => e = .returned (.tuple #[]) ∧ RevLeft n (runL l) (saysL l) w w' := by
  have hmm := @run_makeMap Try.prog
  have l2 := lt_of_block g2
  obtain ⟨ib, hib, hb0, hb1, hb2⟩ := info_parts infoBool
  obtain ⟨ie, hie, he0, he1, he2⟩ := info_parts infoEnt
  have hst : Hid (RevAt n w [] 0 [] (w.alloc (.map #[] 0))) := ⟨World.ownsMap_made _ _ _ _, ⟨none, 0, (Below.heap_alloc _ _ _ (by omega)).trans g1, own_nil _ _ _ _⟩, rfl, rfl, rfl, by simp, fun j hj _ => Below.heap_alloc _ _ _ hj⟩
  have c0 : (w.alloc (.map #[] 0)).cell? ⟨n, 0, none⟩ = some (.slice Al l.length cl) := cell_of_one ((Below.heap_alloc _ _ _ (by omega)).trans g0)
  have HL := Lib.hid hl
  have HB := Lib.hid hb
  have HF := Lib.hid hf
  have G2 := Lib.hid g2
  clear hl hb hf g0 g1 g2
  go_enter Try.func30, Try.ntmps30
  go_wp2
  have hn1 : n + 1 < w.heap.size := by omega
  go_loopw [12] (fun i wr => ∃ k : Nat, k ≤ l.length ∧ i = .int .i64 k ∧ Hid (RevAt n w (runL (l.take k)) k (saysL (l.take k)) wr)) (fun i _ => l.length - (intOf i).toNat)
  case atStart => exact ⟨0, Nat.zero_le _, rfl, hst⟩
  case round =>
    clear hst c0
    obtain ⟨k, hk, rfl, R⟩ := hrel
    by_cases hlt : k < l.length
    · obtain ⟨ad, rfl, hc0, hc1, hc2⟩ := at_T38 (Kd.C_below HL.out (HB.out.trans (R.out.old hWn hn1))) (k : Int) (by omega) (by omega)
      rw [rd_38 l k hlt] at hc0 hc1 hc2
      simp only [Int.toNat_natCast] at hc0 hc1 hc2
      have hfa := HF.out _ (List.getElem_mem hlt)
      have Hrun := Lib.hid (runL_snoc hlt)
      have Hsay := Lib.hid (saysL_snoc hlt)
      have hok : Ok k (runL (l.take k)) := Ok.run k hk fun a ha => HF.out a (List.mem_of_mem_take ha)
      have HOk := Lib.hid hok
      have hbs : (saysL (l.take k)).length ≤ 40 := by rw [saysL_len, List.length_take]; omega
      clear hok
      generalize runL (l.take k) = L at *
      generalize saysL (l.take k) = bs at *
      generalize l[k] = a at *
      obtain ⟨f0, f1, f2⟩ := a
      obtain ⟨h0, h3, hs, ht0, ht1⟩ := hfa
      simp only at h0 h3 hs ht0 ht1 hc0 hc1 hc2
      have hlr : w.heap.size < wr.heap.size := R.out.lt
      have hsz : f1.size ≤ maxLen := by unfold maxLen; omega
      obtain rfl | rfl | rfl | rfl : f0 = 0 ∨ f0 = 1 ∨ f0 = 2 ∨ f0 = 3 := by omega
      · have R1 := Lib.hid (R.out.still hn1 (World.grownBy_alloc wr (.cells #[.int .i64 0, .string f1, .int .i64 f2] 38) none))
        have p1 : (wr.alloc (.cells #[.int .i64 0, .string f1, .int .i64 f2] 38)).cell? ⟨wr.heap.size, 1, none⟩ = some (.string f1) := by simp
        have p2 : (wr.alloc (.cells #[.int .i64 0, .string f1, .int .i64 f2] 38)).cell? ⟨wr.heap.size, 2, none⟩ = some (.int .i64 f2) := by simp
        go_wp2_with fail
        go_region_held3 (fun w' => w'.cell? ⟨wr.heap.size, 1, none⟩ = some (.string f1) ∧ w'.cell? ⟨wr.heap.size, 2, none⟩ = some (.int .i64 f2)) (go_keep)
          (first
            | (go_at_call 32; refine (unix_any _ _).mono ?_; rintro e w5 ⟨rfl, hb5⟩; have hz5 : wr.heap.size < w5.heap.size := (by have := hb5.size; simp at this; omega); have R5 := R1.out.below_drew hn1 hb5; have hm5 := R5.map; have HR5 := Lib.hid R5; have q1 : w5.cell? ⟨wr.heap.size, 1, none⟩ = some (.string f1) := (hb5.cell (p := ⟨wr.heap.size, 1, none⟩) (by simp)).trans p1; have q2 : w5.cell? ⟨wr.heap.size, 2, none⟩ = some (.int .i64 f2) := (hb5.cell (p := ⟨wr.heap.size, 2, none⟩) (by simp)).trans p2; clear hb5 R5)
            | (go_at_call 31; with_reducible refine (revoke_any w.heap.size k (MD L) f1 f2 hsz (by unfold maxLen; omega) ht0 ht1 _ hm5).mono ?_; rintro e w6 ⟨rfl, cz, hat, hm6, hg6⟩; have hz6 := hg6.size; have q3 : w6.cell? ⟨wr.heap.size, 1, none⟩ = some (.string f1) := (hg6.cell_far ⟨wr.heap.size, 1, none⟩ hz5 (by simp; omega)).trans q1; have q4 : w6.cell? ⟨wr.heap.size, 2, none⟩ = some (.int .i64 f2) := (hg6.cell_far ⟨wr.heap.size, 2, none⟩ hz5 (by simp; omega)).trans q2))
        have R6 := HR5.out.grown (L' := revL L f1 f2) hn1 hg6 (by rw [← revD_MD HOk.out.up hat]; exact hm6)
        obtain ⟨A, c, a1, a2⟩ := R6.ans
        have ca := cell_of_one a1
        have hl6 := R6.lt
        have HR6 := Lib.hid R6
        have HA1 := Lib.hid a1
        clear R6 a1 hm5 q1 q2 q3 q4 p1 p2 hat hm6 hg6 R1 hc0 hc1 hc2
        go_wp2_with (at_builtin; refine wpList_append_own_at _ rfl _ _ 36 rfl (w.heap.size + 1) 4 ib (.bool false) 1 1 Try.underlying36 hib hb0 hb1 hb2 rfl (by decide) (.slice A bs.length c) bs.length (encs Value.bool bs) rfl (a2.alloc _) ⟨w6.heap.size, 0, none⟩ 1 1 [.bool false] rfl rfl (cell_one_new _ _ _) (by simp [Value.oneCell']) (by unfold maxLen; omega) (by omega) (by simp; omega) ?_; intro v' w7 hown' hg7 hnn hat; obtain ⟨g, cap', rfl, _, _⟩ := hown'.form (by omega); obtain ⟨k1, R7⟩ := HR6.out.put hn1 HA1.out a2 ((Below.refl _ _).alloc (Nat.le_refl _) _) hg7 rfl hown'; have cb := cell_of_one k1; have fb := free_of_one k1; have HR7 := Lib.hid R7; clear hown' hg7 hnn hat k1 R7)
        go_roundw
        case rel => exact ⟨k + 1, by omega, by go_num, by rw [Hrun.out, Hsay.out, act_revoke, say_no _ _ _ _ (by omega)]; exact HR7.out⟩
        case measure => simp [intOf]; omega
      · have R1 := Lib.hid (R.out.still hn1 (World.grownBy_alloc wr (.cells #[.int .i64 1, .string f1, .int .i64 f2] 38) none))
        have HC := Lib.hid (clear_any w.heap.size k (MD L) f1 hsz _ R1.out.map)
        go_wp2_with fail
        refine HC.out.mono ?_
        rintro e w6 ⟨rfl, hm6, hg6⟩
        have R6 := R1.out.grown (L' := clearL L f1) hn1 hg6 (by unfold clearL; rw [← del_MD]; exact hm6)
        obtain ⟨A, c, a1, a2⟩ := R6.ans
        have ca := cell_of_one a1
        have hl6 := R6.lt
        have HR6 := Lib.hid R6
        have HA1 := Lib.hid a1
        clear R6 a1 hm6 hg6 HC R1 hc0 hc1 hc2
        go_wp2_with (at_builtin; refine wpList_append_own_at _ rfl _ _ 36 rfl (w.heap.size + 1) 4 ib (.bool false) 1 1 Try.underlying36 hib hb0 hb1 hb2 rfl (by decide) (.slice A bs.length c) bs.length (encs Value.bool bs) rfl (a2.alloc _) ⟨w6.heap.size, 0, none⟩ 1 1 [.bool false] rfl rfl (cell_one_new _ _ _) (by simp [Value.oneCell']) (by unfold maxLen; omega) (by omega) (by simp; omega) ?_; intro v' w7 hown' hg7 hnn hat; obtain ⟨g, cap', rfl, _, _⟩ := hown'.form (by omega); obtain ⟨k1, R7⟩ := HR6.out.put hn1 HA1.out a2 ((Below.refl _ _).alloc (Nat.le_refl _) _) hg7 rfl hown'; have cb := cell_of_one k1; have fb := free_of_one k1; have HR7 := Lib.hid R7; clear hown' hg7 hnn hat k1 R7)
        go_roundw
        case rel => exact ⟨k + 1, by omega, by go_num, by rw [Hrun.out, Hsay.out, act_clear, say_no _ _ _ _ (by omega)]; exact HR7.out.more⟩
        case measure => simp [intOf]; omega
      · have R1 := Lib.hid (R.out.still hn1 (World.grownBy_alloc wr (.cells #[.int .i64 2, .string f1, .int .i64 f2] 38) none))
        have p1 : (wr.alloc (.cells #[.int .i64 2, .string f1, .int .i64 f2] 38)).cell? ⟨wr.heap.size, 1, none⟩ = some (.string f1) := by simp
        have p2 : (wr.alloc (.cells #[.int .i64 2, .string f1, .int .i64 f2] 38)).cell? ⟨wr.heap.size, 2, none⟩ = some (.int .i64 f2) := by simp
        go_wp2_with fail
        go_region_held3 (fun w' => w'.cell? ⟨wr.heap.size, 1, none⟩ = some (.string f1) ∧ w'.cell? ⟨wr.heap.size, 2, none⟩ = some (.int .i64 f2)) (go_keep)
          (first
            | (go_at_call 32; refine (unix_any _ _).mono ?_; rintro e w5 ⟨rfl, hb5⟩; have hz5 : wr.heap.size < w5.heap.size := (by have := hb5.size; simp at this; omega); have R5 := R1.out.below_drew hn1 hb5; have hm5 := R5.map; have HR5 := Lib.hid R5; have q1 : w5.cell? ⟨wr.heap.size, 1, none⟩ = some (.string f1) := (hb5.cell (p := ⟨wr.heap.size, 1, none⟩) (by simp)).trans p1; have q2 : w5.cell? ⟨wr.heap.size, 2, none⟩ = some (.int .i64 f2) := (hb5.cell (p := ⟨wr.heap.size, 2, none⟩) (by simp)).trans p2; clear hb5 R5)
            | (go_at_call 34; with_reducible refine (isRevoked_any w.heap.size k (MD L) f1 f2 hsz ht0 ht1 _ hm5).mono ?_; rintro e w6 ⟨cz, cy, hat, hat2, rfl, hm6, hg6⟩; have q3 : w6.cell? ⟨wr.heap.size, 1, none⟩ = some (.string f1) := (hg6.cell_far ⟨wr.heap.size, 1, none⟩ hz5 (by simp)).trans q1; have q4 : w6.cell? ⟨wr.heap.size, 2, none⟩ = some (.int .i64 f2) := (hg6.cell_far ⟨wr.heap.size, 2, none⟩ hz5 (by simp)).trans q2; have HIs := Lib.hid (is_MD HOk.out.up (t := f2) hat hat2); clear hat hat2))
        have R6 := HR5.out.still hn1 hg6
        have he := HIs.out
        generalize (atD (MD L) starS f2 cz || atD (MD L) f1 f2 cy) = said at *
        obtain ⟨A, c, a1, a2⟩ := R6.ans
        have ca := cell_of_one a1
        have hl6 := R6.lt
        have HR6 := Lib.hid R6
        have HA1 := Lib.hid a1
        have HE := Lib.hid he
        clear he R6 a1 hm5 q1 q2 q3 q4 p1 p2 hm6 hg6 R1 hc0 hc1 hc2 HIs
        go_wp2_with (at_builtin; refine wpList_append_own_at _ rfl _ _ 36 rfl (w.heap.size + 1) 4 ib (.bool false) 1 1 Try.underlying36 hib hb0 hb1 hb2 rfl (by decide) (.slice A bs.length c) bs.length (encs Value.bool bs) rfl (a2.alloc _) ⟨w6.heap.size, 0, none⟩ 1 1 [.bool said] rfl rfl (cell_one_new _ _ _) (by simp [Value.oneCell']) (by unfold maxLen; omega) (by omega) (by simp; omega) ?_; intro v' w7 hown' hg7 hnn hat; obtain ⟨g, cap', rfl, _, _⟩ := hown'.form (by omega); obtain ⟨k1, R7⟩ := HR6.out.put hn1 HA1.out a2 ((Below.refl _ _).alloc (Nat.le_refl _) _) hg7 rfl hown'; have cb := cell_of_one k1; have fb := free_of_one k1; have HR7 := Lib.hid R7; clear hown' hg7 hnn hat k1 R7)
        go_roundw
        case rel => exact ⟨k + 1, by omega, by go_num, by rw [Hrun.out, Hsay.out, act_is, say_is, ← HE.out]; exact HR7.out.more⟩
        case measure => simp [intOf]; omega
      · have R1 := Lib.hid (R.out.still hn1 (World.grownBy_alloc wr (.cells #[.int .i64 3, .string f1, .int .i64 f2] 38) none))
        have HC := Lib.hid (compact_any w.heap.size k L (by have := HOk.out.len; omega) (fun e he => by have := HOk.out.key e he; unfold maxLen; omega) HOk.out.up.nodup _ R1.out.map)
        go_wp2_with fail
        refine HC.out.mono ?_
        rintro e w6 ⟨⟨v6, rfl⟩, hm6, hg6⟩
        have R6 := R1.out.grown hn1 hg6 hm6
        obtain ⟨A, c, a1, a2⟩ := R6.ans
        have ca := cell_of_one a1
        have hl6 := R6.lt
        have HR6 := Lib.hid R6
        have HA1 := Lib.hid a1
        clear R6 a1 hm6 hg6 HC R1 hc0 hc1 hc2
        go_wp2_with (at_builtin; refine wpList_append_own_at _ rfl _ _ 36 rfl (w.heap.size + 1) 4 ib (.bool false) 1 1 Try.underlying36 hib hb0 hb1 hb2 rfl (by decide) (.slice A bs.length c) bs.length (encs Value.bool bs) rfl (a2.alloc _) ⟨w6.heap.size, 0, none⟩ 1 1 [.bool false] rfl rfl (cell_one_new _ _ _) (by simp [Value.oneCell']) (by unfold maxLen; omega) (by omega) (by simp; omega) ?_; intro v' w7 hown' hg7 hnn hat; obtain ⟨g, cap', rfl, _, _⟩ := hown'.form (by omega); obtain ⟨k1, R7⟩ := HR6.out.put hn1 HA1.out a2 ((Below.refl _ _).alloc (Nat.le_refl _) _) hg7 rfl hown'; have cb := cell_of_one k1; have fb := free_of_one k1; have HR7 := Lib.hid R7; clear hown' hg7 hnn hat k1 R7)
        go_roundw
        case rel => exact ⟨k + 1, by omega, by go_num, by rw [Hrun.out, Hsay.out, act_comp, say_no _ _ _ _ (by omega)]; exact HR7.out.more⟩
        case measure => simp [intOf]; omega
    · obtain rfl : k = l.length := by omega
      rw [List.take_length] at R
      have hok := Ok.run l.length (Nat.le_refl _) fun a ha => HF.out a (List.mem_of_mem_take ha)
      rw [List.take_length] at hok
      have HOk := Lib.hid hok
      have HBl := Lib.hid (saysL_len l)
      clear hok
      generalize hLe : runL l = L at *
      generalize hBs : saysL l = bs at *
      have HLe := Lib.hid hLe
      have HBs := Lib.hid hBs
      clear hLe hBs
      rename World => wm
      have hown := R.out.map
      have hbl : w.heap.size < wm.heap.size := hown.lt
      have H2 : Hid (wm.heap[n + 2]? = some (.cells #[.slice none 0 0] 43 (0, 0))) := (R.out.kept _ (by omega) (by omega)).trans G2.out
      go_wp2_with (first | (at_range; refine wpList_range_own _ rfl _ 65 rfl 9 2 lawS Try.underlying65 _ w.heap.size l.length _ rfl hown ?_; intro w0 hrg0 hg0 hs0) | go_in)
      go_frame
      have hst : Hid (LeftAt n w.heap.size l.length wm L (Maps.has (MD L)) (Maps.size (MD L)) [] w0) := ⟨hrg0, by simp [MD, Maps.size], ⟨none, 0, (hg0.block _ (by omega) (by simp)).trans H2.out, own_nil _ _ _ _⟩, CollE.start L, hg0.os, hg0.tape, hg0.output, hg0.size, fun j hj _ => hg0.block j hj (by simp)⟩
      clear hrg0 hg0 hs0 hown
      go_loopw [7] (fun _ wr => ∃ (left : Lit → Bool) (cnt : Nat) (es : List En), Hid (LeftAt n w.heap.size l.length wm L left cnt es wr)) (fun _ wr => wr.rangeLeft w.heap.size wm.heap.size)
      case atStart => exact ⟨_, _, _, hst⟩
      case round =>
        clear hst
        obtain ⟨left, cnt, es, HLf⟩ := hrel
        have hrg := HLf.out.rg
        go_wp2_with (first
          | (at_next; refine wpList_next_ranges _ rfl _ rfl 9 lawS (plainElem Try.prog 2) encStr (Value.int .i64) (fun key kl hk => by obtain ⟨x, hx, _⟩ := Maps.keyOf_str Try.underlying9 hk; exact ⟨x, hx⟩) (fun v y hv => by obtain ⟨c, rfl, _⟩ := plainElem_int_inv Try.underlying2 hv; exact ⟨c, rfl⟩) w.heap.size wm.heap.size l.length _ _ _ rfl hrg ?_ ?_)
          | go_in)
        · intro hc0 hl0
          have HFin := Lib.hid (RevLeft.of l2 R.out HLf.out HOk.out.up hl0)
          clear hl0
          go_wp2
          go_end0
          refine ⟨rfl, ?_⟩
          rw [HLe.out, HBs.out]
          exact HFin.out
        · intro x c kk yd yp w2 cnt2 hkey hlk hv hat hrg2 hlt2 hg2 hs2 hen
          obtain ⟨x', ex, hkl, _⟩ := Maps.keyOf_str Try.underlying9 hkey
          obtain rfl : x = x' := encStr_inj ex
          obtain ⟨s, rfl⟩ : ∃ s : ByteArray, x = s.data.toList := ⟨⟨x.toArray⟩, by simp⟩
          subst hkl
          have hes : encStr s.data.toList = .string s := by simp [encStr]
          rw [hes] at hen ⊢
          obtain ⟨c', ec, hyd, _⟩ := plainElem_int_inv Try.underlying2 hv
          have hat' : Hid (∀ zd, (MD L).atKey (kl s) zd = i64 c) := fun zd => by
            rw [show kl s = .string s.data.toList from rfl, hat zd]
            cases ec
            injection hyd
          have hsz := HLf.out.size
          obtain ⟨A, cp, a1, a2⟩ := HLf.out.row
          have a22 := a2.kept hg2 (.inr (row_ne_iter a2 hrg).symm)
          have ca := cell_of_one ((hg2.block _ (by omega) (by intro e; injection e with e; omega)).trans a1)
          have hz2 : wm.heap.size ≤ w2.heap.size := Nat.le_trans hsz hg2.size
          have hes40 : es.length ≤ 40 := by have := HLf.out.cnt; have := HOk.out.len; omega
          have HRg2 := Lib.hid hrg2
          have HG2 := Lib.hid hg2
          have HA1 := Lib.hid a1
          have HA2 := Lib.hid a2
          have HLk := Lib.hid hlk
          clear hkey hv hat hrg2 hg2 a1 a2 hlk hyd ec ex hes hrg hs2
          go_wp2_with (at_builtin; refine wpList_append_own_at _ rfl _ _ 43 rfl wm.heap.size 48 ie (.agg #[.string ⟨#[]⟩, .int .i64 0]) 2 24 Try.underlying43 hie he0 he1 he2 rfl (by decide) (.slice A es.length cp) es.length (es.flatMap encEn) rfl (a22.alloc _) ⟨w2.heap.size, 0, none⟩ 1 1 [.string s, .int .i64 c] rfl rfl (two_new _ _ _ _) (by simp [Value.oneCell']) (by unfold maxLen; omega) (by omega) (by simp; omega) ?_; intro v' w3 hown' hg3 hnn hat3; obtain ⟨g, cap', rfl, _, _⟩ := hown'.form (by omega); obtain ⟨k1, R7⟩ := HLf.out.put l2 hbl HOk.out.up HG2.out HRg2.out hlt2 HLk.out hat'.out HA1.out HA2.out hg3 rfl hown'; have cb := cell_of_one k1; have fb := free_of_one k1; have HR7 := Lib.hid R7; clear hown' hg3 hnn hat3 k1 R7)
          go_roundw
          case rel => exact ⟨_, cnt2, _, HR7.out⟩
          case measure => rw [HR7.out.rg.left_eq, HLf.out.rg.left_eq]; exact hlt2
end Go.Proofs.Ytnbihmagbedfmaa
/- impl.Revocations. -/
namespace Go.Proofs.Ytnbihmagbedfmaa
open Go.RowKit Go.Maps Go.WideMaps Go.Proofs.YtnbihmagbedfmaaW.PrintWords
open PFnRevocations (S38 k38 rd_T38 at_T38)

theorem own_drew2 {w : World} {base n sz : Nat} {e : TypeId} {v : Value} {xs : List Value} (h : w.ownsRow base e sz v n xs) : w.drew.ownsRow base e sz v n xs := own_move h fun _ _ => rfl

theorem own_types {w : World} {b b' n n' s s' : Nat} {e e' : TypeId} {v v' : Value} {xs ys : List Value} (h : w.ownsRow b e s v n xs) (h' : w.ownsRow b' e' s' v' n' ys) (hne : e ≠ e') : v.ownBlock = none ∨ v.ownBlock ≠ v'.ownBlock := by
  cases hv : v.ownBlock with
  | none => exact .inl rfl
  | some k =>
    refine .inr fun e1 => ?_
    obtain ⟨c1, h1⟩ := own_typed h k hv
    obtain ⟨c2, h2⟩ := own_typed h' k e1.symm
    rw [h1] at h2
    injection h2 with h2
    injection h2 with _ h2
    exact hne h2

set_option maxRecDepth 100000 in
set_option maxHeartbeats 1000000 in
theorem revs_any (Al : Option Addr) (cl : Nat) (l : List Ac) (w : World) (hl : Kd.C k38 w Al l.length l) (h40 : l.length ≤ 40) (hf : ∀ a ∈ l, Fine a) :
    Calls Try.prog 19 #[.slice Al l.length cl] w fun e w' =>
      (∃ A1 c1 A2 c2, e = .returned (.tuple #[.slice A1 (saysL l).length c1, .slice A2 (runL l).length c2]) ∧ w'.ownsRow w.heap.size 4 1 (.slice A1 (saysL l).length c1) (saysL l).length (encs Value.bool (saysL l)) ∧
        w'.ownsRow w.heap.size 48 2 (.slice A2 (runL l).length c2) (runL l).length ((runL l).flatMap encEn)) ∧ Below w.heap.size w w' := by
  have hmf : ∀ (fn : Fn) (first cap : Array Value) (w : World), (Instr.makeFunc fn first cap).run Try.prog w = .ok (.func fn first cap) w := fun _ _ _ _ => rfl
  obtain ⟨w2, hw2⟩ : ∃ w2 : World, w2 = ((w.alloc (.cells #[.slice Al l.length cl] 33)).alloc (.cells #[.slice none 0 0] 36)).alloc (.cells #[.slice none 0 0] 43) := ⟨_, rfl⟩
  have hs2 : w2.heap.size = w.heap.size + 3 := by rw [hw2]; simp
  have hb2 : Below w.heap.size w w2 := by
    rw [hw2]; exact (((Below.refl _ _).alloc (Nat.le_refl _) _).alloc (by simp) _).alloc (by simp <;> omega) _
  have g0 : w2.heap[w.heap.size]? = some (.cells #[.slice Al l.length cl] 33 (0, 0)) := by
    rw [hw2]; exact (Below.heap_alloc _ _ _ (by simp <;> omega)).trans ((Below.heap_alloc _ _ _ (by simp)).trans (heap_alloc_new w _))
  have g1 : w2.heap[w.heap.size + 1]? = some (.cells #[.slice none 0 0] 36 (0, 0)) := by
    rw [hw2]; refine (Below.heap_alloc _ _ _ (by simp)).trans ?_
    simpa using heap_alloc_new (w.alloc (.cells #[.slice Al l.length cl] 33)) (.cells #[.slice none 0 0] 36)
  have g2 : w2.heap[w.heap.size + 2]? = some (.cells #[.slice none 0 0] 43 (0, 0)) := by
    rw [hw2]
    simpa using heap_alloc_new ((w.alloc (.cells #[.slice Al l.length cl] 33)).alloc (.cells #[.slice none 0 0] 36)) (.cells #[.slice none 0 0] 43)
  have hold : ∀ k, k < w2.heap.size → (w2.alloc (.cells #[.bool false] 4)).heap[k]? = w2.heap[k]? := fun k hk => Below.heap_alloc _ _ _ hk
  have hb3 : Below w.heap.size w (w2.alloc (.cells #[.bool false] 4)) := hb2.alloc hb2.size _
  have h1 := rev1_any w.heap.size Al cl l w (w2.alloc (.cells #[.bool false] 4)) hl hb3 (Nat.le_refl _) h40 hf ((hold _ (by omega)).trans g0) ((hold _ (by omega)).trans g1) ((hold _ (by omega)).trans g2)
  have hok := Ok.run l.length (Nat.le_refl _) fun a ha => hf a (List.mem_of_mem_take ha)
  rw [List.take_length] at hok
  have HOk := Lib.hid hok
  have hL40 : (runL l).length ≤ 40 := Nat.le_trans hok.len h40
  clear hok
  generalize hLe : runL l = L at *
  generalize hBs : saysL l = bs at *
  have hq := quiet_any 30 #[.pointer (some ⟨w.heap.size, 0, none⟩), .pointer (some ⟨w.heap.size + 1, 0, none⟩), .pointer (some ⟨w.heap.size + 2, 0, none⟩)] w2
    (fun w' => Below w.heap.size w w' ∧ RevLeft w.heap.size L bs (w2.alloc (.cells #[.bool false] 4)) w') (fun W => by simp [go_sem])
    (h1.mono fun e w' ⟨he, hh⟩ => ⟨he, (hh.kept _ (by simp) (by omega) (by omega)).trans (heap_alloc_new _ _), hb2.trans ⟨hh.os, hh.tape, hh.output, by have := hh.size; simp at this; omega, fun i hi => (hh.kept i (by simp; omega) (by omega) (by omega)).trans (hold i (by omega))⟩, hh⟩)
  have HQ := Lib.hid hq
  clear hq h1 hold g0 g1 g2 hb2 hb3 hl hf
  have HS := Lib.hid hs2
  have HLe := Lib.hid hLe
  have HBs := Lib.hid hBs
  clear hs2 hLe hBs
  go_enter Try.func19, Try.ntmps19
  go_wp2_with fail
  rw [← hw2]
  refine HQ.out.mono ?_
  rintro e w3 ⟨rfl, w1, h1, ⟨h2, h3⟩, hw3⟩
  have hb3 : Below w.heap.size w w3 := by rw [hw3]; exact h2.setCell (p := ⟨w2.heap.size, 0, none⟩) (by show w.heap.size ≤ w2.heap.size; have := HS.out; omega) _
  obtain ⟨A1, c1, v1, v2⟩ := h3.ans
  obtain ⟨A2, c2, es, hp, a1, a2⟩ := h3.left
  have hsz := HS.out
  have k1 : w3.heap[w.heap.size + 1]? = some (.cells #[.slice A1 bs.length c1] 36 (0, 0)) := by
    rw [hw3, Below.heap_setCell _ _ _ _ (by show w.heap.size + 1 ≠ w2.heap.size; omega)]; exact v1
  have k2 : w3.heap[w.heap.size + 2]? = some (.cells #[.slice A2 es.length c2] 43 (0, 0)) := by
    rw [hw3, Below.heap_setCell _ _ _ _ (by show w.heap.size + 2 ≠ w2.heap.size; omega)]; exact a1
  have o1 : w3.ownsRow (w2.heap.size + 1) 4 1 (.slice A1 bs.length c1) bs.length (encs Value.bool bs) := by
    rw [hw3]; exact ownsRow_setCell_below (by simpa using v2) (by show w2.heap.size < _; omega) _
  have o2 : w3.ownsRow (w2.heap.size + 1) 48 2 (.slice A2 es.length c2) es.length (es.flatMap encEn) := by
    rw [hw3]; exact ownsRow_setCell_below (by simpa using a2) (by show w2.heap.size < _; omega) _
  have hlen := hp.length_eq
  have HSo := Lib.hid (sort_any _ _ es L w3 o2 hp HOk.out.up (by omega))
  rw [hlen] at HSo k2 o2
  have d1 := cell_of_one k1
  have d2 := cell_of_one k2
  have K1 := Lib.hid k1
  have K2 := Lib.hid k2
  have O1 := Lib.hid o1
  have O2 := Lib.hid o2
  have HB3 := Lib.hid hb3
  have l3 : w.heap.size + 2 < w3.heap.size := lt_of_block k2
  clear hw3 h1 h2 h3 HQ hw2 v1 v2 a1 a2 k1 k2 o1 o2 hb3 hsz hlen hp
  go_wp2_with fail
  refine HSo.out.mono ?_
  rintro e w4 ⟨rfl, o4, hg4⟩
  have hsz := HS.out
  have hrow : ∀ j, (Value.slice A2 L.length c2).ownBlock = some j → w2.heap.size + 1 ≤ j := fun j hj => own_base O2.out j hj
  have hsame : ∀ j, j ≤ w.heap.size + 2 → w4.heap[j]? = w3.heap[j]? := fun j hj => hg4.block j (by omega) (fun e => by have := hrow _ e.symm; omega)
  have k1 := (hsame (w.heap.size + 1) (by omega)).trans K1.out
  have k2 := (hsame (w.heap.size + 2) (by omega)).trans K2.out
  have o1 := O1.out.kept hg4 (own_types O1.out O2.out (by decide))
  have hb4 : Below w.heap.size w w4 := HB3.out.trans ⟨hg4.os, hg4.tape, hg4.output, hg4.size, fun j hj => hsame j (by omega)⟩
  have d1' : w4.cell? ⟨w.heap.size + 1, 0, none⟩ = some (.slice A1 bs.length c1) := cell_of_one k1
  have d2' : w4.cell? ⟨w.heap.size + 1 + 1, 0, none⟩ = some (.slice A2 L.length c2) := cell_of_one k2
  have f1' : w4.frozen? ⟨w.heap.size + 1, 0, none⟩ = false := free_of_one k1
  have f2' : w4.frozen? ⟨w.heap.size + 1 + 1, 0, none⟩ = false := free_of_one k2
  have K14 := Lib.hid k1
  have K24 := Lib.hid k2
  have O14 := Lib.hid o1
  have O24 := Lib.hid o4
  have HB4 := Lib.hid hb4
  clear hsame hrow hsz k1 k2 o1 o4 hb4 hg4 d1 d2 HSo
  go_wp2
  go_region
  go_wp2
  have q1 : ((w4.setCell ⟨w.heap.size + 1, 0, none⟩ (.slice A1 bs.length c1)).setCell ⟨w.heap.size + 1 + 1, 0, none⟩ (.slice A2 L.length c2)).cell? ⟨w.heap.size + 1, 0, none⟩ = some (.slice A1 bs.length c1) :=
    cell_of_one ((Below.heap_setCell _ _ _ _ (by show w.heap.size + 1 ≠ w.heap.size + 2; omega)).trans (one_setCell K14.out))
  have q2 : ((w4.setCell ⟨w.heap.size + 1, 0, none⟩ (.slice A1 bs.length c1)).setCell ⟨w.heap.size + 1 + 1, 0, none⟩ (.slice A2 L.length c2)).cell? ⟨w.heap.size + 1 + 1, 0, none⟩ = some (.slice A2 L.length c2) :=
    cell_of_one (one_setCell ((Below.heap_setCell _ _ _ _ (by show w.heap.size + 2 ≠ w.heap.size + 1; omega)).trans K24.out))
  have o1 := O14.out
  have o2 := O24.out
  have hsz := HS.out
  have hfin : Below w.heap.size w (((w4.setCell ⟨w.heap.size + 1, 0, none⟩ (.slice A1 bs.length c1)).setCell ⟨w.heap.size + 1 + 1, 0, none⟩ (.slice A2 L.length c2)).drew) :=
    ((HB4.out.setCell (p := ⟨w.heap.size + 1, 0, none⟩) (by show w.heap.size ≤ w.heap.size + 1; omega) _).setCell (p := ⟨w.heap.size + 1 + 1, 0, none⟩) (by show w.heap.size ≤ w.heap.size + 2; omega) _).drew
  have p1 := own_drew2 (ownsRow_setCell_below (ownsRow_setCell_below o1 (a := ⟨w.heap.size + 1, 0, none⟩) (by show w.heap.size + 1 < _; omega) (.slice A1 bs.length c1)) (a := ⟨w.heap.size + 1 + 1, 0, none⟩) (by show w.heap.size + 2 < _; omega) (.slice A2 L.length c2))
  have p2 := own_drew2 (ownsRow_setCell_below (ownsRow_setCell_below o2 (a := ⟨w.heap.size + 1, 0, none⟩) (by show w.heap.size + 1 < _; omega) (.slice A1 bs.length c1)) (a := ⟨w.heap.size + 1 + 1, 0, none⟩) (by show w.heap.size + 2 < _; omega) (.slice A2 L.length c2))
  have q3 : (((w4.setCell ⟨w.heap.size + 1, 0, none⟩ (.slice A1 bs.length c1)).setCell ⟨w.heap.size + 1 + 1, 0, none⟩ (.slice A2 L.length c2)).drew).cell? ⟨w.heap.size + 1, 0, none⟩ = some (.slice A1 bs.length c1) := q1
  have q4 : (((w4.setCell ⟨w.heap.size + 1, 0, none⟩ (.slice A1 bs.length c1)).setCell ⟨w.heap.size + 1 + 1, 0, none⟩ (.slice A2 L.length c2)).drew).cell? ⟨w.heap.size + 1 + 1, 0, none⟩ = some (.slice A2 L.length c2) := q2
  clear q1 q2
  generalize ((w4.setCell ⟨w.heap.size + 1, 0, none⟩ (.slice A1 bs.length c1)).setCell ⟨w.heap.size + 1 + 1, 0, none⟩ (.slice A2 L.length c2)).drew = W4 at *
  refine bodyPost_ret (v := .tuple #[.slice A1 bs.length c1, .slice A2 L.length c2]) ?_ rfl ⟨⟨A1, c1, A2, c2, rfl, own_weaken p1 (by omega), own_weaken p2 (by omega)⟩, hfin⟩
  simp [results, Try.results19, go_sem, q3, q4]
end Go.Proofs.Ytnbihmagbedfmaa
