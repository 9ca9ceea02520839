/- MaybeCompact over a map that is owned. -/
import Derived.Test.YtnbihmagbedfmaaKeys
import Derived.Test.YtnbihmagbedfmaaRevPlain
namespace Go.Proofs.Ytnbihmagbedfmaa
open Go.RowKit Go.Maps Go.WideMaps Go.Sort Go.Proofs.YtnbihmagbedfmaaW.PrintWords

/-- What stays while the keys ks have been looked at. -/
def stays (all : Int) (ks : List ByteArray) (e : En) : Bool := decide (e.f0 = starS) || decide (all < e.f1) || !ks.any fun k => decide (e.f0 = k)
def compL (L : List En) : List En := match L.find? fun e => decide (e.f0 = starS) with
  | none => L
  | some a => L.filter fun e => decide (e.f0 = starS) || decide (a.f1 < e.f1)

theorem infoR : (Try.prog.info? 87).map (fun i => (i.zero, i.size, i.bytes)) = some (some (.agg #[.string ⟨#[]⟩, .int .i64 0]), 2, 24) := by kernel_rfl

theorem row_s {w : World} {base : Nat} {e : TypeId} {A : Option Addr} {c : Nat} {xs : List (List UInt8)} (h : w.ownsRow base e 1 (.slice A xs.length c) xs.length (xs.map encStr)) (k : Nat) (hk : k < xs.length) :
    ∃ ad, A = some ad ∧ ad.block < w.heap.size ∧ base ≤ ad.block ∧ w.cell? (ad.add k) = some (.string ⟨xs[k].toArray⟩) := by
  obtain ⟨g, cap, hv, h1, h2⟩ := h.form (by omega)
  have hA : A = some ⟨g, 0, none⟩ := by injection hv
  subst hA
  have hc : w.cell? ((⟨g, 0, none⟩ : Addr).add k) = some (.string ⟨xs[k].toArray⟩) := h.cells (g := g) rfl k _ (by simp [encStr, List.getElem?_eq_getElem hk])
  exact ⟨_, rfl, (h.lt g (by simp [Value.ownBlock])).2, h1, hc⟩

/-- Two entries of one key are one. -/
theorem one_key {L : List En} (hnd : (L.map (·.f0)).Nodup) {a b : En} (ha : a ∈ L) (hb : b ∈ L) (h : a.f0 = b.f0) : a = b := by
  induction L with
  | nil => cases ha
  | cons x r ih =>
    simp only [List.map_cons, List.nodup_cons] at hnd
    rcases List.mem_cons.1 ha with ha' | ha' <;> rcases List.mem_cons.1 hb with hb' | hb'
    · rw [ha', hb']
    · exact (hnd.1 (List.mem_map.2 ⟨b, hb', by rw [← h, ha']⟩)).elim
    · exact (hnd.1 (List.mem_map.2 ⟨a, ha', by rw [h, hb']⟩)).elim
    · exact ih hnd.2 ha' hb'
theorem val_at {L : List En} (hnd : (L.map (·.f0)).Nodup) {p : En → Bool} {s : ByteArray} {c : Int} (hat : (MD (L.filter p)).atKey (kl s) (i64 0) = i64 c) {e : En} (he : e ∈ L) (hs : e.f0 = s) (hp : p e = true) : c = e.f1 := by
  rw [at_MD] at hat
  have hm : e ∈ L.filter p := List.mem_filter.2 ⟨he, hp⟩
  cases hf : (L.filter p).find? fun e => decide (e.f0 = s) with
  | none => exact absurd (List.find?_eq_none.1 hf e hm) (by simp [hs])
  | some a =>
    rw [hf] at hat
    have h1 := List.mem_of_find?_eq_some hf
    have h2 := List.find?_some hf
    have : a = e := one_key hnd (List.mem_filter.1 h1).1 he (by simpa [hs] using h2)
    subst this
    simp [i64] at hat
    exact hat.symm
theorem stays_more (all : Int) (ks : List ByteArray) (s : ByteArray) (e : En) : stays all (ks ++ [s]) e = (stays all ks e && (decide (e.f0 ≠ s) || decide (e.f0 = starS) || decide (all < e.f1))) := by
  unfold stays
  rw [List.any_append]
  generalize (ks.any fun k => decide (e.f0 = k)) = q
  by_cases h3 : e.f0 = s
  · subst h3
    by_cases h1 : e.f0 = starS <;> by_cases h2 : all < e.f1 <;> cases q <;> simp [h1, h2]
  · by_cases h1 : e.f0 = starS <;> by_cases h2 : all < e.f1 <;> cases q <;> simp [h1, h2, h3]
theorem step_keep {L : List En} (hnd : (L.map (·.f0)).Nodup) {all c : Int} {ks : List ByteArray} {s : ByteArray} (hat : (MD (L.filter (stays all ks))).atKey (kl s) (i64 0) = i64 c) (h : s = starS ∨ all < c) : L.filter (stays all (ks ++ [s])) = L.filter (stays all ks) := by
  apply List.filter_congr
  intro e he
  rw [stays_more]
  cases hp : stays all ks e with
  | false => rfl
  | true =>
    by_cases h3 : e.f0 = s
    · rcases h with h | h
      · simp [h3, h]
      · have := val_at hnd hat he h3 hp
        subst this; simp [h]
    · simp [h3]
theorem step_del {L : List En} (hnd : (L.map (·.f0)).Nodup) {all c : Int} {ks : List ByteArray} {s : ByteArray} (hat : (MD (L.filter (stays all ks))).atKey (kl s) (i64 0) = i64 c) (h1 : s ≠ starS) (h2 : c ≤ all) : L.filter (stays all (ks ++ [s])) = (L.filter (stays all ks)).filter fun e => decide (e.f0 ≠ s) := by
  rw [List.filter_filter]
  apply List.filter_congr
  intro e he
  rw [stays_more]
  cases hp : stays all ks e with
  | false => simp
  | true =>
    by_cases h3 : e.f0 = s
    · have := val_at hnd hat he h3 hp
      subst this; simp [h3, h1]; omega
    · simp [h3]
theorem take_key {ks : List (List UInt8)} {i : Nat} (hlt : i < ks.length) {s : ByteArray} (hs : (⟨ks[i].toArray⟩ : ByteArray) = s) :
    (ks.map fun l => (⟨l.toArray⟩ : ByteArray)).take (i + 1) = (ks.map fun l => (⟨l.toArray⟩ : ByteArray)).take i ++ [s] := by
  rw [List.take_succ_eq_append_getElem (by simpa using hlt)]
  simp [hs]
theorem star_of {s : ByteArray} (h : s.toList = [42]) : s = starS := by
  rw [Lib.toList_data] at h
  exact ByteArray.ext (Array.toList_inj.1 h)
theorem two_new (w : World) (u v : Value) (e : TypeId) : ∀ j x, [u, v][j]? = some x → (w.alloc (.cells #[u, v] e)).cell? ((⟨w.heap.size, 0, none⟩ : Addr).add j) = some x := by
  intro j x h
  have hg := heap_alloc_new w (.cells #[u, v] e)
  generalize w.alloc (.cells #[u, v] e) = W at hg ⊢
  match j with
  | 0 => simp at h; subst h; show W.cell? ⟨w.heap.size, 0 + 0, none⟩ = _; simp [World.cell?, hg]
  | 1 => simp at h; subst h; show W.cell? ⟨w.heap.size, 0 + 1, none⟩ = _; simp [World.cell?, hg]
  | j + 2 => simp at h
theorem compL_none {L : List En} (h : ¬ has (MD L) (kl starS) = true) : compL L = L := by
  rw [has_MD] at h
  have hf : L.find? (fun e => decide (e.f0 = starS)) = none := by
    rw [List.find?_eq_none]
    intro e he h1
    exact h (List.any_eq_true.2 ⟨e, he, h1⟩)
  unfold compL
  rw [hf]
theorem compL_some {L : List En} {all : Int} {ks : List ByteArray} (h : has (MD L) (kl starS) = true) (hat : (MD L).atKey (kl starS) (i64 0) = i64 all) (hks : ∀ e ∈ L, e.f0 ∈ ks) : L.filter (stays all ks) = compL L := by
  rw [has_MD, List.any_eq_true] at h
  obtain ⟨x, hx, hx2⟩ := h
  rw [at_MD] at hat
  unfold compL
  cases hf : L.find? fun e => decide (e.f0 = starS) with
  | none => exact absurd hx2 (List.find?_eq_none.1 hf x hx)
  | some a =>
    rw [hf] at hat
    simp [i64] at hat
    subst hat
    apply List.filter_congr
    intro e he
    have h1 : (ks.any fun k => decide (e.f0 = k)) = true := List.any_eq_true.2 ⟨e.f0, hks e he, by simp⟩
    unfold stays
    rw [h1]
    simp
set_option maxRecDepth 100000 in
set_option maxHeartbeats 1000000 in
theorem compact_any (b n : Nat) (L : List En) (hL : L.length ≤ 1000) (hk : ∀ e ∈ L, e.f0.size ≤ maxLen) (hnd : (L.map (·.f0)).Nodup) (w : World) (hown : MapAt w b n (MD L)) :
    Calls Try.prog 35 #[.map (some b)] w fun e w' => (∃ v, e = .returned v) ∧ MapAt w' b n (MD (compL L)) ∧ w.grownBy w' (some b) := by
  have hstar := key_s starS (by decide)
  unfold starS at hstar
  have hsize : Maps.size (MD L) ≤ 1000 := by simpa [MD, Maps.size] using hL
  have HK := Lib.hid (keys_any b n (MD L) w hown hsize)
  obtain ⟨i0, hi, hz0, hz1, hz2⟩ := info_parts infoR
  go_enter Try.func35, Try.ntmps35
  go_wp2_with (at_lookup; refine wpList_lookup_own_ok_int _ rfl _ _ 65 rfl 9 2 .i64 lawS Try.underlying65 Try.underlying2 (zero64 _) b n (MD L) rfl hown _ _ rfl hstar ?_; intro all hat hwc)
  · refine HK.out.mono ?_
    rintro e w2 ⟨A, cap, ss, rfl, hperm, hrow, hb⟩
    have hrow' := hrow
    have hlen : (ss.mergeSort fun x y => decide (x ≤ y)).length = ss.length := by simp
    rw [← hlen] at hrow ⊢
    have hmem : ∀ l ∈ ss.mergeSort fun x y => decide (x ≤ y), ∃ e ∈ L, e.f0.data.toList = l := by
      intro l hl
      have h1 := hperm.mem_iff.1 (List.mem_mergeSort.1 hl)
      simp [strKeys, MD, kl] at h1
      exact h1
    have hall0 : ∀ e ∈ L, e.f0.data.toList ∈ ss.mergeSort fun x y => decide (x ≤ y) := by
      intro e he
      rw [List.mem_mergeSort]
      refine hperm.mem_iff.2 ?_
      simp [strKeys, MD, kl]
      exact ⟨e, he, rfl⟩
    have hlen2 : ss.length ≤ 1000 := by rw [hperm.length_eq]; simpa [strKeys, MD] using hL
    generalize (ss.mergeSort fun x y => decide (x ≤ y)) = ks at hrow hmem hlen hall0 ⊢
    have hall : ∀ e ∈ L, e.f0 ∈ (ks.map fun l => (⟨l.toArray⟩ : ByteArray)).take ks.length := by
      intro e he
      rw [List.take_of_length_le (by simp)]
      exact List.mem_map.2 ⟨_, hall0 e he, by simp⟩
    have hbs : b < w2.heap.size := Nat.lt_of_lt_of_le hown.lt hb.size
    have hmap2 : MapAt w2 b n (MD L) := hown.kept (row := none) ⟨hb.os, hb.tape, hb.output, hb.size, fun i hi _ => hb.block i hi⟩ (by simp)
    go_wp2
    go_loopw [3, 18] (fun dv iv wr => ∃ (i dn : Nat) (xs : List Value), i ≤ ks.length ∧ iv = .int .i64 i ∧ dn ≤ i ∧ wr.ownsRow w2.heap.size 87 2 dv dn xs ∧
        MapAt wr b n (MD (L.filter (stays all ((ks.map fun l => (⟨l.toArray⟩ : ByteArray)).take i)))) ∧ w2.grownBy wr (some b))
      (fun _ iv _ => ks.length - (intOf iv).toNat)
    case atStart => exact ⟨0, 0, [], Nat.zero_le _, rfl, Nat.le_refl _, own_nil _ _ _ _, by rw [List.take_zero, List.filter_eq_self.2 (fun e _ => by simp [stays])]; exact hmap2, World.grownBy.refl _ _⟩
    case round =>
      obtain ⟨i, dn, xs, hi1, rfl, hdn, hdel, hmap, hgr⟩ := hrel
      by_cases hlt : i < ks.length
      · obtain ⟨ad, rfl, hlt2, hbase, hc⟩ := row_s hrow i hlt
        have hcr : wr.cell? (ad.add i) = some (.string ⟨ks[i].toArray⟩) := hgr.cell hc (by intro h; injection h with h; have : b < w.heap.size := hown.lt; have h2 : (ad.add i).block = ad.block := (by unfold Addr.add; split <;> rfl); omega)
        have hkey : keyOf Try.prog 9 (.string ⟨ks[i].toArray⟩) = some (kl ⟨ks[i].toArray⟩) := key_s _ (by obtain ⟨e, he, h1⟩ := hmem _ (List.getElem_mem hlt); rw [← h1]; exact hk e he)
        generalize hs : (⟨ks[i].toArray⟩ : ByteArray) = s at *
        go_wp2_with (first
          | (at_lookup; refine wpList_lookup_own_int _ rfl _ _ 65 rfl 9 2 .i64 lawS Try.underlying65 Try.underlying2 (zero64 _) b n _ rfl hmap _ _ rfl hkey ?_; intro c hat2 hwc2)
          | (at_builtin; refine wpList_append_own _ rfl _ _ 74 rfl w2.heap.size 87 i0 (.agg #[.string ⟨#[]⟩, .int .i64 0]) 2 24 Try.underlying74 hi hz0 hz1 hz2 rfl (by decide) _ _ _ rfl (hdel.alloc _) ⟨wr.heap.size, 0, none⟩ 1 1 [.string s, .int .i64 c] rfl rfl (two_new _ _ _ _) (by simp [Value.oneCell']) (by unfold maxLen; omega) (by omega) (by have := hgr.size; simp; omega) ?_; intro v' w3 hdel3 hg3 hnil3; have hmap3 := (hmap.alloc (.cells #[.string s, .int .i64 c] 87)).kept hg3 (row_ne_low hdel hbs); go_frame)
          | (at_delete; refine wpList_delete_own _ rfl _ _ 65 9 rfl 2 lawS Try.underlying65 _ b n _ rfl hmap3 _ _ rfl hkey ?_; intro w4 hown4 hturn4; go_frame)
          | go_in)
        · go_roundw
          case rel => exact ⟨i + 1, dn, xs, by omega, by push_cast; rfl, by omega, hdel, by rw [take_key hlt hs, step_keep hnd hat2 (.inl (star_of (by assumption)))]; exact hmap, hgr⟩
          case measure => simp [intOf]; omega
        · have R1 := hdel3.kept hturn4.grown (.inr (row_ne_low hdel3 hbs).symm)
          go_roundw
          case rel =>
            refine ⟨i + 1, dn + 1, _, by omega, by push_cast; rfl, by omega, R1, ?_, ?_⟩
            · rw [take_key hlt hs, step_del hnd hat2 (fun e => by subst e; simp_all [starS]) (by first | assumption | exact (show (!s.toList == [42]) = true ∧ c ≤ all by assumption).2 | simp_all), ← del_MD]; exact hown4
            · exact ((hgr.andThen (World.grownBy_alloc wr _ none) (fun j hj => by cases hj)).andThen hg3 (fun j hj => .inl ((hdel.lt j hj).1))).andThen hturn4.grown (fun j hj => .inr hj)
          case measure => simp [intOf]; omega
        · go_roundw
          case rel => exact ⟨i + 1, dn, xs, by omega, by push_cast; rfl, by omega, hdel, by rw [take_key hlt hs, step_keep hnd hat2 (.inr ((show (!s.toList == [42]) = false ∨ all < c by assumption).resolve_left (by simp [show ¬ s.toList = [42] by assumption])))]; exact hmap, hgr⟩
          case measure => simp [intOf]; omega
      · obtain rfl : i = ks.length := by omega
        go_wp2
        go_ret
        refine ⟨⟨_, rfl⟩, ?_, (World.grownBy.but ⟨hb.os, hb.tape, hb.output, hb.size, fun i hi _ => hb.block i hi⟩ (some b)).andThen hgr (fun j hj => .inr hj)⟩
        rw [← compL_some (ks := (ks.map fun l => (⟨l.toArray⟩ : ByteArray)).take ks.length) (by assumption) hat hall]
        exact hmap
  · go_ret
    refine ⟨⟨_, rfl⟩, ?_, World.grownBy.refl _ _⟩
    rw [compL_none (L := L) (show ¬ has (MD L) (kl ⟨#[42]⟩) = true by first | assumption | simp_all)]
    exact hown
end Go.Proofs.Ytnbihmagbedfmaa
