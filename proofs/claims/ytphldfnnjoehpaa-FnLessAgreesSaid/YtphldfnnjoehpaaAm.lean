/- impl.Value: what is proved cell by cell, told by value, and back. A law's row from its contract by value. -/
import Derived.Test.YtphldfnnjoehpaaAk
import Derived.Test.YtphldfnnjoehpaaSpecb
set_option linter.unusedSimpArgs false
namespace Go.Smd
open Go.RowKit Go.Proofs

theorem okInt64 {n : Int} (h : -9223372036854775808 ≤ n ∧ n ≤ 9223372036854775807) : okVb (.int .i64 n) = true := by simp [okVb, okInt, h]
theorem strs_rep {S : Nat → Prop} {w : World} {A : Option Addr} {c : Nat} {ss : List ByteArray} (h : RepStrs S w A ss) (hc : ss.length ≤ c) (hb : ss.length * 16 ≤ 140737488351232) (hs : ∀ s ∈ ss, s.size ≤ 140737488351232) :
    RepD Try.prog w S (dStrs ss) (.slice A ss.length c) := by
  refine RepD.sl_iff.2 ⟨A, c, by simp [rowS], by simpa [rowS] using hc, by simpa [rowS] using hb, fun j r hj => ?_⟩
  rw [rowS, List.getElem?_map] at hj
  obtain ⟨s, hs', rfl⟩ := Option.map_eq_some_iff.1 hj
  refine ⟨by simp, fun _ => ?_⟩
  obtain ⟨ad, cs, ha, hS, hr, _, hcs⟩ := h j s hs'
  cases hr
  refine ⟨ad, ha, fun i d hi => ?_⟩
  match i, hi with
  | 0, hi =>
    simp at hi; subst hi
    exact ⟨_, by rw [add_block]; exact hS, by simpa using hcs 0 _ rfl, .v (by simpa [okVb] using hs s (List.mem_of_getElem? hs'))⟩
theorem repGV_rep : ∀ {g : GV} {S : Nat → Prop} {w : World} {cs : List Value}, RepGV S w g cs → All2 (RepD Try.prog w S) (gvD g) cs := by
  intro g
  induction g using GV.ind with
  | h kind n f s keys l IH =>
  intro S w cs h
  obtain ⟨ka, kc, la, lc, rfl, ok, hkc, hlc, hks, hls⟩ := h.open
  rw [gvD_mk]
  refine .cons (.v (okInt64 ok.okKind)) (.cons (.v (okInt64 ok.okN)) (.cons (.v (by simpa [okVb] using ok.okF)) (.cons (.v (by simpa [okVb] using ok.okS)) (.cons (strs_rep hks hkc ok.okKeys ok.okEach) (.cons ?_ .nil)))))
  refine (RepD.sl_iff (E := 26) (xs := l.map gvD)).2 ⟨la, lc, by simp, by simpa using hlc, by simpa using ok.okL, fun j r hj => ?_⟩
  rw [List.getElem?_map] at hj
  obtain ⟨x, hx, rfl⟩ := Option.map_eq_some_iff.1 hj
  refine ⟨by simp, fun _ => ?_⟩
  obtain ⟨ad, cs, ha, hS, hr, _, hcs⟩ := hls j x hx
  have := IH x (List.mem_of_getElem? hx) hr
  refine ⟨ad, ha, fun i d hi => ?_⟩
  obtain ⟨u, hu, hd⟩ := this.at hi
  exact ⟨u, by rw [add_block]; exact hS, by simpa using hcs i u hu, hd⟩
theorem cls_all2 {S : Nat → Prop} {β : Nat → Value} {h : Nat → Option Ow} {w : World} {xs : List D} {us : List Value} : All2 (RepC Try.prog S β h w) (cls xs) us ↔ All2 (RepD Try.prog w S) xs us := by
  constructor
  · intro k
    induction xs generalizing us with
    | nil => cases k; exact .nil
    | cons x xs ih => cases k with | cons k t => exact .cons k (ih t)
  · intro k
    induction k with
    | nil => exact .nil
    | cons k t ih => exact .cons k ih
theorem rep_strs {S : Nat → Prop} {w : World} {ss : List ByteArray} {v : Value} (h : RepD Try.prog w S (dStrs ss) v) : ∃ A c, v = .slice A ss.length c ∧ ss.length ≤ c ∧ ss.length * 16 ≤ 140737488351232 ∧ RepStrs S w A ss ∧ ∀ s ∈ ss, s.size ≤ 140737488351232 := by
  have hk := strs_ok ⟨w, S, v, h⟩
  obtain ⟨A, c, rfl, hc, _, hr⟩ := RepD.sl_iff.1 h
  simp only [rowS, List.length_map] at *
  refine ⟨A, c, rfl, hc, hk.1, fun j s hj => ?_, hk.2⟩
  obtain ⟨ad, ha, hrow⟩ := (hr j [dS s] (by simp [hj])).2 (by simp)
  obtain ⟨u, hS, hcell, hd⟩ := hrow 0 (dS s) rfl
  cases hd
  rw [add_block] at hS
  refine ⟨ad, [.string s], ha, hS, rfl, rfl, fun i u hu => ?_⟩
  match i, hu with
  | 0, hu => simp at hu; subst hu; simpa using hcell
set_option maxRecDepth 20000 in
theorem rep_repGV : ∀ {g : GV} {S : Nat → Prop} {w : World} {cs : List Value}, All2 (RepD Try.prog w S) (gvD g) cs → RepGV S w g cs := by
  intro g
  induction g using GV.ind with
  | h kind n f s keys l IH =>
  intro S w cs h
  have hok := gv_ok (kind := kind) (n := n) (f := f) (s := s) (keys := keys) (l := l) ⟨w, S, .agg cs.toArray, cs, rfl, cls_all2.2 h⟩
  rw [gvD_mk] at h
  obtain ⟨c0, _, rfl, h0, h⟩ := h.inv
  obtain ⟨c1, _, rfl, h1, h⟩ := h.inv
  obtain ⟨c2, _, rfl, h2, h⟩ := h.inv
  obtain ⟨c3, _, rfl, h3, h⟩ := h.inv
  obtain ⟨c4, _, rfl, h4, h⟩ := h.inv
  obtain ⟨c5, _, rfl, h5, h⟩ := h.inv
  cases h.inv0
  cases h0; cases h1; cases h2; cases h3
  obtain ⟨ka, kc, rfl, hkc, _, hks, _⟩ := rep_strs h4
  obtain ⟨la, lc, rfl, hlc, _, hr⟩ := (RepD.sl_iff (E := 26) (xs := l.map gvD)).1 h5
  rw [List.length_map] at hlc ⊢
  refine RepGV.close ⟨hok.hkind, hok.hn, hok.hf, hok.hs, hok.hkeys, hok.hkey, hok.hl⟩ hkc hlc hks fun j x hj => ?_
  obtain ⟨ad, ha, hrow⟩ := (hr j (gvD x) (by simp [hj])).2 (by simp)
  have key : ∃ us : List Value, All2 (RepD Try.prog w S) (gvD x) us ∧ (∀ i u, us[i]? = some u → w.cell? ((ad.add (j * 6)).add i) = some u) ∧ S ad.block := by
    refine ⟨(List.range 6).map fun i => (w.cell? ((ad.add (j * 6)).add i)).getD undef, All2.of (by simp) fun i d u hi hu => ?_, fun i u hu => ?_, ?_⟩
    · obtain ⟨u', _, hc, hd⟩ := hrow i d hi
      rw [List.getElem?_map] at hu
      obtain ⟨i', hi', rfl⟩ := Option.map_eq_some_iff.1 hu
      obtain ⟨hlt, rfl⟩ := List.getElem?_eq_some_iff.1 hi'
      simp only [cells_26] at hc
      simp only [List.getElem_range, hc, Option.getD_some]; exact hd
    · rw [List.getElem?_map] at hu
      obtain ⟨i', hi', rfl⟩ := Option.map_eq_some_iff.1 hu
      obtain ⟨hlt, rfl⟩ := List.getElem?_eq_some_iff.1 hi'
      simp only [List.length_range] at hlt
      have hlt' : i < (gvD x).length := by rw [gvD_length]; exact hlt
      obtain ⟨u', _, hc, _⟩ := hrow i ((gvD x)[i]'hlt') (List.getElem?_eq_getElem hlt')
      simp only [cells_26] at hc
      simp only [List.getElem_range, hc, Option.getD_some]
    · have hlt' : 0 < (gvD x).length := by rw [gvD_length]; decide
      obtain ⟨u', hS, _, _⟩ := hrow 0 ((gvD x)[0]'hlt') (List.getElem?_eq_getElem hlt')
      rwa [add_block] at hS
  obtain ⟨us, h1, h2, h3⟩ := key
  have := IH x (List.mem_of_getElem? hj) h1
  exact ⟨ad, us, ha, h3, this, this.length, fun i u hu => h2 i u hu⟩
theorem gvA_iff {S : Nat → Prop} {β : Nat → Value} {h : Nat → Option Ow} {w : World} {g : GV} {v : Value} : RepA Try.prog S β h w (gvA g) v ↔ ∃ cs, v = .agg (List.toArray cs) ∧ RepGV S w g cs :=
  ⟨fun ⟨us, h1, h2⟩ => ⟨us, h1, rep_repGV (cls_all2.1 h2)⟩, fun ⟨us, h1, h2⟩ => ⟨us, h1, cls_all2.2 (repGV_rep h2)⟩⟩

/-- A law's walk from its contract by value. -/
theorem law_walk {f : FuncId} {args : List Av} (h : ACalls Try.prog f args (fun r => r = aV (.bool true))) {W : World} {vs : List Value} (ha : All2 (RepA Try.prog (fun _ => True) noB noH W) args vs) : Calls Try.prog f vs.toArray W (Makes (fun _ u => u = .bool true) W) := by
  refine (h.2 W (· < W.heap.size) vs (fun _ h => h) (ha.imp fun x v _ r => r.imp r.noH fun d u k => k.lt.mono fun b hb => hb.2)).mono ?_
  rintro e w' ⟨v, r, rfl, rfl, hr, hE⟩
  obtain ⟨rfl, _⟩ := rep_v hr
  exact ⟨_, rfl, rfl, hE⟩
theorem clean_a (g : GV) : ACalls Try.prog 19 [gvA g] (fun r => r = gvA (clean g)) := by
  refine ⟨⟨_, Try.func19, by kernel_rfl, rfl⟩, fun w S vs hS ha => ?_⟩
  cases ha with
  | cons h t =>
  cases t
  obtain ⟨cs, rfl, hg⟩ := gvA_iff.1 h
  refine (clean_c g cs w S hg).mono ?_
  rintro e w' ⟨v, rfl, ⟨cs', rfl, hr⟩, hE⟩
  exact ⟨_, _, rfl, rfl, gvA_iff.2 ⟨cs', rfl, hr.mono fun b hb => .inr hb⟩, hE⟩
end Go.Smd
