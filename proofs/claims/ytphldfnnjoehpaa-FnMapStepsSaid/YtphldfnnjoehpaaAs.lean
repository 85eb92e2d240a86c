/- The functions that FnMapSteps calls, by value. -/
import Derived.Test.YtphldfnnjoehpaaAm
import Derived.Test.YtphldfnnjoehpaaMapHas
import Derived.Test.YtphldfnnjoehpaaWith
import Derived.Test.YtphldfnnjoehpaaSame
import Derived.Test.YtphldfnnjoehpaaVrt
set_option linter.unusedSimpArgs false
namespace Go.Smd
open Go.RowKit Go.Proofs

abbrev aS (s : ByteArray) : Av := .c (.d (dS s))
abbrev aI (n : Int) : Av := .c (.d (dI n))
theorem rep_str {S : Nat → Prop} {β : Nat → Value} {h : Nat → Option Ow} {w : World} {s : ByteArray} {v : Value} (k : RepA Try.prog S β h w (aS s) v) : v = .string s ∧ s.size ≤ 140737488351232 := by
  obtain ⟨rfl, h⟩ := rep_v k
  exact ⟨rfl, by simpa [okVb] using h⟩
theorem gives_a {S : Nat → Prop} {w : World} {g : GV} {e : Ending} {w' : World} (h : GivesGV (w.heap.size ≤ ·) g w e w') : ∃ v r, e = .returned v ∧ r = gvA g ∧ RepA Try.prog (fun b => S b ∨ w.heap.size ≤ b) noB noH w' r v ∧ Ext w w' := by
  obtain ⟨v, rfl, ⟨cs, rfl, hr⟩, hE⟩ := h
  exact ⟨_, _, rfl, rfl, gvA_iff.2 ⟨cs, rfl, hr.mono fun b hb => .inr hb⟩, hE⟩
theorem raw_a {S : Nat → Prop} {w : World} {x : Value} (hx : okVb x = true) {e : Ending} {w' : World} (h : Makes (fun _ u => u = x) w e w') : ∃ v r, e = .returned v ∧ r = aV x ∧ RepA Try.prog (fun b => S b ∨ w.heap.size ≤ b) noB noH w' r v ∧ Ext w w' := by
  obtain ⟨v, rfl, rfl, hE⟩ := h
  exact ⟨_, _, rfl, rfl, rep_raw hx, hE⟩
theorem zzFits5_a (g : GV) : ACalls Try.prog 14 [gvA g] (fun r => r = aV (.bool (fits5 g))) := by
  refine ⟨⟨_, Try.func14, by kernel_rfl, rfl⟩, fun w S vs hS ha => ?_⟩
  obtain ⟨v, _, rfl, h, ha⟩ := ha.inv
  cases ha.inv0
  obtain ⟨cs, rfl, hg⟩ := gvA_iff.1 h
  exact (zzFits5_c g cs w S hg).mono fun e w' h => raw_a rfl h
/-- A map's fields as the plain form has them. -/
structure Plain (fs : List (ByteArray × GV)) : Prop where
  sorted : Sorted fs
  clean : ∀ p ∈ fs, clean p.2 = p.2
def fDel (k : ByteArray) (fs : List (ByteArray × GV)) : List (ByteArray × GV) := fs.filter fun p => !decide (p.1 = k)
theorem fDel_sorted {k : ByteArray} {fs : List (ByteArray × GV)} (h : Sorted fs) : Sorted (fDel k fs) := List.Pairwise.sublist (List.Sublist.map _ List.filter_sublist) h
theorem fDel_mem {k : ByteArray} {p : ByteArray × GV} {fs : List (ByteArray × GV)} : p ∈ fDel k fs ↔ p ∈ fs ∧ p.1 ≠ k := by simp [fDel, List.mem_filter]
theorem Plain.del {k : ByteArray} {fs : List (ByteArray × GV)} (h : Plain fs) : Plain (fDel k fs) := ⟨fDel_sorted h.sorted, fun p hp => h.clean p (fDel_mem.1 hp).1⟩
theorem Plain.set {k : ByteArray} {g : GV} {fs : List (ByteArray × GV)} (h : Plain fs) (hg : Smd.clean g = g) : Plain (sIns k g fs) := ⟨sIns_sorted h.sorted, fun p hp => by
  rcases (sIns_mem_iff h.sorted).1 hp with rfl | ⟨hp, _⟩
  · exact hg
  · exact h.clean p hp⟩
theorem insAll_self : ∀ {fs m : List (ByteArray × GV)}, Sorted fs → (∀ p ∈ fs, clean p.2 = p.2) → Sorted m → (∀ p ∈ m, ∀ q ∈ fs, blt p.1 q.1 = true) → insAll (fs.map (·.1)) (cleans (fs.map (·.2))) m = m ++ fs
  | [], m, _, _, _, _ => by simp [insAll]
  | q :: fs, m, hs, hc, hm, hlt => by
    simp only [List.map_cons, cleans, insAll]
    have hq : clean q.2 = q.2 := hc q (List.mem_cons_self ..)
    rw [hq]
    have hs' := hs
    simp only [Sorted, List.map_cons, List.pairwise_cons] at hs
    have e : sIns q.1 q.2 m = m ++ [q] := by
      have : ∀ m : List (ByteArray × GV), (∀ p ∈ m, blt p.1 q.1 = true) → sIns q.1 q.2 m = m ++ [q] := by
        intro m
        induction m with
        | nil => intro _; simp [sIns]
        | cons p m ih =>
          intro h
          simp only [sIns, h p (List.mem_cons_self ..), if_true, List.cons_append]
          rw [ih fun x hx => h x (List.mem_cons_of_mem _ hx)]
      exact this m fun p hp => hlt p hp q (List.mem_cons_self ..)
    rw [e, insAll_self hs.2 (fun p hp => hc p (List.mem_cons_of_mem _ hp)) (e ▸ sIns_sorted hm) fun p hp x hx => ?_]
    · simp
    · rcases List.mem_append.1 hp with hp | hp
      · exact hlt p hp x (List.mem_cons_of_mem _ hx)
      · simp at hp; subst hp; exact hs.1 x.1 (List.mem_map_of_mem hx)
theorem Plain.from {fs : List (ByteArray × GV)} (h : Plain fs) : fromMs (mapOf (fs.map (·.1)) (treesOf (fs.map (·.2))) []) = fs := by
  rw [from_mapOf _ _ _ fun x _ => from_tree x]
  show insAll _ _ [] = fs
  rw [insAll_self (m := []) h.sorted h.clean .nil (by simp)]; simp
theorem fromMs_del (k : ByteArray) : ∀ m : Fields, (m.map (·.1)).Nodup → fromMs (delF k m) = fDel k (fromMs m)
  | [], _ => by simp [delF, fromMs, fDel]
  | p :: m, hn => by
    simp only [List.map_cons, List.nodup_cons] at hn
    simp only [delF]
    have hs := fromMs_sorted m
    split
    · next e =>
      refine sorted_ext hs (fDel_sorted (fromMs_sorted (p :: m))) fun q => ?_
      rw [fDel_mem]
      simp only [fromMs]
      rw [sIns_mem_iff hs]
      constructor
      · intro hq
        have hq2 : q.1 ∈ m.map (·.1) := (fromMs_keys q.1 m).1 (List.mem_map_of_mem hq)
        have hne : q.1 ≠ p.1 := fun h => hn.1 (h ▸ hq2)
        exact ⟨.inr ⟨hq, hne⟩, fun h => hne (h.trans e.symm)⟩
      · rintro ⟨rfl | ⟨hq, _⟩, h2⟩
        · exact absurd e h2
        · exact hq
    · next e =>
      simp only [fromMs]
      rw [fromMs_del k m hn.2]
      refine sorted_ext (sIns_sorted (fDel_sorted hs)) (fDel_sorted (sIns_sorted hs)) fun q => ?_
      rw [sIns_mem_iff (fDel_sorted hs), fDel_mem, fDel_mem, sIns_mem_iff hs]
      constructor
      · rintro (rfl | ⟨⟨h1, h2⟩, h3⟩)
        · exact ⟨.inl rfl, e⟩
        · exact ⟨.inr ⟨h1, h3⟩, h2⟩
      · rintro ⟨rfl | ⟨h1, h2⟩, h3⟩
        · exact .inl rfl
        · exact .inr ⟨⟨h1, h3⟩, h2⟩
theorem insAll_vals : ∀ (ks : List ByteArray) (l : List GV) (m : List (ByteArray × GV)) (Q : GV → Prop), (∀ x ∈ l, Q x) → (∀ p ∈ m, Q p.2) → Sorted m → ∀ p ∈ insAll ks l m, Q p.2
  | [], l, m, Q, _, hm, _, p, hp => by cases l <;> exact hm p (by simpa [insAll] using hp)
  | k :: ks, [], m, Q, _, hm, _, p, hp => hm p (by simpa [insAll] using hp)
  | k :: ks, x :: l, m, Q, hl, hm, hs, p, hp => by
    simp only [insAll] at hp
    refine insAll_vals ks l _ Q (fun y hy => hl y (List.mem_cons_of_mem _ hy)) (fun q hq => ?_) (sIns_sorted hs) p hp
    rcases (sIns_mem_iff hs).1 hq with rfl | ⟨hq, _⟩
    · exact hl x (List.mem_cons_self ..)
    · exact hm q hq
theorem clean_idem (v : GV) : clean (clean v) = clean v := by
  induction v using GV.ind with
  | h kind n f s keys l IH =>
  have hl : ∀ x ∈ cleans l, clean x = x := fun x hx => by
    rw [cleans_eq] at hx
    obtain ⟨y, hy, rfl⟩ := List.mem_map.1 hx
    exact IH y hy
  have hcl : cleans (cleans l) = cleans l := by
    rw [cleans_eq (cleans l)]
    exact (List.map_congr_left hl).trans (List.map_id' _)
  simp only [clean]
  repeat' split
  all_goals (try (simp [clean]; done))
  · simp [clean, hcl]
  · have hs := insAll_sorted keys (cleans l) [] .nil
    have hv := insAll_vals keys (cleans l) [] (fun x => clean x = x) hl (by simp) .nil
    have := insAll_self (m := []) hs hv .nil (by simp)
    simp only [List.nil_append] at this
    simp [mkMap, clean, this]
theorem plain_ins (keys : List ByteArray) (l : List GV) : Plain (insAll keys (cleans l) []) := ⟨insAll_sorted keys (cleans l) [] .nil, insAll_vals keys (cleans l) [] (fun x => clean x = x) (fun x hx => by
  rw [cleans_eq] at hx
  obtain ⟨y, hy, rfl⟩ := List.mem_map.1 hx
  exact clean_idem y) (by simp) .nil⟩
theorem mkMap_eq (fs : List (ByteArray × GV)) : mkMap fs = .mk 6 0 0 ⟨#[]⟩ (fs.map (·.1)) (fs.map (·.2)) := rfl
theorem clean_plain {fs : List (ByteArray × GV)} (h : Plain fs) : clean (mkMap fs) = mkMap fs := by
  have := insAll_self (m := []) h.sorted h.clean .nil (by simp)
  simp only [List.nil_append] at this
  simp [mkMap, clean, this]
theorem mapOf_parts {S : Nat → Prop} {w : World} {kind n : Int} {f : Nat} {s : ByteArray} {keys : List ByteArray} {l : List GV} {cs : List Value} (hv : RepGV S w (.mk kind n f s keys l) cs) : ((mapOf keys (treesOf l) []).map (·.1)).Nodup ∧ (∀ p ∈ mapOf keys (treesOf l) [], Fits p.2) ∧ (mapOf keys (treesOf l) []).length ≤ l.length := by
  have hk := gv_ok (gvA_iff.2 ⟨cs, rfl, hv⟩ |> fun h => ⟨w, S, _, (show RepA Try.prog S noB noH w (gvA (.mk kind n f s keys l)) (.agg cs.toArray) from h)⟩)
  obtain ⟨a, b, c⟩ := mapOf_fits keys (treesOf l) [] (by simp) (by simp) fun t ht => by
    rw [treesOf_eq] at ht
    obtain ⟨x, hx, rfl⟩ := List.mem_map.1 ht
    obtain ⟨w', S', v', hx'⟩ := hk.hitem x hx
    obtain ⟨us, _, hr⟩ := gvA_iff.1 hx'
    exact tree_fits hr
  refine ⟨a, b, ?_⟩
  have e : (treesOf l).length = l.length := by rw [treesOf_eq, List.length_map]
  rw [e] at c
  simpa using c
theorem delF_mem {k : ByteArray} {p : ByteArray × Tree} : ∀ {m : Fields}, p ∈ delF k m → p ∈ m
  | [], h => by simp [delF] at h
  | q :: m, h => by
    simp only [delF] at h
    split at h
    · exact List.mem_cons_of_mem _ h
    · rcases List.mem_cons.1 h with h | h
      · exact h ▸ List.mem_cons_self ..
      · exact List.mem_cons_of_mem _ (delF_mem h)
theorem delF_sub (k : ByteArray) : ∀ m : Fields, List.Sublist (delF k m) m
  | [] => by simp [delF]
  | q :: m => by
    simp only [delF]
    split
    · exact List.sublist_cons_self ..
    · exact (delF_sub k m).cons_cons q
theorem fromT_map (m : Fields) : fromT (.map m) = mkMap (fromMs m) := by simp [fromT, mkMap]
theorem wMap_a (kind n : Int) (f : Nat) (s : ByteArray) (keys : List ByteArray) (l : List GV) : ACalls Try.prog 16 [gvA (.mk kind n f s keys l)] (fun r => r = gvA (mkMap (insAll keys (cleans l) []))) := by
  refine ⟨⟨_, Try.func16, by kernel_rfl, rfl⟩, fun w S vs hS ha => ?_⟩
  obtain ⟨v, _, rfl, h, ha⟩ := ha.inv
  cases ha.inv0
  obtain ⟨cs, rfl, hg⟩ := gvA_iff.1 h
  exact (wMap_c keys l kind n f s cs w S hg).mono fun e w' h => gives_a h
theorem mapDelete_a {fs : List (ByteArray × GV)} (hp : Plain fs) (key : ByteArray) : ACalls Try.prog 45 [gvA (mkMap fs), aS key] (fun r => r = gvA (mkMap (fDel key fs))) := by
  refine ⟨⟨_, Try.func45, by kernel_rfl, rfl⟩, fun w S vs hS ha => ?_⟩
  obtain ⟨v, _, rfl, h, ha⟩ := ha.inv
  obtain ⟨u, _, rfl, h2, ha⟩ := ha.inv
  cases ha.inv0
  obtain ⟨cs, rfl, hg⟩ := gvA_iff.1 h
  obtain ⟨rfl, hk⟩ := rep_str h2
  rw [mkMap_eq] at hg
  obtain ⟨a, b, c⟩ := mapOf_parts hg
  have hl := (gv_ok ⟨w, S, _, h⟩ : GVk _ _ _ _ _ _).hl
  refine (mapDelete_c _ _ _ _ _ _ cs key w S hg ?_).mono fun e w' h => ?_
  · refine ⟨?_, a.sublist ((delF_sub key _).map _), FitsM.of fun p hp => b p (delF_mem hp)⟩
    have := (delF_sub key (mapOf (fs.map (·.1)) (treesOf (fs.map (·.2))) [])).length_le
    omega
  · rw [fromT_map, fromMs_del key _ a, hp.from] at h
    exact gives_a h
theorem mapSet_a {fs : List (ByteArray × GV)} (hp : Plain fs) (hl : fs.length ≤ 4000000000) (key : ByteArray) (g : GV) : ACalls Try.prog 46 [gvA (mkMap fs), aS key, gvA g] (fun r => r = gvA (mkMap (sIns key (clean g) fs))) := by
  refine ⟨⟨_, Try.func46, by kernel_rfl, rfl⟩, fun w S vs hS ha => ?_⟩
  obtain ⟨v, _, rfl, h, ha⟩ := ha.inv
  obtain ⟨u, _, rfl, h2, ha⟩ := ha.inv
  obtain ⟨x, _, rfl, h3, ha⟩ := ha.inv
  cases ha.inv0
  obtain ⟨cs, rfl, hg⟩ := gvA_iff.1 h
  obtain ⟨cv, rfl, hg3⟩ := gvA_iff.1 h3
  obtain ⟨rfl, hk⟩ := rep_str h2
  rw [mkMap_eq] at hg
  obtain ⟨a, b, c⟩ := mapOf_parts hg
  rw [List.length_map] at c
  refine (mapSet_c _ _ _ _ _ _ cs cv key g w S hg hg3 hk ?_ (by omega)).mono fun e w' h => ?_
  · refine ⟨?_, ins_nodup a, FitsM.of fun p hp => ?_⟩
    · have := ins_le key (treeOf g) (mapOf (fs.map (·.1)) (treesOf (fs.map (·.2))) [])
      omega
    · rcases ins_in hp with rfl | hp
      · exact tree_fits hg3
      · exact b p hp
  · rw [fromT_map, fromMs_ins, hp.from, from_tree] at h
    exact gives_a h
def hasK (k : ByteArray) (l : List ByteArray) : Bool := (idxOf k l).isSome
theorem hasK_iff {k : ByteArray} : ∀ {l : List ByteArray}, hasK k l = true ↔ k ∈ l
  | [] => by simp [hasK, idxOf]
  | x :: l => by
    have ih := hasK_iff (k := k) (l := l)
    unfold hasK at *
    simp only [idxOf]
    by_cases h : x = k
    · simp [h]
    · rw [if_neg h, Option.isSome_map, ih, List.mem_cons]
      exact ⟨.inr, fun e => e.resolve_left fun e => h e.symm⟩
theorem mapHas_a {fs : List (ByteArray × GV)} (hp : Plain fs) (key : ByteArray) : ACalls Try.prog 49 [gvA (mkMap fs), aS key] (fun r => r = aV (.bool (hasK key (fs.map (·.1))))) := by
  refine ⟨⟨_, Try.func49, by kernel_rfl, rfl⟩, fun w S vs hS ha => ?_⟩
  obtain ⟨v, _, rfl, h, ha⟩ := ha.inv
  obtain ⟨u, _, rfl, h2, ha⟩ := ha.inv
  cases ha.inv0
  obtain ⟨cs, rfl, hg⟩ := gvA_iff.1 h
  obtain ⟨rfl, hk⟩ := rep_str h2
  rw [mkMap_eq] at hg
  refine (mapHas_c _ _ _ _ _ _ cs key w S hg).mono fun e w' h => ?_
  have e1 : (idxOf key ((mapOf (fs.map (·.1)) (treesOf (fs.map (·.2))) []).map (·.1))).isSome = hasK key (fs.map (·.1)) := by
    have := fromMs_keys key (mapOf (fs.map (·.1)) (treesOf (fs.map (·.2))) [])
    rw [hp.from] at this
    rw [Bool.eq_iff_iff]
    show hasK _ _ = true ↔ _
    rw [hasK_iff, hasK_iff]; exact this.symm
  rw [e1] at h
  exact raw_a rfl h
theorem mapSize_a {fs : List (ByteArray × GV)} (hp : Plain fs) : ACalls Try.prog 15 [gvA (mkMap fs)] (fun r => r = .tup [(false, [.d (dI fs.length)]), (false, [.d (dB (fs.length == 0))])]) := by
  refine ⟨⟨_, Try.func15, by kernel_rfl, rfl⟩, fun w S vs hS ha => ?_⟩
  obtain ⟨v, _, rfl, h, ha⟩ := ha.inv
  cases ha.inv0
  obtain ⟨cs, rfl, hg⟩ := gvA_iff.1 h
  have hk := (gv_ok ⟨w, S, _, h⟩ : GVk _ _ _ _ _ _).hl
  rw [List.length_map] at hk
  rw [mkMap_eq] at hg
  have hcount : (mapOf (fs.map (·.1)) (treesOf (fs.map (·.2))) []).length = fs.length := by
    rw [count_eq _ _ [] [] .nil (by simp) rfl]
    have := insAll_self (m := []) hp.sorted hp.clean .nil (by simp)
    rw [this]; simp
  refine (mapSize_c _ _ _ _ _ _ cs w S hg).mono fun e w' h => ?_
  rw [hcount] at h
  obtain ⟨v, rfl, rfl, hE⟩ := h
  refine ⟨_, _, rfl, rfl, ⟨_, rfl, .cons ?_ (.cons ?_ .nil)⟩, hE⟩
  · exact ⟨_, rfl, RepD.v (by simp [okVb, okInt]; omega)⟩
  · exact ⟨_, rfl, RepD.v rfl⟩
theorem withField_a {fs : List (ByteArray × GV)} (hs : Sorted fs) (hl : fs.length ≤ 4000000000) (key : ByteArray) (g : GV) : ACalls Try.prog 48 [gvA (mkMap fs), aS key, gvA g] (fun r => r = gvA (mkMap (sIns key g fs))) := by
  refine ⟨⟨_, Try.func48, by kernel_rfl, rfl⟩, fun w S vs hS ha => ?_⟩
  obtain ⟨v, _, rfl, h, ha⟩ := ha.inv
  obtain ⟨u, _, rfl, h2, ha⟩ := ha.inv
  obtain ⟨x, _, rfl, h3, ha⟩ := ha.inv
  cases ha.inv0
  obtain ⟨cs, rfl, hg⟩ := gvA_iff.1 h
  obtain ⟨cv, rfl, hg3⟩ := gvA_iff.1 h3
  obtain ⟨rfl, hk⟩ := rep_str h2
  rw [mkMap_eq] at hg
  refine (withField_c _ _ _ _ fs key g cs cv w S hg hg3 hs (by omega) hk).mono ?_
  rintro e w' ⟨v, rfl, ⟨cs', rfl, hr⟩, hE⟩
  exact ⟨_, _, rfl, rfl, gvA_iff.2 ⟨cs', rfl, hr⟩, hE⟩
theorem same_a {g1 g2 : GV} (hcl : clean g1 = clean g2) : ACalls Try.prog 17 [gvA g1, gvA g2] (fun r => r = aV (.bool true)) := by
  refine ⟨⟨_, Try.func17, by kernel_rfl, rfl⟩, fun w S vs hS ha => ?_⟩
  obtain ⟨v, _, rfl, h, ha⟩ := ha.inv
  obtain ⟨u, _, rfl, h2, ha⟩ := ha.inv
  cases ha.inv0
  obtain ⟨cs, rfl, hg⟩ := gvA_iff.1 h
  obtain ⟨cv, rfl, hg2⟩ := gvA_iff.1 h2
  exact (sameSpec_c g1 g2 cs cv w S S hg hg2 hcl).mono fun e w' h => raw_a rfl h
end Go.Smd
