/- Steps over a map: the plain law of FnMapSteps. -/
import Derived.Test.YtphldfnnjoehpaaAs
set_option linter.unusedSimpArgs false
namespace Go.Smd
open Go.RowKit Go.Proofs

abbrev Stp := ByteArray × GV × Bool
abbrev Flds := List (ByteArray × GV)
def stp1 (fs : Flds) (s : Stp) : Flds := if s.2.2 then fDel s.1 fs else sIns s.1 (clean s.2.1) fs
def runS (fs : Flds) (st : List Stp) : Flds := st.foldl stp1 fs
theorem runS_snoc (fs : Flds) (st : List Stp) (s : Stp) : runS fs (st ++ [s]) = stp1 (runS fs st) s := by simp [runS]
theorem stp1_plain {fs : Flds} (h : Plain fs) (s : Stp) : Plain (stp1 fs s) := by
  unfold stp1; split
  · exact h.del
  · exact h.set (clean_idem _)
theorem stp1_length {fs : Flds} (h : Plain fs) (s : Stp) : (stp1 fs s).length ≤ fs.length + 1 := by
  unfold stp1; split
  · have := List.length_filter_le (fun p => !decide (p.1 = s.1)) fs
    unfold fDel; omega
  · classical
    rw [sIns_count _ _ _ h.sorted]; split <;> omega
theorem runS_plain {fs : Flds} (h : Plain fs) (st : List Stp) : Plain (runS fs st) := by
  unfold runS
  induction st generalizing fs with
  | nil => exact h
  | cons s st ih => exact ih (stp1_plain h s)
theorem runS_length {fs : Flds} (h : Plain fs) (st : List Stp) : (runS fs st).length ≤ fs.length + st.length := by
  unfold runS
  induction st generalizing fs with
  | nil => simp
  | cons s st ih =>
    have h1 := ih (stp1_plain h s)
    have h2 := stp1_length h s
    simp only [List.foldl_cons, List.length_cons]; omega
/-- What is left of the fields that no step had. -/
def keepS (fs : Flds) (ks : List ByteArray) : Flds := fs.filter fun p => !hasK p.1 ks
def wantS (w : Flds) : List Stp → Flds
  | [] => w
  | s :: st => if !hasK s.1 (st.map (·.1)) && !s.2.2 then sIns s.1 (clean s.2.1) (wantS w st) else wantS w st
theorem keepS_plain {fs : Flds} (h : Plain fs) (ks : List ByteArray) : Plain (keepS fs ks) := ⟨List.Pairwise.sublist (List.Sublist.map _ List.filter_sublist) h.sorted, fun p hp => h.clean p (List.mem_filter.1 hp).1⟩
theorem wantS_plain {w : Flds} (h : Plain w) : ∀ st, Plain (wantS w st)
  | [] => h
  | s :: st => by
    unfold wantS; split
    · exact (wantS_plain h st).set (clean_idem _)
    · exact wantS_plain h st
theorem wantS_length {w : Flds} (h : Plain w) : ∀ st, (wantS w st).length ≤ w.length + st.length
  | [] => by simp [wantS]
  | s :: st => by
    have := wantS_length h st
    unfold wantS; split
    · classical
      rw [sIns_count _ _ _ (wantS_plain h st).sorted]; simp only [List.length_cons]; split <;> omega
    · simp only [List.length_cons]; omega
theorem wantS_mem {w : Flds} (h : Plain w) {p : ByteArray × GV} : ∀ st : List Stp, p ∈ wantS w st ↔ (p ∈ w ∧ (p.1 ∈ st.map (·.1) → ∃ pre s post, st = pre ++ s :: post ∧ s.1 = p.1 ∧ p.1 ∉ post.map (·.1) ∧ s.2.2 = true)) ∨ ∃ pre s post, st = pre ++ s :: post ∧ s.1 = p.1 ∧ p.1 ∉ post.map (·.1) ∧ s.2.2 = false ∧ clean s.2.1 = p.2
  | [] => by simp [wantS]
  | s :: st => by
    have ih := wantS_mem h (p := p) st
    by_cases hk : s.1 = p.1
    · by_cases hin : p.1 ∈ st.map (·.1)
      · have hc : hasK s.1 (st.map (·.1)) = true := hasK_iff.2 (hk ▸ hin)
        have e : wantS w (s :: st) = wantS w st := by simp only [wantS, hc, Bool.not_true, Bool.false_and, Bool.false_eq_true, if_false]
        rw [e, ih]
        constructor
        · rintro (⟨h1, h2⟩ | ⟨pre, t, post, rfl, h2⟩)
          · refine .inl ⟨h1, fun _ => ?_⟩
            obtain ⟨pre, t, post, rfl, h3⟩ := h2 hin
            exact ⟨s :: pre, t, post, rfl, h3⟩
          · exact .inr ⟨s :: pre, t, post, rfl, h2⟩
        · rintro (⟨h1, h2⟩ | ⟨pre, t, post, h2, h3, h4, h5⟩)
          · refine .inl ⟨h1, fun _ => ?_⟩
            obtain ⟨pre, t, post, h3, h4, h5, h6⟩ := h2 (by simp [hin])
            cases pre with
            | nil => simp only [List.nil_append, List.cons.injEq] at h3; obtain ⟨rfl, rfl⟩ := h3; exact absurd hin h5
            | cons q pre => simp only [List.cons_append, List.cons.injEq] at h3; exact ⟨pre, t, post, h3.2, h4, h5, h6⟩
          · cases pre with
            | nil => simp only [List.nil_append, List.cons.injEq] at h2; obtain ⟨rfl, rfl⟩ := h2; exact absurd hin h4
            | cons q pre => simp only [List.cons_append, List.cons.injEq] at h2; exact .inr ⟨pre, t, post, h2.2, h3, h4, h5⟩
      · have hc : hasK s.1 (st.map (·.1)) = false := by rw [Bool.eq_false_iff]; intro h; exact hin (hk ▸ hasK_iff.1 h)
        have hno : ∀ pre (t : Stp) post, st = pre ++ t :: post → t.1 = p.1 → False := fun pre t post e et => hin (by rw [e]; simp [et])
        cases hd : s.2.2 with
        | true =>
          have e : wantS w (s :: st) = wantS w st := by simp [wantS, hc, hd]
          rw [e, ih]
          constructor
          · rintro (⟨h1, h2⟩ | ⟨pre, t, post, e, h2, _⟩)
            · exact .inl ⟨h1, fun _ => ⟨[], s, st, rfl, hk, hin, hd⟩⟩
            · exact (hno pre t post e h2).elim
          · rintro (⟨h1, h2⟩ | ⟨pre, t, post, h2, h3, h4, h5, h6⟩)
            · exact .inl ⟨h1, fun h => absurd h hin⟩
            · cases pre with
              | nil => simp only [List.nil_append, List.cons.injEq] at h2; obtain ⟨rfl, rfl⟩ := h2; rw [hd] at h5; cases h5
              | cons q pre => simp only [List.cons_append, List.cons.injEq] at h2; exact (hno pre t post h2.2 h3).elim
        | false =>
          have e : wantS w (s :: st) = sIns s.1 (clean s.2.1) (wantS w st) := by simp [wantS, hc, hd]
          rw [e, sIns_mem_iff (wantS_plain h st).sorted]
          constructor
          · rintro (h1 | ⟨h1, h2⟩)
            · exact .inr ⟨[], s, st, rfl, hk, hin, hd, by rw [h1]⟩
            · exact absurd hk.symm h2
          · rintro (⟨h1, h2⟩ | ⟨pre, t, post, h2, h3, h4, h5, h6⟩)
            · obtain ⟨pre, t, post, h3, h4, h5, h6⟩ := h2 (by simp [hk])
              cases pre with
              | nil => simp only [List.nil_append, List.cons.injEq] at h3; obtain ⟨rfl, rfl⟩ := h3; rw [hd] at h6; cases h6
              | cons q pre => simp only [List.cons_append, List.cons.injEq] at h3; exact (hno pre t post h3.2 h4).elim
            · cases pre with
              | nil =>
                simp only [List.nil_append, List.cons.injEq] at h2; obtain ⟨rfl, rfl⟩ := h2
                exact .inl (by rw [h6, hk])
              | cons q pre => simp only [List.cons_append, List.cons.injEq] at h2; exact (hno pre t post h2.2 h3).elim
    · have e : p ∈ wantS w (s :: st) ↔ p ∈ wantS w st := by
        simp only [wantS]
        split
        · rw [sIns_mem_iff (wantS_plain h st).sorted]
          constructor
          · rintro (rfl | h)
            · exact absurd rfl hk
            · exact h.1
          · exact fun h => .inr ⟨h, fun e => hk e.symm⟩
        · rfl
      have hin : p.1 ∈ (s :: st).map (·.1) ↔ p.1 ∈ st.map (·.1) := by
        simp only [List.map_cons, List.mem_cons]
        exact ⟨fun h => h.resolve_left fun e => hk e.symm, .inr⟩
      have mv : ∀ Q : Stp → Prop, (∃ pre t post, s :: st = pre ++ t :: post ∧ t.1 = p.1 ∧ p.1 ∉ post.map (·.1) ∧ Q t) ↔ ∃ pre t post, st = pre ++ t :: post ∧ t.1 = p.1 ∧ p.1 ∉ post.map (·.1) ∧ Q t := fun Q => by
        constructor
        · rintro ⟨pre, t, post, h1, h2, h3⟩
          cases pre with
          | nil => simp only [List.nil_append, List.cons.injEq] at h1; obtain ⟨rfl, rfl⟩ := h1; exact absurd h2 hk
          | cons q pre => simp only [List.cons_append, List.cons.injEq] at h1; exact ⟨pre, t, post, h1.2, h2, h3⟩
        · rintro ⟨pre, t, post, rfl, h2⟩
          exact ⟨s :: pre, t, post, rfl, h2⟩
      rw [e, ih, hin, mv (fun t => t.2.2 = true), mv (fun t => t.2.2 = false ∧ clean t.2.1 = p.2)]
theorem last_step {k : ByteArray} : ∀ {st : List Stp}, k ∈ st.map (·.1) → ∃ pre s post, st = pre ++ s :: post ∧ s.1 = k ∧ k ∉ post.map (·.1)
  | [], h => by simp at h
  | s :: st, h => by
    by_cases hin : k ∈ st.map (·.1)
    · obtain ⟨pre, t, post, rfl, h2⟩ := last_step hin
      exact ⟨s :: pre, t, post, rfl, h2⟩
    · simp only [List.map_cons, List.mem_cons] at h
      exact ⟨[], s, st, rfl, (h.resolve_right hin).symm, hin⟩
theorem runS_post {fs : Flds} (h : Plain fs) {p : ByteArray × GV} : ∀ {post : List Stp}, p.1 ∉ post.map (·.1) → (p ∈ runS fs post ↔ p ∈ fs)
  | [], _ => by simp [runS]
  | s :: post, hn => by
    simp only [List.map_cons, List.mem_cons, not_or] at hn
    show p ∈ runS (stp1 fs s) post ↔ _
    rw [runS_post (stp1_plain h s) hn.2]
    unfold stp1; split
    · rw [fDel_mem]; exact ⟨fun h => h.1, fun h => ⟨h, hn.1⟩⟩
    · rw [sIns_mem_iff h.sorted]
      constructor
      · rintro (rfl | h)
        · exact absurd rfl hn.1
        · exact h.1
      · exact fun h => .inr ⟨h, hn.1⟩
theorem runS_at {fs : Flds} (h : Plain fs) {p : ByteArray × GV} {pre post : List Stp} {s : Stp} (hs : s.1 = p.1) (hn : p.1 ∉ post.map (·.1)) : p ∈ runS fs (pre ++ s :: post) ↔ s.2.2 = false ∧ clean s.2.1 = p.2 := by
  have e : runS fs (pre ++ s :: post) = runS (stp1 (runS fs pre) s) post := by simp [runS]
  rw [e, runS_post (stp1_plain (runS_plain h pre) s) hn]
  unfold stp1; split
  · next hd => rw [fDel_mem, hd]; simp [hs]
  · next hd =>
    have hd : s.2.2 = false := by simpa using hd
    rw [sIns_mem_iff (runS_plain h pre).sorted]
    constructor
    · rintro (rfl | ⟨_, h2⟩)
      · exact ⟨hd, rfl⟩
      · exact absurd hs.symm h2
    · rintro ⟨_, h2⟩
      exact .inl (by rw [h2, hs])
theorem steps_same {fs : Flds} (h : Plain fs) (st : List Stp) : runS fs st = wantS (keepS fs (st.map (·.1))) st := by
  have hk := keepS_plain h (st.map (·.1))
  refine sorted_ext (runS_plain h st).sorted (wantS_plain hk st).sorted fun p => ?_
  rw [wantS_mem hk]
  have hkm : p ∈ keepS fs (st.map (·.1)) ↔ p ∈ fs ∧ p.1 ∉ st.map (·.1) := by
    unfold keepS
    rw [List.mem_filter]
    have : (!hasK p.1 (st.map (·.1))) = true ↔ p.1 ∉ st.map (·.1) := by
      rw [Bool.not_eq_true', Bool.eq_false_iff, ne_eq, hasK_iff]
    rw [this]
  rw [hkm]
  by_cases hin : p.1 ∈ st.map (·.1)
  · obtain ⟨pre, s, post, e, h1, h2⟩ := last_step hin
    constructor
    · intro hp
      rw [e] at hp
      have := (runS_at h h1 h2).1 hp
      exact .inr ⟨pre, s, post, e, h1, h2, this⟩
    · rintro (⟨⟨_, h3⟩, _⟩ | ⟨pre, t, post, e, h3, h4, h5⟩)
      · exact absurd hin h3
      · rw [e]; exact (runS_at h h3 h4).2 h5
  · rw [runS_post h hin]
    constructor
    · exact fun hp => .inl ⟨⟨hp, hin⟩, fun h => absurd h hin⟩
    · rintro (⟨⟨h1, _⟩, _⟩ | ⟨pre, t, post, e, h3, _⟩)
      · exact h1
      · exact absurd (by rw [e]; simp [h3]) hin
/-- The last step says whether its key is there. -/
theorem last_has {fs : Flds} (h : Plain fs) (st : List Stp) (s : Stp) : hasK s.1 ((runS fs (st ++ [s])).map (·.1)) = !s.2.2 := by
  have hm : ∀ v, (s.1, v) ∈ runS fs (st ++ [s]) ↔ s.2.2 = false ∧ clean s.2.1 = v := fun v => runS_at h (p := (s.1, v)) (post := []) rfl (by simp)
  cases hd : s.2.2 with
  | true =>
    simp only [Bool.not_true]
    rw [Bool.eq_false_iff]
    intro hk
    obtain ⟨p, hp, hp1⟩ := List.mem_map.1 (hasK_iff.1 hk)
    obtain ⟨k, v⟩ := p
    simp only at hp1; subst hp1
    have := (hm v).1 hp
    rw [hd] at this; cases this.1
  | false =>
    simp only [Bool.not_false]
    exact hasK_iff.2 (List.mem_map.2 ⟨(s.1, clean s.2.1), (hm _).2 ⟨hd, rfl⟩, rfl⟩)
/-- The fields that are kept, one more. -/
theorem keep_step {fs : Flds} (h : Sorted fs) {i : Nat} (hi : i < fs.length) (ks : List ByteArray) : keepS (fs.take (i + 1)) ks = if hasK fs[i].1 ks then keepS (fs.take i) ks else sIns fs[i].1 fs[i].2 (keepS (fs.take i) ks) := by
  have e : fs.take (i + 1) = fs.take i ++ [fs[i]] := by rw [List.take_succ_eq_append_getElem hi]
  have e2 : keepS (fs.take (i + 1)) ks = keepS (fs.take i) ks ++ (if hasK fs[i].1 ks then [] else [fs[i]]) := by
    rw [e]
    unfold keepS
    rw [List.filter_append]
    congr 1
    cases hh : hasK fs[i].1 ks <;> simp [hh]
  rw [e2]
  split
  · simp
  · have : ∀ m : Flds, (∀ p ∈ m, blt p.1 fs[i].1 = true) → sIns fs[i].1 fs[i].2 m = m ++ [fs[i]] := by
      intro m
      induction m with
      | nil => intro _; simp [sIns]
      | cons p m ih =>
        intro h
        simp only [sIns, h p (List.mem_cons_self ..), if_true, List.cons_append]
        rw [ih fun x hx => h x (List.mem_cons_of_mem _ hx)]
    rw [this]
    intro p hp
    have hp := (List.mem_filter.1 hp).1
    obtain ⟨j, hj, rfl⟩ := List.getElem_of_mem hp
    rw [List.length_take] at hj
    rw [List.getElem_take]
    have h' : List.Pairwise (fun a b : ByteArray × GV => blt a.1 b.1 = true) fs := by
      have := h; unfold Sorted at this; rwa [List.pairwise_map] at this
    exact List.pairwise_iff_getElem.1 h' j i (by omega) hi (by omega)
end Go.Smd
