/- Part 23 of the proof: Ct Cu. -/
import Derived.Test.YtannholebjdckaaGreatQS22
set_option linter.unusedVariables false
section
set_option linter.unusedSimpArgs false
set_option maxRecDepth 100000
set_option maxHeartbeats 8000000
namespace Go.Smd
open Go.RowKit Go.Proofs
inductive okP : GV → Prop
  | mk {k n : Int} {f : Nat} {s : ByteArray} {ks : List ByteArray} {l : List GV} (h : ks.length ≤ l.length) (hl : ∀ x ∈ l, okP x) : okP (.mk k n f s ks l)
theorem okP_nil {k n : Int} {f : Nat} {s : ByteArray} : okP (.mk k n f s [] []) := .mk (Nat.le_refl _) fun x hx => by cases hx
theorem okP_clean (g : GV) : okP (clean g) := by
  induction g using GV.ind with
  | h kind n f s keys l IH =>
  have hl : ∀ x ∈ cleans l, okP x := fun x hx => by
    rw [cleans_eq] at hx
    obtain ⟨y, hy, rfl⟩ := List.mem_map.1 hx
    exact IH y hy
  simp only [clean]
  repeat' split
  all_goals first | exact okP_nil | skip
  · exact .mk (by simp) hl
  · refine .mk (by simp) fun x hx => ?_
    obtain ⟨p, hp, rfl⟩ := List.mem_map.1 hx
    exact insAll_vals keys (cleans l) [] okP hl (by simp) .nil p hp
theorem cmpPs_end {l m : List GV} (h : l = [] ∨ m = []) : cmpPs l m = cmpI (l.length : Int) m.length := by
  cases l with
  | nil => cases m with
    | nil => simp [cmpPs, cmpI]
    | cons y m => simp only [cmpPs, cmpI]; rw [if_neg (by first | (simp; done) | (simp; omega)), if_pos (by first | (simp; done) | (simp; omega))]
  | cons x l => cases m with
    | nil => simp only [cmpPs, cmpI]; rw [if_pos (by first | (simp; done) | (simp; omega))]
    | cons y m => simp at h
theorem cmpPm_end {ks ks' : List ByteArray} {l l' : List GV} (h : ks = [] ∨ ks' = []) : cmpPm ks l ks' l' = cmpI (ks.length : Int) ks'.length := by
  rcases h with rfl | rfl
  · unfold cmpPm; rfl
  · cases ks <;> cases l <;> simp [cmpPm]
theorem cmpPs_a (l m : List GV) (hl : l.length * 88 ≤ 140737488351232) (hm : m.length * 88 ≤ 140737488351232) (H : ∀ x ∈ l, ∀ y ∈ m, ACalls Tryz.prog 153 [gvA x, gvA y] (fun r => r = aI (cmpP x y))) :
    ACalls Tryz.prog 187 [.c (.d (dGVs l)), .c (.d (dGVs m))] (fun r => r = aI (cmpPs l m)) := by
  refine acalls_ex [(4, ([8], [(0, []), (1, []), (2, []), (3, []), (4, []), (5, []), (6, []), (7, []), (8, []), (9, [])]))] Tryz.func187 (by kernel_rfl) rfl Tryz.ntmps187 Tryz.results187 (Nat.le_of_ble_eq_true (by kernel_rfl)) ?_; intro hok w0 S0
  clear hok
  have b1 : l.length ≤ 9223372036854775807 := by omega
  have b2 : m.length ≤ 9223372036854775807 := by omega
  (repeat' (first | (with_reducible refine br_d (fun _ => ?_) (fun _ => ?_)) | (with_reducible refine br_i (fun _ => ?_) (fun _ => ?_)) | (with_reducible refine dn_i follows_any (by kernel_rfl) ?_) | (with_reducible exact done_eq rfl) | (simp -dsimp))); (all_goals try with_reducible refine done_eq ?_)
  refine ex_loop (fun i : Nat => ⟨[(0, .c (.d (dGVs l))), (1, .c (.d (dGVs m))), (5, aI i)], []⟩) (fun i => i ≤ l.length ∧ i ≤ m.length ∧ cmpPs l m = cmpPs (l.drop i) (m.drop i)) (fun i => l.length - i) 0 ?_ ⟨Nat.zero_le _, Nat.zero_le _, rfl⟩ ?_
  · exact Weak.same (by simp -dsimp) (by simp -dsimp) (by first | rfl | (simp [closedSt, Av.ids, Ow.ids, Cl.ids, Go.Smd.keys]; done))
  · rintro i ⟨hi, hj, heq⟩ K hK
    have hw : IntKind.wrap .i64 ((i : Int) + 1) = ((i + 1 : Nat) : Int) := by rw [wrap_i64] <;> omega
    have hcc := compareInts_v (l.length : Int) m.length
    have hend : ¬ (i < l.length ∧ i < m.length) → cmpPs l m = cmpI (l.length : Int) m.length := fun h => by
      rw [heq, cmpPs_end (by
        by_cases h1 : i < l.length
        · exact .inr (List.drop_eq_nil_of_le (by omega))
        · exact .inl (List.drop_eq_nil_of_le (by omega))), List.length_drop, List.length_drop, ← cmpI_sub i hi hj]
    by_cases h1 : i < l.length
    · by_cases h2 : i < m.length
      · have hc : cmpPs l m = if cmpP l[i] m[i] ≠ 0 then cmpP l[i] m[i] else cmpPs (l.drop (i + 1)) (m.drop (i + 1)) := by
          rw [heq, List.drop_eq_getElem_cons h1, List.drop_eq_getElem_cons h2]; simp only [cmpPs]
        have hx := H _ (List.getElem_mem h1) _ (List.getElem_mem h2)
        by_cases hz : cmpP l[i] m[i] = 0
        · rw [if_neg (by simpa using hz)] at hc
          rw [hz] at hx
          (repeat' (first | (with_reducible refine br_d (fun _ => ?_) (fun _ => ?_)) | (with_reducible refine br_i (fun _ => ?_) (fun _ => ?_)) | (with_reducible refine nd_v (hx) (by first | rfl | (simp -dsimp [hw, b1, b2, h1, h2]; done)) ?_) | (with_reducible refine nw_v (hx) rfl (by first | rfl | (simp -dsimp [hw, b1, b2, h1, h2]; done)) (by first | rfl | (simp -dsimp [hw, b1, b2, h1, h2]; done)) ?_) | (with_reducible refine dn_i follows_any (by kernel_rfl) ?_) | (with_reducible exact done_eq rfl) | (simp -dsimp [hw, b1, b2, h1, h2]))); (all_goals try with_reducible refine done_eq ?_)
          refine hK _ (i + 1) ?_ ⟨by omega, by omega, hc⟩ (by omega)
          exact Weak.same (by simp -dsimp) (by simp -dsimp) (by first | rfl | (simp [closedSt, Av.ids, Ow.ids, Cl.ids, Go.Smd.keys]; done))
        · rw [if_pos hz] at hc
          (repeat' (first | (with_reducible refine br_d (fun _ => ?_) (fun _ => ?_)) | (with_reducible refine br_i (fun _ => ?_) (fun _ => ?_)) | (with_reducible refine nd_v (hx) (by first | rfl | (simp -dsimp [hw, b1, b2, h1, h2, hz]; done)) ?_) | (with_reducible refine nw_v (hx) rfl (by first | rfl | (simp -dsimp [hw, b1, b2, h1, h2, hz]; done)) (by first | rfl | (simp -dsimp [hw, b1, b2, h1, h2, hz]; done)) ?_) | (with_reducible refine dn_i follows_any (by kernel_rfl) ?_) | (with_reducible exact done_eq rfl) | (simp -dsimp [hw, b1, b2, h1, h2, hz]))); (all_goals try with_reducible refine done_eq ?_)
          rw [hc]
      · have hc := hend (fun h => h2 h.2)
        (repeat' (first | (with_reducible refine br_d (fun _ => ?_) (fun _ => ?_)) | (with_reducible refine br_i (fun _ => ?_) (fun _ => ?_)) | (with_reducible refine nd_v (hcc) (by first | rfl | (simp -dsimp [hw, b1, b2, h1, h2]; done)) ?_) | (with_reducible refine nw_v (hcc) rfl (by first | rfl | (simp -dsimp [hw, b1, b2, h1, h2]; done)) (by first | rfl | (simp -dsimp [hw, b1, b2, h1, h2]; done)) ?_) | (with_reducible refine dn_i follows_any (by kernel_rfl) ?_) | (with_reducible exact done_eq rfl) | (simp -dsimp [hw, b1, b2, h1, h2]))); (all_goals try with_reducible refine done_eq ?_)
        rw [hc]
    · have hc := hend (fun h => h1 h.1)
      (repeat' (first | (with_reducible refine br_d (fun _ => ?_) (fun _ => ?_)) | (with_reducible refine br_i (fun _ => ?_) (fun _ => ?_)) | (with_reducible refine nd_v (hcc) (by first | rfl | (simp -dsimp [hw, b1, b2, h1]; done)) ?_) | (with_reducible refine nw_v (hcc) rfl (by first | rfl | (simp -dsimp [hw, b1, b2, h1]; done)) (by first | rfl | (simp -dsimp [hw, b1, b2, h1]; done)) ?_) | (with_reducible refine dn_i follows_any (by kernel_rfl) ?_) | (with_reducible exact done_eq rfl) | (simp -dsimp [hw, b1, b2, h1]))); (all_goals try with_reducible refine done_eq ?_)
      rw [hc]
theorem cmpPm_a (k n : Int) (f : Nat) (s : ByteArray) (ks : List ByteArray) (l : List GV) (k' n' : Int) (f' : Nat) (s' : ByteArray) (ks' : List ByteArray) (l' : List GV) (hk : ks.length ≤ l.length) (hk' : ks'.length ≤ l'.length) (hl : l.length * 88 ≤ 140737488351232) (hl' : l'.length * 88 ≤ 140737488351232)
    (H : ∀ x ∈ l, ∀ y ∈ l', ACalls Tryz.prog 153 [gvA x, gvA y] (fun r => r = aI (cmpP x y))) :
    ACalls Tryz.prog 188 [gvX k n f s ks l, gvX k' n' f' s' ks' l'] (fun r => r = aI (cmpPm ks l ks' l')) := by
  refine acalls_ex [(4, ([10], [(0, []), (1, []), (2, []), (3, []), (4, []), (5, []), (6, []), (7, []), (8, []), (9, []), (10, []), (11, [])])), (7, ([10], [(0, []), (1, []), (2, []), (3, []), (4, []), (5, []), (6, []), (7, []), (8, []), (9, []), (10, []), (11, [])]))] Tryz.func188 (by kernel_rfl) rfl Tryz.ntmps188 Tryz.results188 (Nat.le_of_ble_eq_true (by kernel_rfl)) ?_; intro hok w0 S0
  clear hok
  have b1 : l.length ≤ 9223372036854775807 := by omega
  have b2 : l'.length ≤ 9223372036854775807 := by omega
  have b3 : ks.length ≤ 9223372036854775807 := by omega
  have b4 : ks'.length ≤ 9223372036854775807 := by omega
  (repeat' (first | (with_reducible refine br_d (fun _ => ?_) (fun _ => ?_)) | (with_reducible refine br_i (fun _ => ?_) (fun _ => ?_)) | (with_reducible refine dn_i follows_any (by kernel_rfl) ?_) | (with_reducible exact done_eq rfl) | (simp -dsimp))); (all_goals try with_reducible refine done_eq ?_)
  refine ex_loop (fun i : Nat => ⟨[(2, .c (.own 2 0)), (3, .c (.own 3 0)), (5, aI i)], [(2, .cells [.d (dI k), .d (dI n), .d (dF f), .d (dS s), .d (dStrs ks), .d (dGVs l)] 31), (3, .cells [.d (dI k'), .d (dI n'), .d (dF f'), .d (dS s'), .d (dStrs ks'), .d (dGVs l')] 31)]⟩)
    (fun i => i ≤ ks.length ∧ i ≤ ks'.length ∧ cmpPm ks l ks' l' = cmpPm (ks.drop i) (l.drop i) (ks'.drop i) (l'.drop i)) (fun i => ks.length - i) 0 ?_ ⟨Nat.zero_le _, Nat.zero_le _, rfl⟩ ?_
  · exact Weak.same (by simp -dsimp) (by simp -dsimp) (by first | rfl | (simp [closedSt, Av.ids, Ow.ids, Cl.ids, Go.Smd.keys]; done))
  · rintro i ⟨hi, hj, heq⟩ K hK
    have hw : IntKind.wrap .i64 ((i : Int) + 1) = ((i + 1 : Nat) : Int) := by rw [wrap_i64] <;> omega
    have hcc := compareInts_v (ks.length : Int) ks'.length
    have hend : ¬ (i < ks.length ∧ i < ks'.length) → cmpPm ks l ks' l' = cmpI (ks.length : Int) ks'.length := fun h => by
      rw [heq, cmpPm_end (by
        by_cases h1 : i < ks.length
        · exact .inr (List.drop_eq_nil_of_le (by omega))
        · exact .inl (List.drop_eq_nil_of_le (by omega))), List.length_drop, List.length_drop, ← cmpI_sub i hi hj]
    by_cases h1 : i < ks.length
    · by_cases h2 : i < ks'.length
      · have h3 : i < l.length := by omega
        have h4 : i < l'.length := by omega
        have hc : cmpPm ks l ks' l' = if cmpS ks[i] ks'[i] ≠ 0 then cmpS ks[i] ks'[i] else if cmpP l[i] l'[i] ≠ 0 then cmpP l[i] l'[i] else cmpPm (ks.drop (i + 1)) (l.drop (i + 1)) (ks'.drop (i + 1)) (l'.drop (i + 1)) := by
          rw [heq, List.drop_eq_getElem_cons h1, List.drop_eq_getElem_cons h2, List.drop_eq_getElem_cons h3, List.drop_eq_getElem_cons h4]; simp only [cmpPm]
        have hx := H _ (List.getElem_mem h3) _ (List.getElem_mem h4)
        have hs := compareStrings_v ks[i] ks'[i]
        by_cases hy : cmpS ks[i] ks'[i] = 0
        · rw [if_neg (by simpa using hy)] at hc
          rw [hy] at hs
          by_cases hz : cmpP l[i] l'[i] = 0
          · rw [if_neg (by simpa using hz)] at hc
            rw [hz] at hx
            (repeat' (first | (with_reducible refine br_d (fun _ => ?_) (fun _ => ?_)) | (with_reducible refine br_i (fun _ => ?_) (fun _ => ?_)) | (with_reducible refine nd_v (hx) (by first | rfl | (simp -dsimp [hw, b1, b2, b3, b4, h1, h2, h3, h4, rowS]; done)) ?_) | (with_reducible refine nw_v (hx) rfl (by first | rfl | (simp -dsimp [hw, b1, b2, b3, b4, h1, h2, h3, h4, rowS]; done)) (by first | rfl | (simp -dsimp [hw, b1, b2, b3, b4, h1, h2, h3, h4, rowS]; done)) ?_) | (with_reducible refine nd_v (hs) (by first | rfl | (simp -dsimp [hw, b1, b2, b3, b4, h1, h2, h3, h4, rowS]; done)) ?_) | (with_reducible refine nw_v (hs) rfl (by first | rfl | (simp -dsimp [hw, b1, b2, b3, b4, h1, h2, h3, h4, rowS]; done)) (by first | rfl | (simp -dsimp [hw, b1, b2, b3, b4, h1, h2, h3, h4, rowS]; done)) ?_) | (with_reducible refine dn_i follows_any (by kernel_rfl) ?_) | (with_reducible exact done_eq rfl) | (simp -dsimp [hw, b1, b2, b3, b4, h1, h2, h3, h4, rowS]))); (all_goals try with_reducible refine done_eq ?_)
            refine hK _ (i + 1) ?_ ⟨by omega, by omega, hc⟩ (by omega)
            exact Weak.same (by simp -dsimp) (by simp -dsimp) (by first | rfl | (simp [closedSt, Av.ids, Ow.ids, Cl.ids, Go.Smd.keys]; done))
          · rw [if_pos hz] at hc
            (repeat' (first | (with_reducible refine br_d (fun _ => ?_) (fun _ => ?_)) | (with_reducible refine br_i (fun _ => ?_) (fun _ => ?_)) | (with_reducible refine nd_v (hx) (by first | rfl | (simp -dsimp [hw, b1, b2, b3, b4, h1, h2, h3, h4, hz, rowS]; done)) ?_) | (with_reducible refine nw_v (hx) rfl (by first | rfl | (simp -dsimp [hw, b1, b2, b3, b4, h1, h2, h3, h4, hz, rowS]; done)) (by first | rfl | (simp -dsimp [hw, b1, b2, b3, b4, h1, h2, h3, h4, hz, rowS]; done)) ?_) | (with_reducible refine nd_v (hs) (by first | rfl | (simp -dsimp [hw, b1, b2, b3, b4, h1, h2, h3, h4, hz, rowS]; done)) ?_) | (with_reducible refine nw_v (hs) rfl (by first | rfl | (simp -dsimp [hw, b1, b2, b3, b4, h1, h2, h3, h4, hz, rowS]; done)) (by first | rfl | (simp -dsimp [hw, b1, b2, b3, b4, h1, h2, h3, h4, hz, rowS]; done)) ?_) | (with_reducible refine dn_i follows_any (by kernel_rfl) ?_) | (with_reducible exact done_eq rfl) | (simp -dsimp [hw, b1, b2, b3, b4, h1, h2, h3, h4, hz, rowS]))); (all_goals try with_reducible refine done_eq ?_)
            rw [hc]
        · rw [if_pos hy] at hc
          (repeat' (first | (with_reducible refine br_d (fun _ => ?_) (fun _ => ?_)) | (with_reducible refine br_i (fun _ => ?_) (fun _ => ?_)) | (with_reducible refine nd_v (hs) (by first | rfl | (simp -dsimp [hw, b1, b2, b3, b4, h1, h2, h3, h4, hy, rowS]; done)) ?_) | (with_reducible refine nw_v (hs) rfl (by first | rfl | (simp -dsimp [hw, b1, b2, b3, b4, h1, h2, h3, h4, hy, rowS]; done)) (by first | rfl | (simp -dsimp [hw, b1, b2, b3, b4, h1, h2, h3, h4, hy, rowS]; done)) ?_) | (with_reducible refine dn_i follows_any (by kernel_rfl) ?_) | (with_reducible exact done_eq rfl) | (simp -dsimp [hw, b1, b2, b3, b4, h1, h2, h3, h4, hy, rowS]))); (all_goals try with_reducible refine done_eq ?_)
          rw [hc]
      · have hc := hend (fun h => h2 h.2)
        (repeat' (first | (with_reducible refine br_d (fun _ => ?_) (fun _ => ?_)) | (with_reducible refine br_i (fun _ => ?_) (fun _ => ?_)) | (with_reducible refine nd_v (hcc) (by first | rfl | (simp -dsimp [hw, b1, b2, b3, b4, h1, h2]; done)) ?_) | (with_reducible refine nw_v (hcc) rfl (by first | rfl | (simp -dsimp [hw, b1, b2, b3, b4, h1, h2]; done)) (by first | rfl | (simp -dsimp [hw, b1, b2, b3, b4, h1, h2]; done)) ?_) | (with_reducible refine dn_i follows_any (by kernel_rfl) ?_) | (with_reducible exact done_eq rfl) | (simp -dsimp [hw, b1, b2, b3, b4, h1, h2]))); (all_goals try with_reducible refine done_eq ?_)
        rw [hc]
    · have hc := hend (fun h => h1 h.1)
      (repeat' (first | (with_reducible refine br_d (fun _ => ?_) (fun _ => ?_)) | (with_reducible refine br_i (fun _ => ?_) (fun _ => ?_)) | (with_reducible refine nd_v (hcc) (by first | rfl | (simp -dsimp [hw, b1, b2, b3, b4, h1]; done)) ?_) | (with_reducible refine nw_v (hcc) rfl (by first | rfl | (simp -dsimp [hw, b1, b2, b3, b4, h1]; done)) (by first | rfl | (simp -dsimp [hw, b1, b2, b3, b4, h1]; done)) ?_) | (with_reducible refine dn_i follows_any (by kernel_rfl) ?_) | (with_reducible exact done_eq rfl) | (simp -dsimp [hw, b1, b2, b3, b4, h1]))); (all_goals try with_reducible refine done_eq ?_)
      rw [hc]
theorem asFloat_y (k n : Int) (f : Nat) (s : ByteArray) (ks : List ByteArray) (l : List GV) : ACalls Tryz.prog 135 [gvX k n f s ks l] (fun r => r = aV (.float .f64 (asF k n f))) := asFloat_x k n f s ks l
theorem cmpP_a (g : GV) : ∀ h : GV, okP g → okP h → ACalls Tryz.prog 153 [gvA g, gvA h] (fun r => r = aI (cmpP g h)) := by
  induction g using GV.ind with
  | h k n f s ks l IH =>
  rintro ⟨k', n', f', s', ks', l'⟩ (og : okP _) (oh : okP _)
  rw [gvA_x, gvA_x]
  have hr : cmpP (.mk k n f s ks l) (.mk k' n' f' s' ks' l') = if cmpI (rkV k) (rkV k') ≠ 0 then cmpI (rkV k) (rkV k')
    else if rkV k = 0 then (if k = 2 ∧ k' = 2 then cmpI n n' else cmpFl (asF k n f) (asF k' n' f'))
    else if rkV k = 1 then cmpS s s' else if rkV k = 2 then cmpI n n' else if rkV k = 3 then cmpPs l l' else if rkV k = 4 then cmpPm ks l ks' l' else 0 := by simp only [cmpP]
  rw [hr]
  cases og with
  | mk og1 og2 =>
  cases oh with
  | mk oh1 oh2 =>
  refine acalls_ex [(1, ([3, 4], [(0, []), (2, []), (1, []), (3, []), (4, []), (5, [])])), (8, ([3, 4], [(0, []), (2, []), (1, []), (3, []), (4, []), (5, [])]))] Tryz.func153 (by kernel_rfl) rfl Tryz.ntmps153 Tryz.results153 (Nat.le_of_ble_eq_true (by kernel_rfl)) ?_; intro hok w0 S0
  have hg := gv_ok (kind := k) (n := n) (f := f) (s := s) (keys := ks) (l := l) (by rw [gvA_x]; exact hok _ (by simp))
  have hh := gv_ok (kind := k') (n := n') (f := f') (s := s') (keys := ks') (l := l') (by rw [gvA_x]; exact hok _ (by simp))
  have a2 := hg.hl; have a4 := hh.hl
  clear hok
  have hx : ∀ x ∈ l, ∀ y ∈ l', ACalls Tryz.prog 153 [gvA x, gvA y] (fun r => r = aI (cmpP x y)) := fun x h1 y h2 => IH x h1 y (og2 x h1) (oh2 y h2)
  have c1 := cmpPs_a l l' a2 a4 hx
  have c2 := cmpPm_a k n f s ks l k' n' f' s' ks' l' og1 oh1 a2 a4 hx
  have c3 := compareInts_v (rkV k) (rkV k')
  obtain ⟨R, hR⟩ : ∃ R, R = rkV k := ⟨_, rfl⟩
  have c4 := kindRank_x k n f s ks l
  have c5 := kindRank_x k' n' f' s' ks' l'
  rw [← hR] at c3 c4 ⊢
  have c6 := compareInts_v n n'
  have c7 := compareStrings_v s s'
  have c8 := compareFloats_v (asF k n f) (asF k' n' f')
  have c9 := asFloat_y k n f s ks l
  have c10 := asFloat_y k' n' f' s' ks' l'
  by_cases hz : cmpI R (rkV k') = 0
  · rw [hz] at c3
    rw [if_neg (by simpa using hz)]
    (repeat' (first | (with_reducible refine br_d (fun _ => ?_) (fun _ => ?_)) | (with_reducible refine br_i (fun _ => ?_) (fun _ => ?_)) | (with_reducible refine nd_v (c4) (by first | rfl | (simp -dsimp; done)) ?_) | (with_reducible refine nw_v (c4) rfl (by first | rfl | (simp -dsimp; done)) (by first | rfl | (simp -dsimp; done)) ?_) | (with_reducible refine nd_v (c5) (by first | rfl | (simp -dsimp; done)) ?_) | (with_reducible refine nw_v (c5) rfl (by first | rfl | (simp -dsimp; done)) (by first | rfl | (simp -dsimp; done)) ?_) | (with_reducible refine nd_v (c3) (by first | rfl | (simp -dsimp; done)) ?_) | (with_reducible refine nw_v (c3) rfl (by first | rfl | (simp -dsimp; done)) (by first | rfl | (simp -dsimp; done)) ?_) | (with_reducible refine nd_v (c6) (by first | rfl | (simp -dsimp; done)) ?_) | (with_reducible refine nw_v (c6) rfl (by first | rfl | (simp -dsimp; done)) (by first | rfl | (simp -dsimp; done)) ?_) | (with_reducible refine nd_v (c7) (by first | rfl | (simp -dsimp; done)) ?_) | (with_reducible refine nw_v (c7) rfl (by first | rfl | (simp -dsimp; done)) (by first | rfl | (simp -dsimp; done)) ?_) | (with_reducible refine nd_v (c8) (by first | rfl | (simp -dsimp; done)) ?_) | (with_reducible refine nw_v (c8) rfl (by first | rfl | (simp -dsimp; done)) (by first | rfl | (simp -dsimp; done)) ?_) | (with_reducible refine nd_v (c9) (by first | rfl | (simp -dsimp; done)) ?_) | (with_reducible refine nw_v (c9) rfl (by first | rfl | (simp -dsimp; done)) (by first | rfl | (simp -dsimp; done)) ?_) | (with_reducible refine nd_v (c10) (by first | rfl | (simp -dsimp; done)) ?_) | (with_reducible refine nw_v (c10) rfl (by first | rfl | (simp -dsimp; done)) (by first | rfl | (simp -dsimp; done)) ?_) | (with_reducible refine nd_v (c1) (by first | rfl | (simp -dsimp; done)) ?_) | (with_reducible refine nw_v (c1) rfl (by first | rfl | (simp -dsimp; done)) (by first | rfl | (simp -dsimp; done)) ?_) | (with_reducible refine nd_v (c2) (by first | rfl | (simp -dsimp; done)) ?_) | (with_reducible refine nw_v (c2) rfl (by first | rfl | (simp -dsimp; done)) (by first | rfl | (simp -dsimp; done)) ?_) | (with_reducible refine dn_i follows_any (by kernel_rfl) ?_) | (with_reducible exact done_eq rfl) | (simp -dsimp))); (all_goals try with_reducible refine done_eq ?_)
    all_goals simp_all
  · rw [if_pos hz]
    (repeat' (first | (with_reducible refine br_d (fun _ => ?_) (fun _ => ?_)) | (with_reducible refine br_i (fun _ => ?_) (fun _ => ?_)) | (with_reducible refine nd_v (c4) (by first | rfl | (simp -dsimp [hz]; done)) ?_) | (with_reducible refine nw_v (c4) rfl (by first | rfl | (simp -dsimp [hz]; done)) (by first | rfl | (simp -dsimp [hz]; done)) ?_) | (with_reducible refine nd_v (c5) (by first | rfl | (simp -dsimp [hz]; done)) ?_) | (with_reducible refine nw_v (c5) rfl (by first | rfl | (simp -dsimp [hz]; done)) (by first | rfl | (simp -dsimp [hz]; done)) ?_) | (with_reducible refine nd_v (c3) (by first | rfl | (simp -dsimp [hz]; done)) ?_) | (with_reducible refine nw_v (c3) rfl (by first | rfl | (simp -dsimp [hz]; done)) (by first | rfl | (simp -dsimp [hz]; done)) ?_) | (with_reducible refine dn_i follows_any (by kernel_rfl) ?_) | (with_reducible exact done_eq rfl) | (simp -dsimp [hz]))); (all_goals try with_reducible refine done_eq ?_)
end Go.Smd
end
section
set_option linter.unusedSimpArgs false
set_option maxRecDepth 100000
set_option maxHeartbeats 8000000
namespace Go.Smd
open Go.RowKit Go.Proofs
theorem cmpBytes_lt : ∀ {l m : List UInt8}, Op.bytesLess l m = true → Lib.compareBytes l m = -1
  | _, [], h => by simp [Op.bytesLess] at h
  | [], _ :: _, _ => rfl
  | a :: l, b :: m, h => by
    simp only [Op.bytesLess, Bool.or_eq_true, Bool.and_eq_true, decide_eq_true_eq, beq_iff_eq] at h
    rw [cmpBytes_cons]
    rcases h with h | ⟨rfl, h⟩
    · have h' : a.toNat < b.toNat := UInt8.lt_iff_toNat_lt.1 h
      have hne : a ≠ b := fun e => by subst e; omega
      rw [if_neg hne]; unfold cmpI; rw [if_neg (by omega), if_pos (by omega)]
    · rw [if_pos rfl, cmpBytes_lt h]
theorem cmpBytes_gt : ∀ {l m : List UInt8}, Op.bytesLess m l = true → Lib.compareBytes l m = 1
  | [], _, h => by simp [Op.bytesLess] at h
  | _ :: _, [], _ => rfl
  | a :: l, b :: m, h => by
    simp only [Op.bytesLess, Bool.or_eq_true, Bool.and_eq_true, decide_eq_true_eq, beq_iff_eq] at h
    rw [cmpBytes_cons]
    rcases h with h | ⟨rfl, h⟩
    · have h' : b.toNat < a.toNat := UInt8.lt_iff_toNat_lt.1 h
      have hne : a ≠ b := fun e => by subst e; omega
      rw [if_neg hne]; unfold cmpI; rw [if_pos (by omega)]
    · rw [if_pos rfl, cmpBytes_gt h]
theorem cmpS_lt {a b : ByteArray} (h : blt a b = true) : cmpS a b = -1 := by
  unfold blt at h; rw [toList_eq, toList_eq] at h; exact cmpBytes_lt h
theorem cmpS_gt {a b : ByteArray} (h : blt b a = true) : cmpS a b = 1 := by
  unfold blt at h; rw [toList_eq, toList_eq] at h; exact cmpBytes_gt h
theorem cmpS_self (a : ByteArray) : cmpS a a = 0 := (cmpBytes_zero _ _).2 rfl
def cmpPf : List (ByteArray × GV) → List (ByteArray × GV) → Int
  | p :: A, q :: B => if cmpS p.1 q.1 ≠ 0 then cmpS p.1 q.1 else if cmpP p.2 q.2 ≠ 0 then cmpP p.2 q.2 else cmpPf A B
  | [], [] => 0
  | [], _ :: _ => -1
  | _ :: _, [] => 1
theorem cmpPm_f : ∀ A B : List (ByteArray × GV), cmpPm (A.map (·.1)) (A.map (·.2)) (B.map (·.1)) (B.map (·.2)) = cmpPf A B
  | [], [] => by simp [cmpPm, cmpPf, cmpI]
  | [], q :: B => by simp only [List.map_nil, List.map_cons]; rw [cmpPm_end (.inl rfl)]; simp only [cmpPf, cmpI]; rw [if_neg (by first | (simp; done) | (simp; omega)), if_pos (by first | (simp; done) | (simp; omega))]
  | p :: A, [] => by simp only [List.map_nil, List.map_cons]; rw [cmpPm_end (.inr rfl)]; simp only [cmpPf, cmpI]; rw [if_pos (by first | (simp; done) | (simp; omega))]
  | p :: A, q :: B => by simp only [List.map_cons, cmpPm, cmpPf, cmpPm_f A B]
theorem cmpL_cmpPs {c : Tree → Tree → Int} : ∀ {l m : List Tree}, (∀ x ∈ l, ∀ y ∈ m, c x y = cmpP (fromT x) (fromT y)) → cmpL c l m = cmpPs (fromTs l) (fromTs m)
  | [], [], _ => by simp [cmpL, fromTs, cmpPs]
  | [], _ :: _, _ => by simp [cmpL, fromTs, cmpPs]
  | _ :: _, [], _ => by simp [cmpL, fromTs, cmpPs]
  | x :: l, y :: m, h => by
    simp only [cmpL, fromTs, cmpPs]
    rw [cmpL_cmpPs (l := l) (m := m) fun a ha b hb => h a (List.mem_cons_of_mem _ ha) b (List.mem_cons_of_mem _ hb), h x (List.mem_cons_self ..) y (List.mem_cons_self ..)]
def knows (m : List (ByteArray × Tree)) (V : List ByteArray) (A : List (ByteArray × GV)) : Prop := ∀ k ∈ V, (∀ g, (k, g) ∈ A → ∃ x, mget m k = some x ∧ (k, x) ∈ m ∧ g = fromT x) ∧ (k ∉ A.map (·.1) → mget m k = none)
theorem cmpKs_cmpPf {c : Tree → Tree → Int} {m1 m2 : List (ByteArray × Tree)} (hc : ∀ x ∈ m1, ∀ y ∈ m2, c x.2 y.2 = cmpP (fromT x.2) (fromT y.2)) :
    ∀ (V : List ByteArray) (A B : List (ByteArray × GV)) (i : Nat), Sorted A → Sorted B → V.Pairwise (fun a b => blt a b = true) → (∀ q, q ∈ V ↔ q ∈ A.map (·.1) ∨ q ∈ B.map (·.1)) → i + A.length = m1.length → i + B.length = m2.length → knows m1 V A → knows m2 V B → cmpKs c m1 m2 i V = cmpPf A B
  | [], A, B, i, _, _, _, hV, _, _, _, _ => by
    cases A with
    | nil => cases B with
      | nil => simp [cmpKs, cmpPf]
      | cons q B => have := (hV q.1).2 (.inr (by simp)); cases this
    | cons p A => have := (hV p.1).2 (.inl (by simp)); cases this
  | k0 :: V, A, B, i, sA, sB, sV, hV, hA, hB, kA, kB => by
    simp only [cmpKs]
    rw [List.pairwise_cons] at sV
    have h0 := (hV k0).1 (List.mem_cons_self ..)
    have one : ∀ r : Int, oneK c m1 m2 i k0 = r → r ≠ 0 → (if oneK c m1 m2 i k0 ≠ 0 then oneK c m1 m2 i k0 else cmpKs c m1 m2 (i + 1) V) = r := fun r e hr => by rw [e, if_pos hr]
    have least : ∀ q ∈ k0 :: V, q = k0 ∨ blt k0 q = true := fun q hq => by
      rcases List.mem_cons.1 hq with h | h
      · exact .inl h
      · exact .inr (sV.1 q h)
    cases A with
    | nil => cases B with
      | nil => simp at h0
      | cons q B =>
        refine one _ ?_ (by simp [cmpPf])
        unfold oneK; rw [if_pos (by simpa using hA)]; simp [cmpPf]
    | cons p A => cases B with
      | nil =>
        refine one _ ?_ (by simp [cmpPf])
        unfold oneK; rw [if_neg (by simp at hA; omega), if_pos (by simpa using hB)]; simp [cmpPf]
      | cons q B =>
        simp only [Sorted, List.map_cons, List.pairwise_cons] at sA sB
        simp only [List.length_cons] at hA hB
        have hn1 : ¬ i = m1.length := by omega
        have hn2 : ¬ i = m2.length := by omega
        have hp : p.1 ∈ k0 :: V := (hV p.1).2 (.inl (by simp))
        have hq : q.1 ∈ k0 :: V := (hV q.1).2 (.inr (by simp))
        have hk0 := List.mem_cons_self (a := k0) (l := V)
        rcases blt_tri p.1 q.1 with h | h | h
        ·
          have e : k0 = p.1 := by
            rcases least _ hp with e | e
            · exact e.symm
            · have : blt k0 q.1 = true := blt_trans e h
              rcases h0 with h0 | h0
              · simp only [List.map_cons, List.mem_cons] at h0
                rcases h0 with h0 | h0
                · exact h0
                · have := blt_trans (sA.1 _ h0) e; rw [blt_irrefl] at this; cases this
              · simp only [List.map_cons, List.mem_cons] at h0
                rcases h0 with h0 | h0
                · rw [h0, blt_irrefl] at this; cases this
                · have := blt_trans (sB.1 _ h0) this; rw [blt_irrefl] at this; cases this
          subst e
          obtain ⟨x, hx, _, _⟩ := (kA _ hk0).1 p.2 (by simp)
          have hy : mget m2 p.1 = none := (kB _ hk0).2 fun hm => by
            simp only [List.map_cons, List.mem_cons] at hm
            rcases hm with hm | hm
            · rw [hm, blt_irrefl] at h; cases h
            · have := blt_trans (sB.1 _ hm) h; rw [blt_irrefl] at this; cases this
          have hr : cmpPf (p :: A) (q :: B) = -1 := by simp [cmpPf, cmpS_lt h]
          rw [hr]
          refine one _ ?_ (by decide)
          unfold oneK; rw [if_neg hn1, if_neg hn2, hx, hy]
        ·
          have e : k0 = p.1 := by
            rcases least _ hp with e | e
            · exact e.symm
            · rcases h0 with h0 | h0
              · simp only [List.map_cons, List.mem_cons] at h0
                rcases h0 with h0 | h0
                · exact h0
                · have := blt_trans (sA.1 _ h0) e; rw [blt_irrefl] at this; cases this
              · simp only [List.map_cons, List.mem_cons] at h0
                rcases h0 with h0 | h0
                · rw [h0, h]
                · have := blt_trans (sB.1 _ h0) (h ▸ e); rw [blt_irrefl] at this; cases this
          subst e
          obtain ⟨x, hx, hxm, ex⟩ := (kA _ hk0).1 p.2 (by simp)
          obtain ⟨y, hy, hym, ey⟩ := (kB _ hk0).1 q.2 (by rw [h]; simp)
          have ho : oneK c m1 m2 i p.1 = cmpP p.2 q.2 := by
            unfold oneK; rw [if_neg hn1, if_neg hn2, hx, hy, ex, ey]
            exact hc _ hxm _ hym
          rw [ho]
          have hr : cmpPf (p :: A) (q :: B) = if cmpP p.2 q.2 ≠ 0 then cmpP p.2 q.2 else cmpPf A B := by simp only [cmpPf, ← h, cmpS_self]; simp
          rw [hr]
          by_cases hz : cmpP p.2 q.2 = 0
          · rw [if_neg (by simpa using hz), if_neg (by simpa using hz)]
            have hgt : ∀ k ∈ V, k ≠ p.1 := fun k hk e => by have := sV.1 k hk; rw [e, blt_irrefl] at this; cases this
            refine cmpKs_cmpPf hc V A B (i + 1) sA.2 sB.2 sV.2 (fun r => ?_) (by omega) (by omega) (fun k hk => ?_) fun k hk => ?_
            · constructor
              · intro hr
                have := (hV r).1 (List.mem_cons_of_mem _ hr)
                simp only [List.map_cons, List.mem_cons] at this
                rcases this with (h1 | h1) | (h1 | h1)
                · exact absurd h1 (hgt r hr)
                · exact .inl h1
                · exact absurd (h1.trans h.symm) (hgt r hr)
                · exact .inr h1
              · intro hr
                have : r ∈ p.1 :: V := (hV r).2 (by rcases hr with h1 | h1; exact .inl (by simp [h1]); exact .inr (by simp [h1]))
                rcases List.mem_cons.1 this with e | h1
                · rcases hr with h2 | h2
                  · have := sA.1 r h2; rw [e, blt_irrefl] at this; cases this
                  · have := sB.1 r h2; rw [e, h, blt_irrefl] at this; cases this
                · exact h1
            · obtain ⟨a1, a2⟩ := kA k (List.mem_cons_of_mem _ hk)
              exact ⟨fun g hg => a1 g (List.mem_cons_of_mem _ hg), fun hn => a2 fun hm => by
                simp only [List.map_cons, List.mem_cons] at hm
                rcases hm with hm | hm
                · exact hgt k hk hm
                · exact hn hm⟩
            · obtain ⟨a1, a2⟩ := kB k (List.mem_cons_of_mem _ hk)
              exact ⟨fun g hg => a1 g (List.mem_cons_of_mem _ hg), fun hn => a2 fun hm => by
                simp only [List.map_cons, List.mem_cons] at hm
                rcases hm with hm | hm
                · exact hgt k hk (hm.trans h.symm)
                · exact hn hm⟩
          · rw [if_pos hz, if_pos hz]
        ·
          have e : k0 = q.1 := by
            rcases least _ hq with e | e
            · exact e.symm
            · have : blt k0 p.1 = true := blt_trans e h
              rcases h0 with h0 | h0
              · simp only [List.map_cons, List.mem_cons] at h0
                rcases h0 with h0 | h0
                · rw [h0, blt_irrefl] at this; cases this
                · have := blt_trans (sA.1 _ h0) this; rw [blt_irrefl] at this; cases this
              · simp only [List.map_cons, List.mem_cons] at h0
                rcases h0 with h0 | h0
                · exact h0
                · have := blt_trans (sB.1 _ h0) e; rw [blt_irrefl] at this; cases this
          subst e
          have hx : mget m1 q.1 = none := (kA _ hk0).2 fun hm => by
            simp only [List.map_cons, List.mem_cons] at hm
            rcases hm with hm | hm
            · rw [hm, blt_irrefl] at h; cases h
            · have := blt_trans (sA.1 _ hm) h; rw [blt_irrefl] at this; cases this
          have hr : cmpPf (p :: A) (q :: B) = 1 := by simp [cmpPf, cmpS_gt h]
          rw [hr]
          refine one _ ?_ (by decide)
          unfold oneK; rw [if_neg hn1, if_neg hn2, hx]
theorem knows_from {m : List (ByteArray × Tree)} (hn : (m.map (·.1)).Nodup) (V : List ByteArray) : knows m V (fromMs m) := fun k _ =>
  ⟨fun g hg => by
    obtain ⟨t, ht, e⟩ := fromMs_mem hg
    exact ⟨t, mget_of_mem hn ht, ht, e⟩, fun hk => mget_none fun h => hk ((fromMs_keys k m).2 h)⟩
theorem fromMs_len {m : List (ByteArray × Tree)} (hn : (m.map (·.1)).Nodup) : (fromMs m).length = m.length := by
  have := nodup_perm (sorted_nodup (fromMs_sorted m)) hn fun q => fromMs_keys q m
  rwa [List.length_map, List.length_map] at this
theorem cmpF_cmpP : ∀ (n : Nat) (x y : Tree), dep x ≤ n → Fits x → Fits y → cmpF n x y = cmpP (fromT x) (fromT y)
  | 0, x, y, h, _, _ => by have := dep_pos x; omega
  | n + 1, x, y, h, hx, hy => by
    unfold cmpF
    cases x <;> cases y <;> simp only [cmpT, fromT, mkMap, cmpP] <;> (try (simp [rkV, cmpI, asF, cmpS]; done))
    case bool.bool a b => cases a <;> cases b <;> simp [rkV, cmpI, cmpB]
    case list.list l m =>
      simp only [Fits] at hx hy
      simp only [dep] at h
      rw [cmpL_cmpPs fun a ha b hb => cmpF_cmpP n a b (by have := depL_mem ha; omega) (hx.2.mem a ha) (hy.2.mem b hb)]
      simp [rkV, cmpI]
    case map.map l m =>
      simp only [Fits] at hx hy
      simp only [dep] at h
      have hu := uKeys_is l m (union_exists l m)
      rw [cmpKs_cmpPf (fun a ha b hb => cmpF_cmpP n a.2 b.2 (by have := depM_mem ha; omega) (hx.2.2.mem a ha) (hy.2.2.mem b hb)) (uKeys l m) (fromMs l) (fromMs m) 0 (fromMs_sorted l) (fromMs_sorted m) hu.1
        (fun q => by rw [hu.2 q, fromMs_keys, fromMs_keys]) (by rw [fromMs_len hx.2.1]; omega) (by rw [fromMs_len hy.2.1]; omega) (knows_from hx.2.1 _) (knows_from hy.2.1 _), ← cmpPm_f]
      simp [rkV, cmpI]
theorem cmpV_spec (a b : GV) (ha : Fits (treeOf a)) (hb : Fits (treeOf b)) : cmpV (treeOf a) (treeOf b) = cmpP (clean a) (clean b) := by
  unfold cmpV
  rw [cmpF_cmpP _ _ _ (Nat.le_refl _) ha hb, from_tree, from_tree]
theorem sCompareValues_a (a b : GV) : ACalls Tryz.prog 115 [gvA a, gvA b] (fun r => r = aI (cmpP (clean a) (clean b))) := by
  refine acalls_ex [(1, ([3, 4], [(0, []), (2, []), (1, []), (3, []), (4, []), (5, [])]))] Tryz.func115 (by kernel_rfl) rfl Tryz.ntmps115 Tryz.results115 (Nat.le_of_ble_eq_true (by kernel_rfl)) ?_; intro hok w0 S0
  clear hok
  have h := cmpP_a _ _ (okP_clean a) (okP_clean b)
  (repeat' (first | (with_reducible refine br_d (fun _ => ?_) (fun _ => ?_)) | (with_reducible refine br_i (fun _ => ?_) (fun _ => ?_)) | (with_reducible refine nd_v (clean_a _) (by first | rfl | (simp -dsimp; done)) ?_) | (with_reducible refine nw_v (clean_a _) rfl (by first | rfl | (simp -dsimp; done)) (by first | rfl | (simp -dsimp; done)) ?_) | (with_reducible refine nd_v (h) (by first | rfl | (simp -dsimp; done)) ?_) | (with_reducible refine nw_v (h) rfl (by first | rfl | (simp -dsimp; done)) (by first | rfl | (simp -dsimp; done)) ?_) | (with_reducible refine dn_i follows_any (by kernel_rfl) ?_) | (with_reducible exact done_eq rfl) | (simp -dsimp))); (all_goals try with_reducible refine done_eq ?_)
end Go.Smd
end
