/- Part 23 of the proof: Eq. -/
import Derived.Test.YtannholebjdckaaGreatQZ22
set_option linter.unusedVariables false
section
set_option linter.unusedSimpArgs false
set_option maxRecDepth 100000
set_option maxHeartbeats 8000000
namespace Go.Smd
open Go.RowKit Go.Proofs
def numK (k : Int) : Bool := decide (k = 2) || decide (k = 3)
def asF (k n : Int) (f : Nat) : Nat := if k = 2 then toFl n else f
mutual
def eqP : GV → GV → Bool
  | .mk k n f s ks l, .mk k' n' f' s' ks' l' =>
    if numK k = true ∧ numK k' = true then (if k = 2 ∧ k' = 2 then decide (n = n') else eqFl (asF k n f) (asF k' n' f'))
    else decide (k = k') && decide (n = n') && decide (s = s') && decide (ks = ks') && decide (l.length = l'.length) && eqPs l l'
def eqPs : List GV → List GV → Bool
  | x :: l, y :: l' => eqP x y && eqPs l l'
  | _, _ => true
end
abbrev gvX (k n : Int) (f : Nat) (s : ByteArray) (ks : List ByteArray) (l : List GV) : Av := .agg [.d (dI k), .d (dI n), .d (dF f), .d (dS s), .d (dStrs ks), .d (dGVs l)]
theorem gvA_x (k n : Int) (f : Nat) (s : ByteArray) (ks : List ByteArray) (l : List GV) : gvA (.mk k n f s ks l) = gvX k n f s ks l := by simp only [gvA, gvD_mk, cls_cons, cls_nil]
theorem eqPs_iff : ∀ {l m : List GV}, l.length = m.length → (eqPs l m = true ↔ ∀ (i : Nat) (x y : GV), l[i]? = some x → m[i]? = some y → eqP x y = true)
  | [], [], _ => by simp [eqPs]
  | [], _ :: _, h => by simp at h
  | _ :: _, [], h => by simp at h
  | a :: l, b :: m, h => by
    simp only [eqPs, Bool.and_eq_true]
    rw [eqPs_iff (l := l) (m := m) (by simpa using h)]
    constructor
    · rintro ⟨h1, h2⟩ i x y hx hy
      cases i with
      | zero => simp at hx hy; subst hx; subst hy; exact h1
      | succ i => exact h2 i x y (by simpa using hx) (by simpa using hy)
    · intro h1
      exact ⟨h1 0 a b rfl rfl, fun i x y hx hy => h1 (i + 1) x y (by simpa using hx) (by simpa using hy)⟩
theorem fromMs_of {k : ByteArray} {t : Tree} : ∀ {m : List (ByteArray × Tree)}, (m.map (·.1)).Nodup → (k, t) ∈ m → (k, fromT t) ∈ fromMs m
  | [], _, h => by cases h
  | p :: m, hn, h => by
    simp only [List.map_cons, List.nodup_cons] at hn
    simp only [fromMs]
    rw [sIns_mem_iff (fromMs_sorted m)]
    rcases List.mem_cons.1 h with rfl | h
    · exact .inl rfl
    · exact .inr ⟨fromMs_of hn.2 h, fun e => hn.1 (e ▸ List.mem_map_of_mem h)⟩
theorem eqL_eqPs {e : Tree → Tree → Bool} : ∀ {l m : List Tree}, (∀ x ∈ l, ∀ y ∈ m, e x y = eqP (fromT x) (fromT y)) → eqL e l m = (decide (l.length = m.length) && eqPs (fromTs l) (fromTs m))
  | [], [], _ => by simp [eqL, fromTs, eqPs]
  | [], _ :: _, _ => by simp [eqL]
  | _ :: _, [], _ => by simp [eqL]
  | x :: l, y :: m, h => by
    simp only [eqL, fromTs, eqPs]
    rw [eqL_eqPs (l := l) (m := m) fun a ha b hb => h a (List.mem_cons_of_mem _ ha) b (List.mem_cons_of_mem _ hb), h x (List.mem_cons_self ..) y (List.mem_cons_self ..)]
    simp only [List.length_cons, Nat.succ_eq_add_one, Nat.add_right_cancel_iff]
    cases decide (l.length = m.length) <;> simp
theorem eqMap_eqP {e : Tree → Tree → Bool} {m1 m2 : List (ByteArray × Tree)} (hn1 : (m1.map (·.1)).Nodup) (hn2 : (m2.map (·.1)).Nodup) (h : ∀ x ∈ m1, ∀ y ∈ m2, e x.2 y.2 = eqP (fromT x.2) (fromT y.2)) :
    eqMap e m1 m2 = (decide ((fromMs m1).map (·.1) = (fromMs m2).map (·.1)) && decide (((fromMs m1).map (·.2)).length = ((fromMs m2).map (·.2)).length) && eqPs ((fromMs m1).map (·.2)) ((fromMs m2).map (·.2))) := by
  have s1 := fromMs_sorted m1
  have s2 := fromMs_sorted m2
  have l1 : (fromMs m1).length = m1.length := by
    have := nodup_perm (sorted_nodup s1) hn1 fun q => fromMs_keys q m1
    rwa [List.length_map, List.length_map] at this
  have l2 : (fromMs m2).length = m2.length := by
    have := nodup_perm (sorted_nodup s2) hn2 fun q => fromMs_keys q m2
    rwa [List.length_map, List.length_map] at this
  rw [Bool.eq_iff_iff]
  unfold eqMap eqM
  simp only [Bool.and_eq_true, decide_eq_true_eq, List.all_eq_true, List.length_map, l1, l2]
  have at_ : ∀ (m : List (ByteArray × Tree)) (i : Nat) (k : ByteArray) (a : GV), (fromMs m)[i]? = some (k, a) → ∃ t, (k, t) ∈ m ∧ a = fromT t := fun m i k a hi => fromMs_mem (List.mem_of_getElem? hi)
  constructor
  · rintro ⟨hl, hall⟩
    have sub : ∀ q ∈ m2.map (·.1), q ∈ m1.map (·.1) := fun q hq => by
      obtain ⟨p, hp, rfl⟩ := List.mem_map.1 hq
      have := hall p hp
      unfold eqK at this
      split at this
      · next x hx => exact List.mem_map.2 ⟨_, mget_mem hx, rfl⟩
      · cases this
    have sup := nodup_onto hn2 (by simp; omega) sub
    have hk : (fromMs m1).map (·.1) = (fromMs m2).map (·.1) := sorted_eq s1 s2 fun q => by
      rw [fromMs_keys, fromMs_keys]; exact ⟨sup q, sub q⟩
    refine ⟨⟨hk, hl⟩, (eqPs_iff (by simp [l1, l2, hl])).2 fun i x y hx hy => ?_⟩
    rw [List.getElem?_map] at hx hy
    obtain ⟨⟨k, a⟩, ha, rfl⟩ := Option.map_eq_some_iff.1 hx
    obtain ⟨⟨k2, b⟩, hb, rfl⟩ := Option.map_eq_some_iff.1 hy
    have hkk : k = k2 := by
      have e1 : ((fromMs m1).map (·.1))[i]? = some k := by rw [List.getElem?_map, ha]; rfl
      have e2 : ((fromMs m2).map (·.1))[i]? = some k2 := by rw [List.getElem?_map, hb]; rfl
      rw [hk, e2] at e1; exact (Option.some.inj e1).symm
    subst hkk
    obtain ⟨t, ht, rfl⟩ := at_ m1 i k a ha
    obtain ⟨v, hv, rfl⟩ := at_ m2 i k b hb
    have := hall _ hv
    unfold eqK at this
    rw [mget_of_mem hn1 ht] at this
    exact (h _ ht _ hv).symm.trans this
  · rintro ⟨⟨hk, hl⟩, hps⟩
    have hps := (eqPs_iff (by simp [l1, l2, hl])).1 hps
    refine ⟨hl, fun p hp => ?_⟩
    have hb := fromMs_of hn2 (k := p.1) (t := p.2) hp
    obtain ⟨i, hi, hib⟩ := List.getElem_of_mem hb
    have hb' : (fromMs m2)[i]? = some (p.1, fromT p.2) := by rw [List.getElem?_eq_getElem hi, hib]
    have hi1 : i < (fromMs m1).length := by omega
    obtain ⟨⟨k, a⟩, hq⟩ : ∃ q, (fromMs m1)[i] = q := ⟨_, rfl⟩
    have ha' : (fromMs m1)[i]? = some (k, a) := by rw [List.getElem?_eq_getElem hi1, hq]
    have hkk : k = p.1 := by
      have e1 : ((fromMs m1).map (·.1))[i]? = some k := by rw [List.getElem?_map, ha']; rfl
      have e2 : ((fromMs m2).map (·.1))[i]? = some p.1 := by rw [List.getElem?_map, hb']; rfl
      rw [hk, e2] at e1; exact (Option.some.inj e1).symm
    subst hkk
    obtain ⟨t, ht, rfl⟩ := at_ m1 i p.1 a ha'
    unfold eqK
    rw [mget_of_mem hn1 ht]
    have := hps i (fromT t) (fromT p.2) (by rw [List.getElem?_map, ha']; rfl) (by rw [List.getElem?_map, hb']; rfl)
    exact (h _ ht _ hp).trans this
theorem eqF_eqP : ∀ (n : Nat) (x y : Tree), dep x ≤ n → Fits x → Fits y → eqF n x y = eqP (fromT x) (fromT y)
  | 0, x, y, h, _, _ => by have := dep_pos x; omega
  | n + 1, x, y, h, hx, hy => by
    unfold eqF
    cases x <;> cases y <;> simp only [eqT, fromT, mkMap, eqP] <;> (try (simp [numK, eqPs]; done))
    case float.float a b => simp [numK, asF]
    case float.int a b => simp [numK, asF]
    case int.float a b => simp [numK, asF]
    case bool.bool a b => cases a <;> cases b <;> simp [numK, eqPs]
    case list.list l m =>
      simp only [Fits] at hx hy
      simp only [dep] at h
      rw [eqL_eqPs fun a ha b hb => eqF_eqP n a b (by have := depL_mem ha; omega) (hx.2.mem a ha) (hy.2.mem b hb)]
      simp [numK, fromTs_eq]
    case map.map l m =>
      simp only [Fits] at hx hy
      simp only [dep] at h
      rw [eqMap_eqP hx.2.1 hy.2.1 fun a ha b hb => eqF_eqP n a.2 b.2 (by have := depM_mem ha; omega) (hx.2.2.mem a ha) (hy.2.2.mem b hb)]
      simp [numK]
theorem eqV_spec (a b : GV) (ha : Fits (treeOf a)) (hb : Fits (treeOf b)) : eqV (treeOf a) (treeOf b) = eqP (clean a) (clean b) := by
  unfold eqV
  rw [eqF_eqP _ _ _ (Nat.le_refl _) ha hb, from_tree, from_tree]
end Go.Smd
end
