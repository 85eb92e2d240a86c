/- Values compared and held equal, at any depth; where they are orderly, both say the same. -/
import Derived.Test.YtphldfnnjoehpaaVk
import Derived.Test.YtphldfnnjoehpaaFit
set_option linter.unusedSimpArgs false
set_option maxRecDepth 100000
set_option maxHeartbeats 8000000
namespace Go.Smd
open Go.RowKit Go.Proofs

/-! ### Depth -/
mutual
def dep : Tree → Nat
  | .list l => depL l + 1
  | .map m => depM m + 1
  | _ => 1
def depL : List Tree → Nat
  | [] => 0
  | x :: l => max (dep x) (depL l)
def depM : List (ByteArray × Tree) → Nat
  | [] => 0
  | p :: m => max (dep p.2) (depM m)
end
theorem depL_mem : ∀ {l : List Tree} {x : Tree}, x ∈ l → dep x ≤ depL l
  | [], _, h => by cases h
  | y :: l, x, h => by
    simp only [depL]
    rcases List.mem_cons.1 h with rfl | h
    · exact Nat.le_max_left _ _
    · exact Nat.le_trans (depL_mem h) (Nat.le_max_right _ _)
theorem depM_mem : ∀ {m : List (ByteArray × Tree)} {p : ByteArray × Tree}, p ∈ m → dep p.2 ≤ depM m
  | [], _, h => by cases h
  | y :: l, x, h => by
    simp only [depM]
    rcases List.mem_cons.1 h with rfl | h
    · exact Nat.le_max_left _ _
    · exact Nat.le_trans (depM_mem h) (Nat.le_max_right _ _)
theorem dep_pos (x : Tree) : 1 ≤ dep x := by cases x <;> simp [dep]
/-! ### Two maps' keys -/
noncomputable def uKeys (m1 m2 : List (ByteArray × Tree)) : List ByteArray := open Classical in if h : ∃ ss, unionKeys m1 m2 ss then Classical.choose h else []
theorem uKeys_eq {m1 m2 : List (ByteArray × Tree)} {ss : List ByteArray} (h : unionKeys m1 m2 ss) : ss = uKeys m1 m2 := by
  have hx : ∃ ss, unionKeys m1 m2 ss := ⟨ss, h⟩
  unfold uKeys
  rw [dif_pos hx]
  have k := Classical.choose_spec hx
  exact sorted_eq h.1 k.1 fun q => by rw [h.2 q, k.2 q]
/-! ### Compared, held equal -/
noncomputable def cmpF : Nat → Tree → Tree → Int
  | 0, _, _ => 0
  | n + 1, x, y => cmpT (cmpL (cmpF n)) (fun a b => cmpKs (cmpF n) a b 0 (uKeys a b)) x y
def eqF : Nat → Tree → Tree → Bool
  | 0, _, _ => false
  | n + 1, x, y => eqT (eqL (eqF n)) (eqMap (eqF n)) x y
theorem compare_a : ∀ (n : Nat) (x y : Tree), dep x ≤ n → Fits x → Fits y → ACalls Try.prog fCompareUsing [aAlloc, .c (.d (dV x)), .c (.d (dV y))] (fun r => r = aV (.int .i64 (cmpF n x y)))
  | 0, x, y, h, _, _ => by have := dep_pos x; omega
  | n + 1, x, y, h, hx, hy => by
    refine compareKinds_a (cmpL (cmpF n)) (fun a b => cmpKs (cmpF n) a b 0 (uKeys a b)) x y (fun l m e1 e2 => ?_) fun l m e1 e2 => ?_
    · subst e1; subst e2
      simp only [Fits] at hx hy
      simp only [dep] at h
      exact listCompareUsing_a _ l m (by omega) (by omega) fun a ha b hb => compare_a n a b (by have := depL_mem ha; omega) (hx.2.mem a ha) (hy.2.mem b hb)
    · subst e1; subst e2
      simp only [Fits] at hx hy
      simp only [dep] at h
      refine (mapCompareUsing_a (cmpF n) l m hx.2.1 hy.2.1 (by omega) fun a ha b hb => compare_a n a.2 b.2 (by have := depM_mem ha; omega) (hx.2.2.mem a ha) (hy.2.2.mem b hb)).mono ?_
      rintro r ⟨ss, hss, rfl⟩
      rw [uKeys_eq hss]
theorem equals_a : ∀ (n : Nat) (x y : Tree), dep x ≤ n → Fits x → Fits y → ACalls Try.prog fEqualsUsing [aAlloc, .c (.d (dV x)), .c (.d (dV y))] (fun r => r = aV (.bool (eqF n x y)))
  | 0, x, y, h, _, _ => by have := dep_pos x; omega
  | n + 1, x, y, h, hx, hy => by
    refine equalsKinds_a (eqL (eqF n)) (eqMap (eqF n)) x y (fun l m e1 e2 => ?_) fun l m e1 e2 => ?_
    · subst e1; subst e2
      simp only [Fits] at hx hy
      simp only [dep] at h
      exact listEqU_a _ l m (by omega) (by omega) fun a ha b hb => equals_a n a b (by have := depL_mem ha; omega) (hx.2.mem a ha) (hy.2.mem b hb)
    · subst e1; subst e2
      simp only [Fits] at hx hy
      simp only [dep] at h
      exact mapEqU_a (eqF n) l m hx.2.1 hy.2.1 (by omega) fun a ha b hb => equals_a n a.2 b.2 (by have := depM_mem ha; omega) (hx.2.2.mem a ha) (hy.2.2.mem b hb)
/-! ### Orderly trees -/
mutual
def ordT : Tree → Prop
  | .float f => ford f f = some .eq
  | .list l => ordL l
  | .map m => ordM m
  | _ => True
def ordL : List Tree → Prop
  | [] => True
  | x :: l => ordT x ∧ ordL l
def ordM : List (ByteArray × Tree) → Prop
  | [] => True
  | p :: m => ordT p.2 ∧ ordM m
end
theorem ordM_mem : ∀ {m : List (ByteArray × Tree)}, ordM m → ∀ p ∈ m, ordT p.2
  | [], _, x, h => by cases h
  | y :: l, hf, x, h => by
    simp only [ordM] at hf
    rcases List.mem_cons.1 h with rfl | h
    · exact hf.1
    · exact ordM_mem hf.2 x h
theorem ordL_mem : ∀ {m : List Tree}, ordL m → ∀ p ∈ m, ordT p
  | [], _, x, h => by cases h
  | y :: l, hf, x, h => by
    simp only [ordL] at hf
    rcases List.mem_cons.1 h with rfl | h
    · exact hf.1
    · exact ordL_mem hf.2 x h
theorem cmpFl_zero {a b : Nat} (h : ∃ o, ford a b = some o) : cmpFl a b = 0 ↔ eqFl a b = true := by
  obtain ⟨o, h⟩ := h
  unfold cmpFl eqFl
  have h' : FloatKind.f64.format.order a b = some o := h
  rw [h']
  cases o <;> simp
theorem cmpBytes_zero : ∀ l m : List UInt8, Lib.compareBytes l m = 0 ↔ l = m
  | [], [] => by simp [Lib.compareBytes]
  | [], _ :: _ => by simp [Lib.compareBytes]
  | _ :: _, [] => by simp [Lib.compareBytes]
  | x :: l, y :: m => by
    have ih := cmpBytes_zero l m
    simp only [Lib.compareBytes, List.cons.injEq]
    by_cases h1 : x < y
    · have hne : x ≠ y := fun e => by subst e; exact absurd h1 (UInt8.lt_irrefl x)
      simp [h1, hne]
    · by_cases h2 : y < x
      · have hne : x ≠ y := fun e => by subst e; exact absurd h2 (UInt8.lt_irrefl x)
        simp [h1, h2, hne]
      · have he : x = y := by
          rw [UInt8.lt_iff_toNat_lt] at h1 h2
          exact UInt8.toNat_inj.1 (by omega)
        subst he
        simp [h1, ih]
theorem cmpL_zero {c : Tree → Tree → Int} {e : Tree → Tree → Bool} : ∀ {l m : List Tree}, (∀ x ∈ l, ∀ y ∈ m, (c x y = 0 ↔ e x y = true)) → (cmpL c l m = 0 ↔ eqL e l m = true)
  | [], [], _ => by simp [cmpL, eqL]
  | [], _ :: _, _ => by simp [cmpL, eqL]
  | _ :: _, [], _ => by simp [cmpL, eqL]
  | x :: l, y :: m, h => by
    have ih := cmpL_zero (l := l) (m := m) (c := c) (e := e) fun a ha b hb => h a (List.mem_cons_of_mem _ ha) b (List.mem_cons_of_mem _ hb)
    have h0 := h x (List.mem_cons_self ..) y (List.mem_cons_self ..)
    simp only [cmpL, eqL, Bool.and_eq_true]
    by_cases hc : c x y = 0
    · simp [hc, ih, h0.1 hc]
    · have : ¬ e x y = true := fun he => hc (h0.2 he)
      simp [hc, this]
/-- Two maps come to 0 where each key of the one is the other's, and what they have comes to 0. -/
theorem cmpKs_zero {c : Tree → Tree → Int} {m1 m2 : List (ByteArray × Tree)} : ∀ (ks : List ByteArray) (i : Nat), i + ks.length ≤ m1.length ∨ ¬ (∀ k ∈ ks, (mget m1 k).isSome = true ∧ (mget m2 k).isSome = true) → i + ks.length ≤ m2.length ∨ ¬ (∀ k ∈ ks, (mget m1 k).isSome = true ∧ (mget m2 k).isSome = true) →
    (cmpKs c m1 m2 i ks = 0 ↔ ∀ k ∈ ks, ∃ x y, mget m1 k = some x ∧ mget m2 k = some y ∧ c x y = 0)
  | [], i, _, _ => by simp [cmpKs]
  | k :: ks, i, h1, h2 => by
    by_cases hall : ∀ q ∈ k :: ks, (mget m1 q).isSome = true ∧ (mget m2 q).isSome = true
    · have l1 : i + (ks.length + 1) ≤ m1.length := by simpa using h1.resolve_right (fun h => h hall)
      have l2 : i + (ks.length + 1) ≤ m2.length := by simpa using h2.resolve_right (fun h => h hall)
      have ih := cmpKs_zero (c := c) (m1 := m1) (m2 := m2) ks (i + 1) (.inl (by omega)) (.inl (by omega))
      obtain ⟨x, hx⟩ := Option.isSome_iff_exists.1 (hall k (List.mem_cons_self ..)).1
      obtain ⟨y, hy⟩ := Option.isSome_iff_exists.1 (hall k (List.mem_cons_self ..)).2
      have ho : oneK c m1 m2 i k = c x y := by unfold oneK; rw [if_neg (by omega), if_neg (by omega), hx, hy]
      simp only [cmpKs, ho]
      by_cases hc : c x y = 0
      · simp only [hc, ne_eq, not_true_eq_false, if_false, ih, List.mem_cons, forall_eq_or_imp]
        exact ⟨fun h => ⟨⟨x, y, hx, hy, hc⟩, h⟩, fun h => h.2⟩
      · simp only [ne_eq, hc, not_false_eq_true, if_true, false_iff]
        intro h
        obtain ⟨x', y', hx', hy', h0⟩ := h k (List.mem_cons_self ..)
        rw [hx] at hx'; rw [hy] at hy'; cases hx'; cases hy'
        exact hc h0
    · have hno : ¬ ∀ q ∈ k :: ks, ∃ x y, mget m1 q = some x ∧ mget m2 q = some y ∧ c x y = 0 := fun h => hall fun q hq => by
        obtain ⟨x, y, hx, hy, _⟩ := h q hq
        simp [hx, hy]
      simp only [hno, iff_false]
      -- a key that one of them lacks, or one that is too many, is told
      by_cases hk : (mget m1 k).isSome = true ∧ (mget m2 k).isSome = true
      · have hrest : ¬ ∀ q ∈ ks, (mget m1 q).isSome = true ∧ (mget m2 q).isSome = true := fun h => hall fun q hq => by
          rcases List.mem_cons.1 hq with rfl | hq
          · exact hk
          · exact h q hq
        have ih := cmpKs_zero (c := c) (m1 := m1) (m2 := m2) ks (i + 1) (.inr hrest) (.inr hrest)
        simp only [cmpKs]
        by_cases ho : oneK c m1 m2 i k = 0
        · rw [if_neg (by simp [ho])]
          rw [ih]
          exact fun h => hrest fun q hq => by
            obtain ⟨x, y, hx, hy, _⟩ := h q hq
            simp [hx, hy]
        · rw [if_pos ho]; exact ho
      · simp only [cmpKs]
        have ho : oneK c m1 m2 i k ≠ 0 := by
          unfold oneK
          split
          · decide
          · split
            · decide
            · cases hx : mget m1 k with
              | none => simp
              | some x => cases hy : mget m2 k with
                | none => simp
                | some y => exact absurd ⟨by simp [hx], by simp [hy]⟩ hk
        rw [if_pos ho]; exact ho
theorem uKeys_is (m1 m2 : List (ByteArray × Tree)) (h : ∃ ss, unionKeys m1 m2 ss) : unionKeys m1 m2 (uKeys m1 m2) := by
  obtain ⟨ss, h⟩ := h
  rw [← uKeys_eq h]; exact h
theorem sorted_nodup {l : List ByteArray} (h : l.Pairwise fun a b => blt a b = true) : l.Nodup := h.imp fun h => blt_ne h
theorem nodup_le : ∀ {l m : List ByteArray}, l.Nodup → (∀ q ∈ l, q ∈ m) → l.length ≤ m.length
  | [], _, _, _ => Nat.zero_le _
  | x :: l, m, hn, h => by
    rw [List.nodup_cons] at hn
    have hx := h x (List.mem_cons_self ..)
    have h1 := nodup_le (l := l) (m := m.filter fun q => decide (q ≠ x)) hn.2 fun q hq => by
      have hne : q ≠ x := fun e => hn.1 (e ▸ hq)
      exact List.mem_filter.2 ⟨h q (List.mem_cons_of_mem _ hq), by simpa using hne⟩
    have h2 : (m.filter fun q => decide (q ≠ x)).length < m.length := List.length_filter_lt_length_iff_exists.2 ⟨x, hx, by simp⟩
    simp only [List.length_cons]; omega
theorem nodup_perm {l m : List ByteArray} (h1 : l.Nodup) (h2 : m.Nodup) (h : ∀ q, q ∈ l ↔ q ∈ m) : l.length = m.length :=
  Nat.le_antisymm (nodup_le h1 fun q hq => (h q).1 hq) (nodup_le h2 fun q hq => (h q).2 hq)
/-- Keys that differ, no more than there are, each of them the other's: they are all of them. -/
theorem nodup_onto {l m : List ByteArray} (h1 : l.Nodup) (hl : m.length ≤ l.length) (h : ∀ q ∈ l, q ∈ m) : ∀ q ∈ m, q ∈ l := fun q hq => by
  apply Classical.byContradiction
  intro hn
  have := nodup_le (l := q :: l) (m := m) (List.nodup_cons.2 ⟨hn, h1⟩) fun x hx => by
    rcases List.mem_cons.1 hx with rfl | hx
    · exact hq
    · exact h x hx
  simp only [List.length_cons] at this; omega
/-- Two sorted lists of keys are one. -/
theorem ins_exists (x : ByteArray) : ∀ ss : List ByteArray, ss.Pairwise (fun a b => blt a b = true) → ∃ s2 : List ByteArray, s2.Pairwise (fun a b => blt a b = true) ∧ ∀ q, q ∈ s2 ↔ q = x ∨ q ∈ ss
  | [], _ => ⟨[x], List.pairwise_singleton .., by simp⟩
  | y :: ss, h => by
    rw [List.pairwise_cons] at h
    rcases blt_tri x y with hb | rfl | hb
    · refine ⟨x :: y :: ss, List.pairwise_cons.2 ⟨fun q hq => ?_, List.pairwise_cons.2 h⟩, by simp⟩
      rcases List.mem_cons.1 hq with rfl | hq
      · exact hb
      · exact blt_trans hb (h.1 q hq)
    · exact ⟨x :: ss, List.pairwise_cons.2 h, by simp⟩
    · obtain ⟨s2, h1, h2⟩ := ins_exists x ss h.2
      refine ⟨y :: s2, List.pairwise_cons.2 ⟨fun q hq => ?_, h1⟩, fun q => ?_⟩
      · rcases (h2 q).1 hq with rfl | hq
        · exact hb
        · exact h.1 q hq
      · simp only [List.mem_cons, h2]
        constructor <;> rintro (h | h | h) <;> simp [h]
theorem sorted_exists (l : List ByteArray) : ∃ ss : List ByteArray, ss.Pairwise (fun a b => blt a b = true) ∧ ∀ q, q ∈ ss ↔ q ∈ l := by
  induction l with
  | nil => exact ⟨[], .nil, by simp⟩
  | cons x l ih =>
    obtain ⟨ss, h1, h2⟩ := ih
    obtain ⟨s2, h3, h4⟩ := ins_exists x ss h1
    exact ⟨s2, h3, fun q => by rw [h4, h2, List.mem_cons]⟩
theorem union_exists (m1 m2 : List (ByteArray × Tree)) : ∃ ss, unionKeys m1 m2 ss := by
  obtain ⟨ss, h1, h2⟩ := sorted_exists (m1.map (·.1) ++ m2.map (·.1))
  exact ⟨ss, h1, fun q => by rw [h2, List.mem_append]⟩
theorem cmpM_zero {c : Tree → Tree → Int} {e : Tree → Tree → Bool} {m1 m2 : List (ByteArray × Tree)} (hn1 : (m1.map (·.1)).Nodup) (hn2 : (m2.map (·.1)).Nodup) (h : ∀ x ∈ m1, ∀ y ∈ m2, (c x.2 y.2 = 0 ↔ e x.2 y.2 = true)) :
    cmpKs c m1 m2 0 (uKeys m1 m2) = 0 ↔ eqMap e m1 m2 = true := by
  have hu := uKeys_is m1 m2 (union_exists m1 m2)
  have hun := sorted_nodup hu.1
  have hk : ∀ (m : List (ByteArray × Tree)) (k : ByteArray), (mget m k).isSome = true ↔ k ∈ m.map (·.1) := fun m k => ⟨fun h => by
    obtain ⟨t, ht⟩ := Option.isSome_iff_exists.1 h
    exact List.mem_map_of_mem (mget_mem ht), mget_some⟩
  have len : ∀ m : List (ByteArray × Tree), (∀ k ∈ uKeys m1 m2, k ∈ m.map (·.1)) → (uKeys m1 m2).length ≤ m.length := fun m h => by
    have := nodup_le hun h
    rwa [List.length_map] at this
  rw [cmpKs_zero (uKeys m1 m2) 0]
  · unfold eqMap eqM
    simp only [Bool.and_eq_true, decide_eq_true_eq, List.all_eq_true]
    constructor
    · intro hz
      have s1 : ∀ k ∈ uKeys m1 m2, k ∈ m1.map (·.1) := fun k hk' => by obtain ⟨x, y, hx, _, _⟩ := hz k hk'; exact (hk m1 k).1 (by rw [hx]; rfl)
      have s2 : ∀ k ∈ uKeys m1 m2, k ∈ m2.map (·.1) := fun k hk' => by obtain ⟨x, y, _, hy, _⟩ := hz k hk'; exact (hk m2 k).1 (by rw [hy]; rfl)
      have e1 := nodup_perm hun hn1 fun q => ⟨s1 q, fun hq => (hu.2 q).2 (.inl hq)⟩
      have e2 := nodup_perm hun hn2 fun q => ⟨s2 q, fun hq => (hu.2 q).2 (.inr hq)⟩
      rw [List.length_map] at e1 e2
      refine ⟨by omega, fun p hp => ?_⟩
      obtain ⟨x, y, hx, hy, hc⟩ := hz p.1 ((hu.2 p.1).2 (.inr (List.mem_map_of_mem hp)))
      have hp' := mget_of_mem hn2 (k := p.1) (v := p.2) hp
      rw [hy] at hp'; cases hp'
      unfold eqK; rw [hx]
      exact (h (p.1, x) (mget_mem hx) p hp).1 hc
    · rintro ⟨hl, hall⟩ k hk'
      have sub : ∀ q ∈ m2.map (·.1), q ∈ m1.map (·.1) := fun q hq => by
        obtain ⟨p, hp, rfl⟩ := List.mem_map.1 hq
        have := hall p hp
        unfold eqK at this
        split at this
        · next x hx => exact (hk m1 p.1).1 (by rw [hx]; rfl)
        · cases this
      have sup := nodup_onto hn2 (by simp; omega) sub
      have hk2 : k ∈ m2.map (·.1) := by
        rcases (hu.2 k).1 hk' with h1 | h1
        · exact sup k h1
        · exact h1
      obtain ⟨y, hy⟩ := Option.isSome_iff_exists.1 ((hk m2 k).2 hk2)
      have := hall _ (mget_mem hy)
      unfold eqK at this
      split at this
      · next x hx => exact ⟨x, y, hx, hy, (h (k, x) (mget_mem hx) (k, y) (mget_mem hy)).2 this⟩
      · cases this
  · by_cases ha : ∀ k ∈ uKeys m1 m2, (mget m1 k).isSome = true ∧ (mget m2 k).isSome = true
    · exact .inl (by have := len m1 fun k hk' => (hk m1 k).1 (ha k hk').1; omega)
    · exact .inr ha
  · by_cases ha : ∀ k ∈ uKeys m1 m2, (mget m1 k).isSome = true ∧ (mget m2 k).isSome = true
    · exact .inl (by have := len m2 fun k hk' => (hk m2 k).1 (ha k hk').2; omega)
    · exact .inr ha
theorem int_num (n : Int) : ∀ {f : Nat}, ford f f = some .eq → (∃ o, ford (toFl n) f = some o) ∧ ∃ o, ford f (toFl n) = some o := fun h =>
  ⟨ford_some (nearest_num n) (nan_self h), ford_some (nan_self h) (nearest_num n)⟩
/-- Orderly values come to 0 just where they are equal. -/
theorem cmp_eq : ∀ (n : Nat) (x y : Tree), dep x ≤ n → Fits x → Fits y → ordT x → ordT y → (cmpF n x y = 0 ↔ eqF n x y = true)
  | 0, x, y, h, _, _, _, _ => by have := dep_pos x; omega
  | n + 1, x, y, h, hx, hy, ox, oy => by
    unfold cmpF eqF
    cases x <;> cases y <;> simp only [cmpT, eqT] <;> (try (simp; done))
    case float.float a b => exact cmpFl_zero (ford_some (nan_self ox) (nan_self oy))
    case float.int a b => exact cmpFl_zero (int_num b ox).2
    case int.float a b => exact cmpFl_zero (int_num a oy).1
    case int.int a b => unfold cmpI; rw [decide_eq_true_eq]; split <;> (try split) <;> omega
    case bool.bool a b => cases a <;> cases b <;> simp [cmpB]
    case str.str a b =>
      rw [cmpBytes_zero, decide_eq_true_eq]
      exact ⟨fun h => by cases a; cases b; simp only [Array.toList_inj] at h; subst h; rfl, fun h => by rw [h]⟩
    case list.list l m =>
      simp only [Fits] at hx hy
      simp only [dep] at h
      exact cmpL_zero fun a ha b hb => cmp_eq n a b (by have := depL_mem ha; omega) (hx.2.mem a ha) (hy.2.mem b hb) (ordL_mem ox a ha) (ordL_mem oy b hb)
    case map.map l m =>
      simp only [Fits] at hx hy
      simp only [dep] at h
      exact cmpM_zero hx.2.1 hy.2.1 fun a ha b hb => cmp_eq n a.2 b.2 (by have := depM_mem ha; omega) (hx.2.2.mem a ha) (hy.2.2.mem b hb) (ordM_mem ox a ha) (ordM_mem oy b hb)
theorem eqL_self {e : Tree → Tree → Bool} : ∀ {l : List Tree}, (∀ x ∈ l, e x x = true) → eqL e l l = true
  | [], _ => rfl
  | x :: l, h => by simp only [eqL, h x (List.mem_cons_self ..), Bool.true_and]; exact eqL_self fun y hy => h y (List.mem_cons_of_mem _ hy)
theorem eq_self_t : ∀ (n : Nat) (x : Tree), dep x ≤ n → Fits x → ordT x → eqF n x x = true
  | 0, x, h, _, _ => by have := dep_pos x; omega
  | n + 1, x, h, hx, ox => by
    unfold eqF
    cases x <;> simp only [eqT] <;> (try (simp; done))
    case float a => unfold eqFl; simp only [ordT, ford] at ox; rw [ox]; rfl
    case list l =>
      simp only [Fits] at hx
      simp only [dep] at h
      exact eqL_self fun a ha => eq_self_t n a (by have := depL_mem ha; omega) (hx.2.mem a ha) (ordL_mem ox a ha)
    case map m =>
      simp only [Fits] at hx
      simp only [dep] at h
      unfold eqMap eqM
      simp only [decide_true, Bool.true_and, List.all_eq_true]
      intro p hp
      unfold eqK
      rw [mget_of_mem hx.2.1 hp]
      exact eq_self_t n p.2 (by have := depM_mem hp; omega) (hx.2.2.mem p hp) (ordM_mem ox p hp)
end Go.Smd
