/- Part 20 of the proof: Vl Specb Am At1 Zz. -/
import Derived.Test.YtannholebjdckaaQM19
import Derived.Test.YtannholebjdckaaQM03
import Derived.Test.YtannholebjdckaaQM13
set_option linter.unusedVariables false
section
set_option linter.unusedSimpArgs false
set_option maxRecDepth 100000
set_option maxHeartbeats 8000000
namespace Go.Smd
open Go.RowKit Go.Proofs
mutual
def dep : Tree → Nat
  | .list l => depL l + 1
  | .map m => depM m + 1
  | _ => 1
def depL : List Tree → Nat
  | [] => 0
  | x :: l => max (dep x) (depL l)
def depM : List (ByteArray × Tree) → Nat
  | [] => 0
  | p :: m => max (dep p.2) (depM m)
end
theorem depL_mem : ∀ {l : List Tree} {x : Tree}, x ∈ l → dep x ≤ depL l
  | [], _, h => by cases h
  | y :: l, x, h => by
    simp only [depL]
    rcases List.mem_cons.1 h with rfl | h
    · exact Nat.le_max_left _ _
    · exact Nat.le_trans (depL_mem h) (Nat.le_max_right _ _)
theorem depM_mem : ∀ {m : List (ByteArray × Tree)} {p : ByteArray × Tree}, p ∈ m → dep p.2 ≤ depM m
  | [], _, h => by cases h
  | y :: l, x, h => by
    simp only [depM]
    rcases List.mem_cons.1 h with rfl | h
    · exact Nat.le_max_left _ _
    · exact Nat.le_trans (depM_mem h) (Nat.le_max_right _ _)
theorem dep_pos (x : Tree) : 1 ≤ dep x := by cases x <;> simp [dep]
noncomputable def uKeys (m1 m2 : List (ByteArray × Tree)) : List ByteArray := open Classical in if h : ∃ ss, unionKeys m1 m2 ss then Classical.choose h else []
theorem uKeys_eq {m1 m2 : List (ByteArray × Tree)} {ss : List ByteArray} (h : unionKeys m1 m2 ss) : ss = uKeys m1 m2 := by
  have hx : ∃ ss, unionKeys m1 m2 ss := ⟨ss, h⟩
  unfold uKeys
  rw [dif_pos hx]
  have k := Classical.choose_spec hx
  exact sorted_eq h.1 k.1 fun q => by rw [h.2 q, k.2 q]
noncomputable def cmpF : Nat → Tree → Tree → Int
  | 0, _, _ => 0
  | n + 1, x, y => cmpT (cmpL (cmpF n)) (fun a b => cmpKs (cmpF n) a b 0 (uKeys a b)) x y
def eqF : Nat → Tree → Tree → Bool
  | 0, _, _ => false
  | n + 1, x, y => eqT (eqL (eqF n)) (eqMap (eqF n)) x y
theorem compare_a : ∀ (n : Nat) (x y : Tree), dep x ≤ n → Fits x → Fits y → ACalls Try.prog fCompareUsing [aAlloc, .c (.d (dV x)), .c (.d (dV y))] (fun r => r = aV (.int .i64 (cmpF n x y)))
  | 0, x, y, h, _, _ => by have := dep_pos x; omega
  | n + 1, x, y, h, hx, hy => by
    refine compareKinds_a (cmpL (cmpF n)) (fun a b => cmpKs (cmpF n) a b 0 (uKeys a b)) x y (fun l m e1 e2 => ?_) fun l m e1 e2 => ?_
    · subst e1; subst e2
      simp only [Fits] at hx hy
      simp only [dep] at h
      exact listCompareUsing_a _ l m (by omega) (by omega) fun a ha b hb => compare_a n a b (by have := depL_mem ha; omega) (hx.2.mem a ha) (hy.2.mem b hb)
    · subst e1; subst e2
      simp only [Fits] at hx hy
      simp only [dep] at h
      refine (mapCompareUsing_a (cmpF n) l m hx.2.1 hy.2.1 (by omega) fun a ha b hb => compare_a n a.2 b.2 (by have := depM_mem ha; omega) (hx.2.2.mem a ha) (hy.2.2.mem b hb)).mono ?_
      rintro r ⟨ss, hss, rfl⟩
      rw [uKeys_eq hss]
theorem equals_a : ∀ (n : Nat) (x y : Tree), dep x ≤ n → Fits x → Fits y → ACalls Try.prog fEqualsUsing [aAlloc, .c (.d (dV x)), .c (.d (dV y))] (fun r => r = aV (.bool (eqF n x y)))
  | 0, x, y, h, _, _ => by have := dep_pos x; omega
  | n + 1, x, y, h, hx, hy => by
    refine equalsKinds_a (eqL (eqF n)) (eqMap (eqF n)) x y (fun l m e1 e2 => ?_) fun l m e1 e2 => ?_
    · subst e1; subst e2
      simp only [Fits] at hx hy
      simp only [dep] at h
      exact listEqU_a _ l m (by omega) (by omega) fun a ha b hb => equals_a n a b (by have := depL_mem ha; omega) (hx.2.mem a ha) (hy.2.mem b hb)
    · subst e1; subst e2
      simp only [Fits] at hx hy
      simp only [dep] at h
      exact mapEqU_a (eqF n) l m hx.2.1 hy.2.1 (by omega) fun a ha b hb => equals_a n a.2 b.2 (by have := depM_mem ha; omega) (hx.2.2.mem a ha) (hy.2.2.mem b hb)
mutual
def ordT : Tree → Prop
  | .float f => ford f f = some .eq
  | .list l => ordL l
  | .map m => ordM m
  | _ => True
def ordL : List Tree → Prop
  | [] => True
  | x :: l => ordT x ∧ ordL l
def ordM : List (ByteArray × Tree) → Prop
  | [] => True
  | p :: m => ordT p.2 ∧ ordM m
end
theorem ordM_mem : ∀ {m : List (ByteArray × Tree)}, ordM m → ∀ p ∈ m, ordT p.2
  | [], _, x, h => by cases h
  | y :: l, hf, x, h => by
    simp only [ordM] at hf
    rcases List.mem_cons.1 h with rfl | h
    · exact hf.1
    · exact ordM_mem hf.2 x h
theorem ordL_mem : ∀ {m : List Tree}, ordL m → ∀ p ∈ m, ordT p
  | [], _, x, h => by cases h
  | y :: l, hf, x, h => by
    simp only [ordL] at hf
    rcases List.mem_cons.1 h with rfl | h
    · exact hf.1
    · exact ordL_mem hf.2 x h
theorem cmpFl_zero {a b : Nat} (h : ∃ o, ford a b = some o) : cmpFl a b = 0 ↔ eqFl a b = true := by
  obtain ⟨o, h⟩ := h
  unfold cmpFl eqFl
  have h' : FloatKind.f64.format.order a b = some o := h
  rw [h']
  cases o <;> simp
theorem cmpBytes_zero : ∀ l m : List UInt8, Lib.compareBytes l m = 0 ↔ l = m
  | [], [] => by simp [Lib.compareBytes]
  | [], _ :: _ => by simp [Lib.compareBytes]
  | _ :: _, [] => by simp [Lib.compareBytes]
  | x :: l, y :: m => by
    have ih := cmpBytes_zero l m
    simp only [Lib.compareBytes, List.cons.injEq]
    by_cases h1 : x < y
    · have hne : x ≠ y := fun e => by subst e; exact absurd h1 (UInt8.lt_irrefl x)
      simp [h1, hne]
    · by_cases h2 : y < x
      · have hne : x ≠ y := fun e => by subst e; exact absurd h2 (UInt8.lt_irrefl x)
        simp [h1, h2, hne]
      · have he : x = y := by
          rw [UInt8.lt_iff_toNat_lt] at h1 h2
          exact UInt8.toNat_inj.1 (by omega)
        subst he
        simp [h1, ih]
theorem cmpL_zero {c : Tree → Tree → Int} {e : Tree → Tree → Bool} : ∀ {l m : List Tree}, (∀ x ∈ l, ∀ y ∈ m, (c x y = 0 ↔ e x y = true)) → (cmpL c l m = 0 ↔ eqL e l m = true)
  | [], [], _ => by simp [cmpL, eqL]
  | [], _ :: _, _ => by simp [cmpL, eqL]
  | _ :: _, [], _ => by simp [cmpL, eqL]
  | x :: l, y :: m, h => by
    have ih := cmpL_zero (l := l) (m := m) (c := c) (e := e) fun a ha b hb => h a (List.mem_cons_of_mem _ ha) b (List.mem_cons_of_mem _ hb)
    have h0 := h x (List.mem_cons_self ..) y (List.mem_cons_self ..)
    simp only [cmpL, eqL, Bool.and_eq_true]
    by_cases hc : c x y = 0
    · simp [hc, ih, h0.1 hc]
    · have : ¬ e x y = true := fun he => hc (h0.2 he)
      simp [hc, this]
theorem cmpKs_zero {c : Tree → Tree → Int} {m1 m2 : List (ByteArray × Tree)} : ∀ (ks : List ByteArray) (i : Nat), i + ks.length ≤ m1.length ∨ ¬ (∀ k ∈ ks, (mget m1 k).isSome = true ∧ (mget m2 k).isSome = true) → i + ks.length ≤ m2.length ∨ ¬ (∀ k ∈ ks, (mget m1 k).isSome = true ∧ (mget m2 k).isSome = true) →
    (cmpKs c m1 m2 i ks = 0 ↔ ∀ k ∈ ks, ∃ x y, mget m1 k = some x ∧ mget m2 k = some y ∧ c x y = 0)
  | [], i, _, _ => by simp [cmpKs]
  | k :: ks, i, h1, h2 => by
    by_cases hall : ∀ q ∈ k :: ks, (mget m1 q).isSome = true ∧ (mget m2 q).isSome = true
    · have l1 : i + (ks.length + 1) ≤ m1.length := by simpa using h1.resolve_right (fun h => h hall)
      have l2 : i + (ks.length + 1) ≤ m2.length := by simpa using h2.resolve_right (fun h => h hall)
      have ih := cmpKs_zero (c := c) (m1 := m1) (m2 := m2) ks (i + 1) (.inl (by omega)) (.inl (by omega))
      obtain ⟨x, hx⟩ := Option.isSome_iff_exists.1 (hall k (List.mem_cons_self ..)).1
      obtain ⟨y, hy⟩ := Option.isSome_iff_exists.1 (hall k (List.mem_cons_self ..)).2
      have ho : oneK c m1 m2 i k = c x y := by unfold oneK; rw [if_neg (by omega), if_neg (by omega), hx, hy]
      simp only [cmpKs, ho]
      by_cases hc : c x y = 0
      · simp only [hc, ne_eq, not_true_eq_false, if_false, ih, List.mem_cons, forall_eq_or_imp]
        exact ⟨fun h => ⟨⟨x, y, hx, hy, hc⟩, h⟩, fun h => h.2⟩
      · simp only [ne_eq, hc, not_false_eq_true, if_true, false_iff]
        intro h
        obtain ⟨x', y', hx', hy', h0⟩ := h k (List.mem_cons_self ..)
        rw [hx] at hx'; rw [hy] at hy'; cases hx'; cases hy'
        exact hc h0
    · have hno : ¬ ∀ q ∈ k :: ks, ∃ x y, mget m1 q = some x ∧ mget m2 q = some y ∧ c x y = 0 := fun h => hall fun q hq => by
        obtain ⟨x, y, hx, hy, _⟩ := h q hq
        simp [hx, hy]
      simp only [hno, iff_false]
      by_cases hk : (mget m1 k).isSome = true ∧ (mget m2 k).isSome = true
      · have hrest : ¬ ∀ q ∈ ks, (mget m1 q).isSome = true ∧ (mget m2 q).isSome = true := fun h => hall fun q hq => by
          rcases List.mem_cons.1 hq with rfl | hq
          · exact hk
          · exact h q hq
        have ih := cmpKs_zero (c := c) (m1 := m1) (m2 := m2) ks (i + 1) (.inr hrest) (.inr hrest)
        simp only [cmpKs]
        by_cases ho : oneK c m1 m2 i k = 0
        · rw [if_neg (by simp [ho])]
          rw [ih]
          exact fun h => hrest fun q hq => by
            obtain ⟨x, y, hx, hy, _⟩ := h q hq
            simp [hx, hy]
        · rw [if_pos ho]; exact ho
      · simp only [cmpKs]
        have ho : oneK c m1 m2 i k ≠ 0 := by
          unfold oneK
          split
          · decide
          · split
            · decide
            · cases hx : mget m1 k with
              | none => simp
              | some x => cases hy : mget m2 k with
                | none => simp
                | some y => exact absurd ⟨by simp [hx], by simp [hy]⟩ hk
        rw [if_pos ho]; exact ho
theorem uKeys_is (m1 m2 : List (ByteArray × Tree)) (h : ∃ ss, unionKeys m1 m2 ss) : unionKeys m1 m2 (uKeys m1 m2) := by
  obtain ⟨ss, h⟩ := h
  rw [← uKeys_eq h]; exact h
theorem sorted_nodup {l : List ByteArray} (h : l.Pairwise fun a b => blt a b = true) : l.Nodup := h.imp fun h => blt_ne h
theorem nodup_le : ∀ {l m : List ByteArray}, l.Nodup → (∀ q ∈ l, q ∈ m) → l.length ≤ m.length
  | [], _, _, _ => Nat.zero_le _
  | x :: l, m, hn, h => by
    rw [List.nodup_cons] at hn
    have hx := h x (List.mem_cons_self ..)
    have h1 := nodup_le (l := l) (m := m.filter fun q => decide (q ≠ x)) hn.2 fun q hq => by
      have hne : q ≠ x := fun e => hn.1 (e ▸ hq)
      exact List.mem_filter.2 ⟨h q (List.mem_cons_of_mem _ hq), by simpa using hne⟩
    have h2 : (m.filter fun q => decide (q ≠ x)).length < m.length := List.length_filter_lt_length_iff_exists.2 ⟨x, hx, by simp⟩
    simp only [List.length_cons]; omega
theorem nodup_perm {l m : List ByteArray} (h1 : l.Nodup) (h2 : m.Nodup) (h : ∀ q, q ∈ l ↔ q ∈ m) : l.length = m.length :=
  Nat.le_antisymm (nodup_le h1 fun q hq => (h q).1 hq) (nodup_le h2 fun q hq => (h q).2 hq)
theorem nodup_onto {l m : List ByteArray} (h1 : l.Nodup) (hl : m.length ≤ l.length) (h : ∀ q ∈ l, q ∈ m) : ∀ q ∈ m, q ∈ l := fun q hq => by
  apply Classical.byContradiction
  intro hn
  have := nodup_le (l := q :: l) (m := m) (List.nodup_cons.2 ⟨hn, h1⟩) fun x hx => by
    rcases List.mem_cons.1 hx with rfl | hx
    · exact hq
    · exact h x hx
  simp only [List.length_cons] at this; omega
theorem ins_exists (x : ByteArray) : ∀ ss : List ByteArray, ss.Pairwise (fun a b => blt a b = true) → ∃ s2 : List ByteArray, s2.Pairwise (fun a b => blt a b = true) ∧ ∀ q, q ∈ s2 ↔ q = x ∨ q ∈ ss
  | [], _ => ⟨[x], List.pairwise_singleton .., by simp⟩
  | y :: ss, h => by
    rw [List.pairwise_cons] at h
    rcases blt_tri x y with hb | rfl | hb
    · refine ⟨x :: y :: ss, List.pairwise_cons.2 ⟨fun q hq => ?_, List.pairwise_cons.2 h⟩, by simp⟩
      rcases List.mem_cons.1 hq with rfl | hq
      · exact hb
      · exact blt_trans hb (h.1 q hq)
    · exact ⟨x :: ss, List.pairwise_cons.2 h, by simp⟩
    · obtain ⟨s2, h1, h2⟩ := ins_exists x ss h.2
      refine ⟨y :: s2, List.pairwise_cons.2 ⟨fun q hq => ?_, h1⟩, fun q => ?_⟩
      · rcases (h2 q).1 hq with rfl | hq
        · exact hb
        · exact h.1 q hq
      · simp only [List.mem_cons, h2]
        constructor <;> rintro (h | h | h) <;> simp [h]
theorem sorted_exists (l : List ByteArray) : ∃ ss : List ByteArray, ss.Pairwise (fun a b => blt a b = true) ∧ ∀ q, q ∈ ss ↔ q ∈ l := by
  induction l with
  | nil => exact ⟨[], .nil, by simp⟩
  | cons x l ih =>
    obtain ⟨ss, h1, h2⟩ := ih
    obtain ⟨s2, h3, h4⟩ := ins_exists x ss h1
    exact ⟨s2, h3, fun q => by rw [h4, h2, List.mem_cons]⟩
theorem union_exists (m1 m2 : List (ByteArray × Tree)) : ∃ ss, unionKeys m1 m2 ss := by
  obtain ⟨ss, h1, h2⟩ := sorted_exists (m1.map (·.1) ++ m2.map (·.1))
  exact ⟨ss, h1, fun q => by rw [h2, List.mem_append]⟩
theorem cmpM_zero {c : Tree → Tree → Int} {e : Tree → Tree → Bool} {m1 m2 : List (ByteArray × Tree)} (hn1 : (m1.map (·.1)).Nodup) (hn2 : (m2.map (·.1)).Nodup) (h : ∀ x ∈ m1, ∀ y ∈ m2, (c x.2 y.2 = 0 ↔ e x.2 y.2 = true)) :
    cmpKs c m1 m2 0 (uKeys m1 m2) = 0 ↔ eqMap e m1 m2 = true := by
  have hu := uKeys_is m1 m2 (union_exists m1 m2)
  have hun := sorted_nodup hu.1
  have hk : ∀ (m : List (ByteArray × Tree)) (k : ByteArray), (mget m k).isSome = true ↔ k ∈ m.map (·.1) := fun m k => ⟨fun h => by
    obtain ⟨t, ht⟩ := Option.isSome_iff_exists.1 h
    exact List.mem_map_of_mem (mget_mem ht), mget_some⟩
  have len : ∀ m : List (ByteArray × Tree), (∀ k ∈ uKeys m1 m2, k ∈ m.map (·.1)) → (uKeys m1 m2).length ≤ m.length := fun m h => by
    have := nodup_le hun h
    rwa [List.length_map] at this
  rw [cmpKs_zero (uKeys m1 m2) 0]
  · unfold eqMap eqM
    simp only [Bool.and_eq_true, decide_eq_true_eq, List.all_eq_true]
    constructor
    · intro hz
      have s1 : ∀ k ∈ uKeys m1 m2, k ∈ m1.map (·.1) := fun k hk' => by obtain ⟨x, y, hx, _, _⟩ := hz k hk'; exact (hk m1 k).1 (by rw [hx]; rfl)
      have s2 : ∀ k ∈ uKeys m1 m2, k ∈ m2.map (·.1) := fun k hk' => by obtain ⟨x, y, _, hy, _⟩ := hz k hk'; exact (hk m2 k).1 (by rw [hy]; rfl)
      have e1 := nodup_perm hun hn1 fun q => ⟨s1 q, fun hq => (hu.2 q).2 (.inl hq)⟩
      have e2 := nodup_perm hun hn2 fun q => ⟨s2 q, fun hq => (hu.2 q).2 (.inr hq)⟩
      rw [List.length_map] at e1 e2
      refine ⟨by omega, fun p hp => ?_⟩
      obtain ⟨x, y, hx, hy, hc⟩ := hz p.1 ((hu.2 p.1).2 (.inr (List.mem_map_of_mem hp)))
      have hp' := mget_of_mem hn2 (k := p.1) (v := p.2) hp
      rw [hy] at hp'; cases hp'
      unfold eqK; rw [hx]
      exact (h (p.1, x) (mget_mem hx) p hp).1 hc
    · rintro ⟨hl, hall⟩ k hk'
      have sub : ∀ q ∈ m2.map (·.1), q ∈ m1.map (·.1) := fun q hq => by
        obtain ⟨p, hp, rfl⟩ := List.mem_map.1 hq
        have := hall p hp
        unfold eqK at this
        split at this
        · next x hx => exact (hk m1 p.1).1 (by rw [hx]; rfl)
        · cases this
      have sup := nodup_onto hn2 (by simp; omega) sub
      have hk2 : k ∈ m2.map (·.1) := by
        rcases (hu.2 k).1 hk' with h1 | h1
        · exact sup k h1
        · exact h1
      obtain ⟨y, hy⟩ := Option.isSome_iff_exists.1 ((hk m2 k).2 hk2)
      have := hall _ (mget_mem hy)
      unfold eqK at this
      split at this
      · next x hx => exact ⟨x, y, hx, hy, (h (k, x) (mget_mem hx) (k, y) (mget_mem hy)).2 this⟩
      · cases this
  · by_cases ha : ∀ k ∈ uKeys m1 m2, (mget m1 k).isSome = true ∧ (mget m2 k).isSome = true
    · exact .inl (by have := len m1 fun k hk' => (hk m1 k).1 (ha k hk').1; omega)
    · exact .inr ha
  · by_cases ha : ∀ k ∈ uKeys m1 m2, (mget m1 k).isSome = true ∧ (mget m2 k).isSome = true
    · exact .inl (by have := len m2 fun k hk' => (hk m2 k).1 (ha k hk').2; omega)
    · exact .inr ha
theorem int_num (n : Int) : ∀ {f : Nat}, ford f f = some .eq → (∃ o, ford (toFl n) f = some o) ∧ ∃ o, ford f (toFl n) = some o := fun h =>
  ⟨ford_some (nearest_num n) (nan_self h), ford_some (nan_self h) (nearest_num n)⟩
theorem cmp_eq : ∀ (n : Nat) (x y : Tree), dep x ≤ n → Fits x → Fits y → ordT x → ordT y → (cmpF n x y = 0 ↔ eqF n x y = true)
  | 0, x, y, h, _, _, _, _ => by have := dep_pos x; omega
  | n + 1, x, y, h, hx, hy, ox, oy => by
    unfold cmpF eqF
    cases x <;> cases y <;> simp only [cmpT, eqT] <;> (try (simp; done))
    case float.float a b => exact cmpFl_zero (ford_some (nan_self ox) (nan_self oy))
    case float.int a b => exact cmpFl_zero (int_num b ox).2
    case int.float a b => exact cmpFl_zero (int_num a oy).1
    case int.int a b => unfold cmpI; rw [decide_eq_true_eq]; split <;> (try split) <;> omega
    case bool.bool a b => cases a <;> cases b <;> simp [cmpB]
    case str.str a b =>
      rw [cmpBytes_zero, decide_eq_true_eq]
      exact ⟨fun h => by cases a; cases b; simp only [Array.toList_inj] at h; subst h; rfl, fun h => by rw [h]⟩
    case list.list l m =>
      simp only [Fits] at hx hy
      simp only [dep] at h
      exact cmpL_zero fun a ha b hb => cmp_eq n a b (by have := depL_mem ha; omega) (hx.2.mem a ha) (hy.2.mem b hb) (ordL_mem ox a ha) (ordL_mem oy b hb)
    case map.map l m =>
      simp only [Fits] at hx hy
      simp only [dep] at h
      exact cmpM_zero hx.2.1 hy.2.1 fun a ha b hb => cmp_eq n a.2 b.2 (by have := depM_mem ha; omega) (hx.2.2.mem a ha) (hy.2.2.mem b hb) (ordM_mem ox a ha) (ordM_mem oy b hb)
theorem eqL_self {e : Tree → Tree → Bool} : ∀ {l : List Tree}, (∀ x ∈ l, e x x = true) → eqL e l l = true
  | [], _ => rfl
  | x :: l, h => by simp only [eqL, h x (List.mem_cons_self ..), Bool.true_and]; exact eqL_self fun y hy => h y (List.mem_cons_of_mem _ hy)
theorem eq_self_t : ∀ (n : Nat) (x : Tree), dep x ≤ n → Fits x → ordT x → eqF n x x = true
  | 0, x, h, _, _ => by have := dep_pos x; omega
  | n + 1, x, h, hx, ox => by
    unfold eqF
    cases x <;> simp only [eqT] <;> (try (simp; done))
    case float a => unfold eqFl; simp only [ordT, ford] at ox; rw [ox]; rfl
    case list l =>
      simp only [Fits] at hx
      simp only [dep] at h
      exact eqL_self fun a ha => eq_self_t n a (by have := depL_mem ha; omega) (hx.2.mem a ha) (ordL_mem ox a ha)
    case map m =>
      simp only [Fits] at hx
      simp only [dep] at h
      unfold eqMap eqM
      simp only [decide_true, Bool.true_and, List.all_eq_true]
      intro p hp
      unfold eqK
      rw [mget_of_mem hx.2.1 hp]
      exact eq_self_t n p.2 (by have := depM_mem hp; omega) (hx.2.2.mem p hp) (ordM_mem ox p hp)
end Go.Smd
end
section
set_option linter.unusedSimpArgs false
namespace Go.Smd
open Go.RowKit Go.Proofs
theorem leaf_rep (S : Nat → Prop) (w : World) {kind n : Int} {f : Nat} {s : ByteArray} (ok : GVok kind n f s [] []) : RepGV S w (.mk kind n f s [] []) [.int .i64 kind, .int .i64 n, .float .f64 f, .string s, .slice none 0 0, .slice none 0 0] :=
  RepGV.close (keys := []) (l := []) ok (Nat.zero_le _) (Nat.zero_le _) RowOf.nil RowOf.nil
set_option maxRecDepth 100000 in
set_option maxHeartbeats 2000000 in
theorem clean_c : ∀ v, CleanC v := by
  intro v
  induction v using GV.ind with
  | h kind n f s keys l IH =>
  intro cs w S hv
  obtain ⟨ka, kc, la, lc, rfl, ok, hkc, hlc, hks, hls⟩ := hv.open
  obtain ⟨nk, hnk⟩ : ∃ n, keys.length = n := ⟨_, rfl⟩
  obtain ⟨nl, hnl⟩ : ∃ n, l.length = n := ⟨_, rfl⟩
  have hn := ok.okN
  have hf := ok.okF
  have hs := ok.okS
  have h2 := ok.okL
  have HC : Hid (clean (.mk kind n f s keys l) = if kind = 1 then .mk 1 (if n = 0 then 0 else 1) 0 ⟨#[]⟩ [] [] else if kind = 2 then .mk 2 n 0 ⟨#[]⟩ [] [] else if kind = 3 then .mk 3 0 f ⟨#[]⟩ [] []
    else if kind = 4 then .mk 4 0 0 s [] [] else if kind = 5 then .mk 5 0 0 ⟨#[]⟩ [] (cleans l) else if kind = 6 then mkMap (insAll keys (cleans l) []) else .mk 0 0 0 ⟨#[]⟩ [] []) := clean.eq_1 ..
  generalize hcl : clean (.mk kind n f s keys l) = cl at HC ⊢
  rw [hnk, hnl] at hv ⊢
  have Hk := Lib.hid hnk; have Hl := Lib.hid hnl
  have hE0 : Ext w ((w.alloc (.cells #[.int .i64 kind, .int .i64 n, .float .f64 f, .string s, .slice ka nk kc, .slice la nl lc] 29)).alloc (.cells #[.int .i64 0, .int .i64 0, .float .f64 0, .string ⟨#[]⟩, .slice none 0 0, .slice none 0 0] 29)) := ((Ext.refl w).alloc _).alloc _
  have hA0 := old_at (.cells #[.int .i64 0, .int .i64 0, .float .f64 0, .string ⟨#[]⟩, .slice none 0 0, .slice none 0 0] 29) (new_at (w := w) (.cells #[.int .i64 kind, .int .i64 n, .float .f64 f, .string s, .slice ka nk kc, .slice la nl lc] 29) rfl)
  have hB0 := new_at (w := w.alloc (.cells #[.int .i64 kind, .int .i64 n, .float .f64 f, .string s, .slice ka nk kc, .slice la nl lc] 29)) (.cells #[.int .i64 0, .int .i64 0, .float .f64 0, .string ⟨#[]⟩, .slice none 0 0, .slice none 0 0] 29) (size_alloc _ _)
  have hz0 : w.heap.size + 2 ≤ ((w.alloc (.cells #[.int .i64 kind, .int .i64 n, .float .f64 f, .string s, .slice ka nk kc, .slice la nl lc] 29)).alloc (.cells #[.int .i64 0, .int .i64 0, .float .f64 0, .string ⟨#[]⟩, .slice none 0 0, .slice none 0 0] 29)).heap.size := by simp only [size_alloc]; omega
  go_enter Try.func15, Try.ntmps15
  go_upto_region 1 with fail
  generalize (w.alloc (.cells #[.int .i64 kind, .int .i64 n, .float .f64 f, .string s, .slice ka nk kc, .slice la nl lc] 29)).alloc (.cells #[.int .i64 0, .int .i64 0, .float .f64 0, .string ⟨#[]⟩, .slice none 0 0, .slice none 0 0] 29) = w2 at hE0 hA0 hB0 hz0 ⊢
  have HV := Lib.hid (hv.ext hE0); have HLS := Lib.hid (RepGVs.ext hls hE0)
  have a0 := cell_of hA0 (i := 0) rfl; have a1 := cell_of hA0 (i := 1) rfl; have a2 := cell_of hA0 (i := 2) rfl; have a3 := cell_of hA0 (i := 3) rfl; have a4 := cell_of hA0 (i := 4) rfl; have a5 := cell_of hA0 (i := 5) rfl
  have HE := Lib.hid hE0; have HB := Lib.hid hB0
  clear hv hls hks ok hE0 hA0 hB0 hkc hlc hcl
  have SN : ∀ v0 v1 v2 v3 v4 v5, Hid ((six w2 (w.heap.size + 1) v0 v1 v2 v3 v4 v5).heap[w.heap.size + 1]? = some (.cells #[v0, v1, v2, v3, v4, v5] 29 (0, 0)) ∧ Ext w (six w2 (w.heap.size + 1) v0 v1 v2 v3 v4 v5)) := fun v0 v1 v2 v3 v4 v5 => ⟨six_at HB.out _ _ _ _ _ _, six_ext HE.out (by omega) _ _ _ _ _ _⟩
  by_cases k6 : kind = 6
  · subst k6
    go_wp2_with fail
    refine (plainMapS_step 6 n f s keys l IH _ _ S HV.out).mono ?_
    rintro e w1 ⟨u, rfl, ⟨cu, rfl, hu⟩, hE1⟩
    have hE2 := HE.out.trans hE1
    have HB1 := Lib.hid (hE1.heap HB.out)
    obtain ⟨f0, f1, f2, f3, f4, f5, rfl⟩ := hu.list6
    obtain ⟨p0, p1, p2, p3, p4, p5⟩ := hu.six
    have HQ : Hid ((six w1 (w.heap.size + 1) f0 f1 f2 f3 f4 f5).heap[w.heap.size + 1]? = some (.cells #[f0, f1, f2, f3, f4, f5] 29 (0, 0))) := six_at HB1.out _ _ _ _ _ _
    have HEq : Hid (Ext w (six w1 (w.heap.size + 1) f0 f1 f2 f3 f4 f5)) := six_ext hE2 (by omega) _ _ _ _ _ _
    have HRq : Hid (RepGV (w.heap.size ≤ ·) (six w1 (w.heap.size + 1) f0 f1 f2 f3 f4 f5) (mkMap (insAll keys (cleans l) [])) [f0, f1, f2, f3, f4, f5]) := RepGV.frame (S' := (w.heap.size ≤ ·)) ((six_same w1 (w.heap.size + 1) _ _ _ _ _ _).mono fun b hb => by omega) (fun b hb => by omega) hu
    clear hu hE1 hE2
    have hz : ∀ o, w1.frozen? ⟨w.heap.size + 1, o, none⟩ = false := fun o => by simp [World.frozen?, HB1.out]
    have g0 := cell_of HB1.out (i := 0) rfl; have g1 := cell_of HB1.out (i := 1) rfl; have g2 := cell_of HB1.out (i := 2) rfl; have g3 := cell_of HB1.out (i := 3) rfl; have g4 := cell_of HB1.out (i := 4) rfl; have g5 := cell_of HB1.out (i := 5) rfl
    go_wp2
    (try simp only [Exit.inBlock, Exit.then]); refine bodyPost_ret (res6 Try.results15 rfl HQ.out) rfl ?_
    exact ⟨_, rfl, ⟨_, rfl, by have := HC.out; simp only [reduceIte, Int.reduceEq] at this; rw [this]; exact HRq.out⟩, HEq.out⟩
  by_cases k5 : kind = 5
  · subst k5
    go_wp2_with fail
    refine (plainList_step l IH la nl lc _ S HLS.out Hl.out (by omega)).mono ?_
    rintro e w1 ⟨u, rfl, ⟨A', c', rfl, hc', hu⟩, hE1⟩
    have hE2 := HE.out.trans hE1
    have HB1 := Lib.hid (hE1.heap HB.out)
    have HQ : Hid ((six w1 (w.heap.size + 1) (.int .i64 5) (.int .i64 0) (.float .f64 0) (.string ⟨#[]⟩) (.slice none 0 0) (.slice A' nl c')).heap[w.heap.size + 1]? = some (.cells #[.int .i64 5, .int .i64 0, .float .f64 0, .string ⟨#[]⟩, .slice none 0 0, .slice A' nl c'] 29 (0, 0))) := six_at HB1.out _ _ _ _ _ _
    have HEq : Hid (Ext w (six w1 (w.heap.size + 1) (.int .i64 5) (.int .i64 0) (.float .f64 0) (.string ⟨#[]⟩) (.slice none 0 0) (.slice A' nl c'))) := six_ext hE2 (by omega) _ _ _ _ _ _
    have hll : (cleans l).length = nl := by rw [cleans_eq, List.length_map, Hl.out]
    have HRq : Hid (RepGV (w.heap.size ≤ ·) (six w1 (w.heap.size + 1) (.int .i64 5) (.int .i64 0) (.float .f64 0) (.string ⟨#[]⟩) (.slice none 0 0) (.slice A' nl c')) (.mk 5 0 0 ⟨#[]⟩ [] (cleans l)) [.int .i64 5, .int .i64 0, .float .f64 0, .string ⟨#[]⟩, .slice none 0 0, .slice A' nl c']) := by
      have hr := RepGVs.frame (S' := (w.heap.size ≤ ·)) hu ((six_same w1 (w.heap.size + 1) (.int .i64 5) (.int .i64 0) (.float .f64 0) (.string ⟨#[]⟩) (.slice none 0 0) (.slice A' nl c')).mono fun b hb => by omega) (fun b hb => by omega)
      have := RepGV.close (keys := []) (l := cleans l) (kind := 5) (n := 0) (f := 0) (s := ⟨#[]⟩) (ka := none) (kc := 0) (lc := c') ⟨by omega, by omega, by omega, Nat.zero_le _, by simp, by simp, by rw [hll]; omega⟩ (Nat.zero_le _) (by omega) RowOf.nil hr
      rw [hll] at this; exact this
    clear hu hE1 hE2
    have hz : ∀ o, w1.frozen? ⟨w.heap.size + 1, o, none⟩ = false := fun o => by simp [World.frozen?, HB1.out]
    have g0 := cell_of HB1.out (i := 0) rfl; have g1 := cell_of HB1.out (i := 1) rfl; have g2 := cell_of HB1.out (i := 2) rfl; have g3 := cell_of HB1.out (i := 3) rfl; have g4 := cell_of HB1.out (i := 4) rfl; have g5 := cell_of HB1.out (i := 5) rfl
    go_wp2
    (try simp only [Exit.inBlock, Exit.then]); refine bodyPost_ret (res6 Try.results15 rfl HQ.out) rfl ?_
    exact ⟨_, rfl, ⟨_, rfl, by have := HC.out; simp only [reduceIte, Int.reduceEq] at this; rw [this]; exact HRq.out⟩, HEq.out⟩
  have hz : ∀ o, w2.frozen? ⟨w.heap.size + 1, o, none⟩ = false := fun o => by simp [World.frozen?, HB.out]
  have g0 := cell_of HB.out (i := 0) rfl; have g1 := cell_of HB.out (i := 1) rfl; have g2 := cell_of HB.out (i := 2) rfl; have g3 := cell_of HB.out (i := 3) rfl; have g4 := cell_of HB.out (i := 4) rfl; have g5 := cell_of HB.out (i := 5) rfl
  by_cases k1 : kind = 1
  · subst k1
    by_cases n0 : n = 0
    · subst n0
      go_wp2
      (try simp only [Exit.inBlock, Exit.then]); refine bodyPost_ret (res6 Try.results15 rfl (SN (.int .i64 1) (.int .i64 0) (.float .f64 0) (.string ⟨#[]⟩) (.slice none 0 0) (.slice none 0 0)).out.1) rfl ?_
      exact ⟨_, rfl, ⟨_, rfl, by have := HC.out; simp only [reduceIte, Int.reduceEq] at this; rw [this]; exact leaf_rep _ _ ⟨by omega, by omega, by omega, Nat.zero_le _, by simp, by simp, by simp⟩⟩, (SN _ _ _ _ _ _).out.2⟩
    · have hnn : (n == 0) = false := by simp [n0]
      go_wp2
      (try simp only [Exit.inBlock, Exit.then]); refine bodyPost_ret (res6 Try.results15 rfl (SN (.int .i64 1) (.int .i64 1) (.float .f64 0) (.string ⟨#[]⟩) (.slice none 0 0) (.slice none 0 0)).out.1) rfl ?_
      exact ⟨_, rfl, ⟨_, rfl, by have := HC.out; simp only [reduceIte, Int.reduceEq, n0] at this; rw [this]; exact leaf_rep _ _ ⟨by omega, by omega, by omega, Nat.zero_le _, by simp, by simp, by simp⟩⟩, (SN _ _ _ _ _ _).out.2⟩
  by_cases k2 : kind = 2
  · subst k2
    go_wp2
    (try simp only [Exit.inBlock, Exit.then]); refine bodyPost_ret (res6 Try.results15 rfl (SN (.int .i64 2) (.int .i64 n) (.float .f64 0) (.string ⟨#[]⟩) (.slice none 0 0) (.slice none 0 0)).out.1) rfl ?_
    exact ⟨_, rfl, ⟨_, rfl, by have := HC.out; simp only [reduceIte, Int.reduceEq] at this; rw [this]; exact leaf_rep _ _ ⟨by omega, by omega, by omega, Nat.zero_le _, by simp, by simp, by simp⟩⟩, (SN _ _ _ _ _ _).out.2⟩
  by_cases k3 : kind = 3
  · subst k3
    go_wp2
    (try simp only [Exit.inBlock, Exit.then]); refine bodyPost_ret (res6 Try.results15 rfl (SN (.int .i64 3) (.int .i64 0) (.float .f64 f) (.string ⟨#[]⟩) (.slice none 0 0) (.slice none 0 0)).out.1) rfl ?_
    exact ⟨_, rfl, ⟨_, rfl, by have := HC.out; simp only [reduceIte, Int.reduceEq] at this; rw [this]; exact leaf_rep _ _ ⟨by omega, by omega, by omega, Nat.zero_le _, by simp, by simp, by simp⟩⟩, (SN _ _ _ _ _ _).out.2⟩
  by_cases k4 : kind = 4
  · subst k4
    go_wp2
    (try simp only [Exit.inBlock, Exit.then]); refine bodyPost_ret (res6 Try.results15 rfl (SN (.int .i64 4) (.int .i64 0) (.float .f64 0) (.string s) (.slice none 0 0) (.slice none 0 0)).out.1) rfl ?_
    exact ⟨_, rfl, ⟨_, rfl, by have := HC.out; simp only [reduceIte, Int.reduceEq] at this; rw [this]; exact leaf_rep _ _ ⟨by omega, by omega, by omega, by omega, by simp, by simp, by simp⟩⟩, (SN _ _ _ _ _ _).out.2⟩
  have b1 : (kind == 1) = false := by simp [k1]
  have b2 : (kind == 2) = false := by simp [k2]
  have b3 : (kind == 3) = false := by simp [k3]
  have b4 : (kind == 4) = false := by simp [k4]
  have b5 : (kind == 5) = false := by simp [k5]
  have b6 : (kind == 6) = false := by simp [k6]
  go_wp2
  (try simp only [Exit.inBlock, Exit.then]); refine bodyPost_ret (res6 Try.results15 rfl (SN (.int .i64 0) (.int .i64 0) (.float .f64 0) (.string ⟨#[]⟩) (.slice none 0 0) (.slice none 0 0)).out.1) rfl ?_
  exact ⟨_, rfl, ⟨_, rfl, by have := HC.out; rw [if_neg k1, if_neg k2, if_neg k3, if_neg k4, if_neg k5, if_neg k6] at this; rw [this]; exact leaf_rep _ _ ⟨by omega, by omega, by omega, Nat.zero_le _, by simp, by simp, by simp⟩⟩, (SN _ _ _ _ _ _).out.2⟩
end Go.Smd
end
section
set_option linter.unusedSimpArgs false
namespace Go.Smd
open Go.RowKit Go.Proofs
theorem okInt64 {n : Int} (h : -9223372036854775808 ≤ n ∧ n ≤ 9223372036854775807) : okVb (.int .i64 n) = true := by simp [okVb, okInt, h]
theorem strs_rep {S : Nat → Prop} {w : World} {A : Option Addr} {c : Nat} {ss : List ByteArray} (h : RepStrs S w A ss) (hc : ss.length ≤ c) (hb : ss.length * 16 ≤ 140737488351232) (hs : ∀ s ∈ ss, s.size ≤ 140737488351232) :
    RepD Try.prog w S (dStrs ss) (.slice A ss.length c) := by
  refine RepD.sl_iff.2 ⟨A, c, by simp [rowS], by simpa [rowS] using hc, by simpa [rowS] using hb, fun j r hj => ?_⟩
  rw [rowS, List.getElem?_map] at hj
  obtain ⟨s, hs', rfl⟩ := Option.map_eq_some_iff.1 hj
  refine ⟨by simp, fun _ => ?_⟩
  obtain ⟨ad, cs, ha, hS, hr, _, hcs⟩ := h j s hs'
  cases hr
  refine ⟨ad, ha, fun i d hi => ?_⟩
  match i, hi with
  | 0, hi =>
    simp at hi; subst hi
    exact ⟨_, by rw [add_block]; exact hS, by simpa using hcs 0 _ rfl, .v (by simpa [okVb] using hs s (List.mem_of_getElem? hs'))⟩
theorem repGV_rep : ∀ {g : GV} {S : Nat → Prop} {w : World} {cs : List Value}, RepGV S w g cs → All2 (RepD Try.prog w S) (gvD g) cs := by
  intro g
  induction g using GV.ind with
  | h kind n f s keys l IH =>
  intro S w cs h
  obtain ⟨ka, kc, la, lc, rfl, ok, hkc, hlc, hks, hls⟩ := h.open
  rw [gvD_mk]
  refine .cons (.v (okInt64 ok.okKind)) (.cons (.v (okInt64 ok.okN)) (.cons (.v (by simpa [okVb] using ok.okF)) (.cons (.v (by simpa [okVb] using ok.okS)) (.cons (strs_rep hks hkc ok.okKeys ok.okEach) (.cons ?_ .nil)))))
  refine (RepD.sl_iff (E := 29) (xs := l.map gvD)).2 ⟨la, lc, by simp, by simpa using hlc, by simpa using ok.okL, fun j r hj => ?_⟩
  rw [List.getElem?_map] at hj
  obtain ⟨x, hx, rfl⟩ := Option.map_eq_some_iff.1 hj
  refine ⟨by simp, fun _ => ?_⟩
  obtain ⟨ad, cs, ha, hS, hr, _, hcs⟩ := hls j x hx
  have := IH x (List.mem_of_getElem? hx) hr
  refine ⟨ad, ha, fun i d hi => ?_⟩
  obtain ⟨u, hu, hd⟩ := this.at hi
  exact ⟨u, by rw [add_block]; exact hS, by simpa using hcs i u hu, hd⟩
theorem cls_all2 {S : Nat → Prop} {β : Nat → Value} {h : Nat → Option Ow} {w : World} {xs : List D} {us : List Value} : All2 (RepC Try.prog S β h w) (cls xs) us ↔ All2 (RepD Try.prog w S) xs us := by
  constructor
  · intro k
    induction xs generalizing us with
    | nil => cases k; exact .nil
    | cons x xs ih => cases k with | cons k t => exact .cons k (ih t)
  · intro k
    induction k with
    | nil => exact .nil
    | cons k t ih => exact .cons k ih
theorem rep_strs {S : Nat → Prop} {w : World} {ss : List ByteArray} {v : Value} (h : RepD Try.prog w S (dStrs ss) v) : ∃ A c, v = .slice A ss.length c ∧ ss.length ≤ c ∧ ss.length * 16 ≤ 140737488351232 ∧ RepStrs S w A ss ∧ ∀ s ∈ ss, s.size ≤ 140737488351232 := by
  have hk := strs_ok ⟨w, S, v, h⟩
  obtain ⟨A, c, rfl, hc, _, hr⟩ := RepD.sl_iff.1 h
  simp only [rowS, List.length_map] at *
  refine ⟨A, c, rfl, hc, hk.1, fun j s hj => ?_, hk.2⟩
  obtain ⟨ad, ha, hrow⟩ := (hr j [dS s] (by simp [hj])).2 (by simp)
  obtain ⟨u, hS, hcell, hd⟩ := hrow 0 (dS s) rfl
  cases hd
  rw [add_block] at hS
  refine ⟨ad, [.string s], ha, hS, rfl, rfl, fun i u hu => ?_⟩
  match i, hu with
  | 0, hu => simp at hu; subst hu; simpa using hcell
set_option maxRecDepth 20000 in
theorem rep_repGV : ∀ {g : GV} {S : Nat → Prop} {w : World} {cs : List Value}, All2 (RepD Try.prog w S) (gvD g) cs → RepGV S w g cs := by
  intro g
  induction g using GV.ind with
  | h kind n f s keys l IH =>
  intro S w cs h
  have hok := gv_ok (kind := kind) (n := n) (f := f) (s := s) (keys := keys) (l := l) ⟨w, S, .agg cs.toArray, cs, rfl, cls_all2.2 h⟩
  rw [gvD_mk] at h
  obtain ⟨c0, _, rfl, h0, h⟩ := h.inv
  obtain ⟨c1, _, rfl, h1, h⟩ := h.inv
  obtain ⟨c2, _, rfl, h2, h⟩ := h.inv
  obtain ⟨c3, _, rfl, h3, h⟩ := h.inv
  obtain ⟨c4, _, rfl, h4, h⟩ := h.inv
  obtain ⟨c5, _, rfl, h5, h⟩ := h.inv
  cases h.inv0
  cases h0; cases h1; cases h2; cases h3
  obtain ⟨ka, kc, rfl, hkc, _, hks, _⟩ := rep_strs h4
  obtain ⟨la, lc, rfl, hlc, _, hr⟩ := (RepD.sl_iff (E := 29) (xs := l.map gvD)).1 h5
  rw [List.length_map] at hlc ⊢
  refine RepGV.close ⟨hok.hkind, hok.hn, hok.hf, hok.hs, hok.hkeys, hok.hkey, hok.hl⟩ hkc hlc hks fun j x hj => ?_
  obtain ⟨ad, ha, hrow⟩ := (hr j (gvD x) (by simp [hj])).2 (by simp)
  have key : ∃ us : List Value, All2 (RepD Try.prog w S) (gvD x) us ∧ (∀ i u, us[i]? = some u → w.cell? ((ad.add (j * 6)).add i) = some u) ∧ S ad.block := by
    refine ⟨(List.range 6).map fun i => (w.cell? ((ad.add (j * 6)).add i)).getD undef, All2.of (by simp) fun i d u hi hu => ?_, fun i u hu => ?_, ?_⟩
    · obtain ⟨u', _, hc, hd⟩ := hrow i d hi
      rw [List.getElem?_map] at hu
      obtain ⟨i', hi', rfl⟩ := Option.map_eq_some_iff.1 hu
      obtain ⟨hlt, rfl⟩ := List.getElem?_eq_some_iff.1 hi'
      simp only [cells_29] at hc
      simp only [List.getElem_range, hc, Option.getD_some]; exact hd
    · rw [List.getElem?_map] at hu
      obtain ⟨i', hi', rfl⟩ := Option.map_eq_some_iff.1 hu
      obtain ⟨hlt, rfl⟩ := List.getElem?_eq_some_iff.1 hi'
      simp only [List.length_range] at hlt
      have hlt' : i < (gvD x).length := by rw [gvD_length]; exact hlt
      obtain ⟨u', _, hc, _⟩ := hrow i ((gvD x)[i]'hlt') (List.getElem?_eq_getElem hlt')
      simp only [cells_29] at hc
      simp only [List.getElem_range, hc, Option.getD_some]
    · have hlt' : 0 < (gvD x).length := by rw [gvD_length]; decide
      obtain ⟨u', hS, _, _⟩ := hrow 0 ((gvD x)[0]'hlt') (List.getElem?_eq_getElem hlt')
      rwa [add_block] at hS
  obtain ⟨us, h1, h2, h3⟩ := key
  have := IH x (List.mem_of_getElem? hj) h1
  exact ⟨ad, us, ha, h3, this, this.length, fun i u hu => h2 i u hu⟩
theorem gvA_iff {S : Nat → Prop} {β : Nat → Value} {h : Nat → Option Ow} {w : World} {g : GV} {v : Value} : RepA Try.prog S β h w (gvA g) v ↔ ∃ cs, v = .agg (List.toArray cs) ∧ RepGV S w g cs :=
  ⟨fun ⟨us, h1, h2⟩ => ⟨us, h1, rep_repGV (cls_all2.1 h2)⟩, fun ⟨us, h1, h2⟩ => ⟨us, h1, cls_all2.2 (repGV_rep h2)⟩⟩
theorem law_walk {f : FuncId} {args : List Av} (h : ACalls Try.prog f args (fun r => r = aV (.bool true))) {W : World} {vs : List Value} (ha : All2 (RepA Try.prog (fun _ => True) noB noH W) args vs) : Calls Try.prog f vs.toArray W (Makes (fun _ u => u = .bool true) W) := by
  refine (h.2 W (· < W.heap.size) vs (fun _ h => h) (ha.imp fun x v _ r => r.imp r.noH fun d u k => k.lt.mono fun b hb => hb.2)).mono ?_
  rintro e w' ⟨v, r, rfl, rfl, hr, hE⟩
  obtain ⟨rfl, _⟩ := rep_v hr
  exact ⟨_, rfl, rfl, hE⟩
theorem clean_a (g : GV) : ACalls Try.prog 15 [gvA g] (fun r => r = gvA (clean g)) := by
  refine ⟨⟨_, Try.func15, by kernel_rfl, rfl⟩, fun w S vs hS ha => ?_⟩
  cases ha with
  | cons h t =>
  cases t
  obtain ⟨cs, rfl, hg⟩ := gvA_iff.1 h
  refine (clean_c g cs w S hg).mono ?_
  rintro e w' ⟨v, rfl, ⟨cs', rfl, hr⟩, hE⟩
  exact ⟨_, _, rfl, rfl, gvA_iff.2 ⟨cs', rfl, hr.mono fun b hb => .inr hb⟩, hE⟩
end Go.Smd
end
section
set_option linter.unusedSimpArgs false
namespace Go.Smd
open Go.RowKit Go.Proofs
mutual
def orderly : GV → Bool
  | .mk kind n f _ _ l => if kind = 2 then decide (-9007199254740992 ≤ n) && decide (n ≤ 9007199254740992) else if kind = 3 then FloatKind.f64.format.order f f == some .eq else if kind = 5 ∨ kind = 6 then orderlys l else true
def orderlys : List GV → Bool
  | [] => true
  | x :: l => orderly x && orderlys l
end
theorem orderlys_eq : ∀ l, orderlys l = l.all orderly
  | [] => by simp [orderlys]
  | x :: l => by simp [orderlys, orderlys_eq l]
set_option maxRecDepth 20000 in
set_option maxHeartbeats 400000 in
theorem orderly_a (g : GV) : ACalls Try.prog 16 [gvA g] (fun r => r = aV (.bool (orderly g))) := by
  induction g using GV.ind with
  | h kind n f s keys l IH =>
  refine acalls_ex [] Try.func16 (by kernel_rfl) rfl Try.ntmps16 Try.results16 (Nat.le_of_ble_eq_true (by kernel_rfl)) ?_; intro hok w0 S0
  have hk := gv_ok (hok _ (List.mem_singleton_self _))
  have hl := hk.hl
  have hl2 : l.length ≤ 9223372036854775807 := by omega
  simp only [gvA, gvD_mk, cls_cons, cls_nil]
  clear hok hk hl
  (repeat' (first
                                                            | (with_reducible refine br_d (fun _ => ?_) (fun _ => ?_))
                                                            | (with_reducible refine br_i (fun _ => ?_) (fun _ => ?_))
                                                            | ((with_reducible apply nd_next); (case hx => simp -dsimp [hl2]; first | done | with_reducible rfl); (case hid => simp -dsimp [hl2]; first | done | with_reducible rfl | exact ⟨rfl, rfl, rfl⟩ | exact ⟨rfl, rfl⟩); (case' h1 => intro _ _ _); (case' h0 => intro _))
                                                            | ((with_reducible apply nd_entry); (case hx => simp -dsimp [hl2]; first | done | with_reducible rfl); (case hid => simp -dsimp [hl2]; first | done | with_reducible rfl | exact ⟨rfl, rfl, rfl⟩ | exact ⟨rfl, rfl⟩))
                                                            | ((with_reducible apply nd_range); (case hx => simp -dsimp [hl2]; with_reducible rfl); (case hT => simp -dsimp [hl2]); (case hnd => assumption); (case hz => simp -dsimp [hl2]))
                                                            | (with_reducible refine dn_i follows_any (by kernel_rfl) ?_)
                                                            | (with_reducible exact done_eq rfl)
                                                            | (simp -dsimp [hl2]))); (all_goals try with_reducible refine done_eq ?_)
  all_goals first
    | (simp_all [orderly]; done)
    | (simp_all [orderly]; omega)
    | skip
  all_goals
    have H : orderly (.mk kind n f s keys l) = l.all orderly := by simp_all [orderly, orderlys_eq]
    rw [H]
    clear H
    refine ex_loop (fun i : Nat => ⟨[(28, .c (.d (dGVs l))), (29, aV (.int .i64 l.length)), (30, aV (.int .i64 i))], []⟩) (fun i => i ≤ l.length ∧ ∀ (j : Nat) (h : j < l.length), j < i → orderly l[j] = true) (fun i => l.length - i) 0 ?_ ⟨Nat.zero_le _, fun j x h => by omega⟩ ?_
    · exact Weak.same (by simp -dsimp) (by simp -dsimp) (by first | rfl | (simp [closedSt, Av.ids, Ow.ids, Cl.ids, Go.Smd.keys]; done))
    · rintro i ⟨hi, hall⟩ K hK
      by_cases hlt : i < l.length
      · have hw : IntKind.wrap .i64 ((i : Int) + 1) = ((i + 1 : Nat) : Int) := by rw [wrap_i64] <;> omega
        (repeat' (first
                                                            | (with_reducible refine br_d (fun _ => ?_) (fun _ => ?_))
                                                            | (with_reducible refine br_i (fun _ => ?_) (fun _ => ?_))
                                                            | (with_reducible refine nd_v (IH l[i] (List.getElem_mem hlt)) (by first | rfl | (simp -dsimp [hl2, hlt, hw]; done)) ?_)
                                                            | (with_reducible refine nw_v (IH l[i] (List.getElem_mem hlt)) rfl (by first | rfl | (simp -dsimp [hl2, hlt, hw]; done)) (by first | rfl | (simp -dsimp [hl2, hlt, hw]; done)) ?_)
                                                            | ((with_reducible apply nd_next); (case hx => simp -dsimp [hl2, hlt, hw]; first | done | with_reducible rfl); (case hid => simp -dsimp [hl2, hlt, hw]; first | done | with_reducible rfl | exact ⟨rfl, rfl, rfl⟩ | exact ⟨rfl, rfl⟩); (case' h1 => intro _ _ _); (case' h0 => intro _))
                                                            | ((with_reducible apply nd_entry); (case hx => simp -dsimp [hl2, hlt, hw]; first | done | with_reducible rfl); (case hid => simp -dsimp [hl2, hlt, hw]; first | done | with_reducible rfl | exact ⟨rfl, rfl, rfl⟩ | exact ⟨rfl, rfl⟩))
                                                            | ((with_reducible apply nd_range); (case hx => simp -dsimp [hl2, hlt, hw]; with_reducible rfl); (case hT => simp -dsimp [hl2, hlt, hw]); (case hnd => assumption); (case hz => simp -dsimp [hl2, hlt, hw]))
                                                            | (with_reducible refine dn_i follows_any (by kernel_rfl) ?_)
                                                            | (with_reducible exact done_eq rfl)
                                                            | (simp -dsimp [hl2, hlt, hw]))); (all_goals try with_reducible refine done_eq ?_)
        · rename_i hn
          have : l.all orderly = false := List.all_eq_false.2 ⟨l[i], List.getElem_mem hlt, by simpa using hn⟩
          rw [this]
        · rename_i hn
          refine hK _ (i + 1) ?_ ⟨by omega, fun j h hj => ?_⟩ (by omega)
          · exact Weak.same (by simp -dsimp) (by simp -dsimp) (by first | rfl | (simp [closedSt, Av.ids, Ow.ids, Cl.ids, Go.Smd.keys]; done))
          · by_cases e : j = i
            · subst e; simpa using hn
            · exact hall j h (by omega)
      · (repeat' (first
                                                            | (with_reducible refine br_d (fun _ => ?_) (fun _ => ?_))
                                                            | (with_reducible refine br_i (fun _ => ?_) (fun _ => ?_))
                                                            | ((with_reducible apply nd_next); (case hx => simp -dsimp [hl2, hlt]; first | done | with_reducible rfl); (case hid => simp -dsimp [hl2, hlt]; first | done | with_reducible rfl | exact ⟨rfl, rfl, rfl⟩ | exact ⟨rfl, rfl⟩); (case' h1 => intro _ _ _); (case' h0 => intro _))
                                                            | ((with_reducible apply nd_entry); (case hx => simp -dsimp [hl2, hlt]; first | done | with_reducible rfl); (case hid => simp -dsimp [hl2, hlt]; first | done | with_reducible rfl | exact ⟨rfl, rfl, rfl⟩ | exact ⟨rfl, rfl⟩))
                                                            | ((with_reducible apply nd_range); (case hx => simp -dsimp [hl2, hlt]; with_reducible rfl); (case hT => simp -dsimp [hl2, hlt]); (case hnd => assumption); (case hz => simp -dsimp [hl2, hlt]))
                                                            | (with_reducible refine dn_i follows_any (by kernel_rfl) ?_)
                                                            | (with_reducible exact done_eq rfl)
                                                            | (simp -dsimp [hl2, hlt]))); (all_goals try with_reducible refine done_eq ?_)
        have : l.all orderly = true := List.all_eq_true.2 fun x hx => by
          obtain ⟨j, hj, rfl⟩ := List.getElem_of_mem hx
          exact hall j hj (by omega)
        rw [this]
end Go.Smd
end
section
set_option linter.unusedSimpArgs false
set_option maxRecDepth 100000
set_option maxHeartbeats 8000000
namespace Go.Smd
open Go.RowKit Go.Proofs
abbrev aI (n : Int) : Av := .c (.d (dI n))
theorem raw_a {S : Nat → Prop} {w : World} {x : Value} (hx : okVb x = true) {e : Ending} {w' : World} (h : Makes (fun _ u => u = x) w e w') : ∃ v r, e = .returned v ∧ r = aV x ∧ RepA Try.prog (fun b => S b ∨ w.heap.size ≤ b) noB noH w' r v ∧ Ext w w' := by
  obtain ⟨v, rfl, rfl, hE⟩ := h
  exact ⟨_, _, rfl, rfl, rep_raw hx, hE⟩
theorem zzFits5_a (g : GV) : ACalls Try.prog 14 [gvA g] (fun r => r = aV (.bool (fits5 g))) := by
  refine ⟨⟨_, Try.func14, by kernel_rfl, rfl⟩, fun w S vs hS ha => ?_⟩
  obtain ⟨v, _, rfl, h, ha⟩ := ha.inv
  cases ha.inv0
  obtain ⟨cs, rfl, hg⟩ := gvA_iff.1 h
  exact (zzFits5_c g cs w S hg).mono fun e w' h => raw_a rfl h
end Go.Smd
end
