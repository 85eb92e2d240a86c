/- Part 25 of the proof: Cs Ct Cu Pt Cv Az. -/
import Derived.Test.YtannholebjdckaaGreatQZ24
import Derived.Test.YtannholebjdckaaGreatQZ15
set_option linter.unusedVariables false
section
set_option linter.unusedSimpArgs false
set_option maxRecDepth 100000
set_option maxHeartbeats 8000000
namespace Go.Smd
open Go.RowKit Go.Proofs
def cmpS (s t : ByteArray) : Int := Lib.compareBytes s.data.toList t.data.toList
def rkV (k : Int) : Int := if k = 2 ∨ k = 3 then 0 else if k = 4 then 1 else if k = 1 then 2 else if k = 5 then 3 else if k = 6 then 4 else 5
mutual
def cmpP : GV → GV → Int
  | .mk k n f s ks l, .mk k' n' f' s' ks' l' =>
    if cmpI (rkV k) (rkV k') ≠ 0 then cmpI (rkV k) (rkV k')
    else if rkV k = 0 then (if k = 2 ∧ k' = 2 then cmpI n n' else cmpFl (asF k n f) (asF k' n' f'))
    else if rkV k = 1 then cmpS s s'
    else if rkV k = 2 then cmpI n n'
    else if rkV k = 3 then cmpPs l l'
    else if rkV k = 4 then cmpPm ks l ks' l'
    else 0
def cmpPs : List GV → List GV → Int
  | x :: l, y :: m => if cmpP x y ≠ 0 then cmpP x y else cmpPs l m
  | [], [] => 0
  | [], _ :: _ => -1
  | _ :: _, [] => 1
def cmpPm : List ByteArray → List GV → List ByteArray → List GV → Int
  | k :: ks, x :: l, k' :: ks', y :: l' => if cmpS k k' ≠ 0 then cmpS k k' else if cmpP x y ≠ 0 then cmpP x y else cmpPm ks l ks' l'
  | ks, _, ks', _ => cmpI ks.length ks'.length
end
theorem cmpI_self (a : Int) : cmpI a a = 0 := by unfold cmpI; simp
theorem cmpI_add (a b c : Int) : cmpI (a + c) (b + c) = cmpI a b := by
  unfold cmpI
  by_cases h1 : b < a
  · rw [if_pos h1, if_pos (by omega)]
  · by_cases h2 : a < b
    · rw [if_neg h1, if_pos h2, if_neg (by omega), if_pos (by omega)]
    · rw [if_neg h1, if_neg h2, if_neg (by omega), if_neg (by omega)]
theorem cmpI_sub {a b : Nat} (c : Nat) (ha : c ≤ a) (hb : c ≤ b) : cmpI (a : Int) b = cmpI ((a - c : Nat) : Int) ((b - c : Nat) : Int) := by
  rw [← cmpI_add ((a - c : Nat) : Int) ((b - c : Nat) : Int) c]
  congr 1 <;> omega
theorem cmpBytes_cons (a b : UInt8) (l m : List UInt8) : Lib.compareBytes (a :: l) (b :: m) = if a = b then Lib.compareBytes l m else cmpI (a.toNat : Int) b.toNat := by
  simp only [Lib.compareBytes]
  unfold cmpI
  by_cases h : a < b
  · have h' : a.toNat < b.toNat := UInt8.lt_iff_toNat_lt.1 h
    have hne : a ≠ b := fun e => by subst e; omega
    rw [if_pos h, if_neg hne, if_neg (by omega), if_pos (by omega)]
  · by_cases h2 : b < a
    · have h' : b.toNat < a.toNat := UInt8.lt_iff_toNat_lt.1 h2
      have hne : a ≠ b := fun e => by subst e; omega
      rw [if_neg h, if_pos h2, if_neg hne, if_pos (by omega)]
    · have he : a = b := by
        rw [UInt8.lt_iff_toNat_lt] at h h2
        exact UInt8.toNat_inj.1 (by omega)
      rw [if_neg h, if_neg h2, if_pos he]
end Go.Smd
end
section
set_option linter.unusedSimpArgs false
set_option maxRecDepth 100000
set_option maxHeartbeats 8000000
namespace Go.Smd
open Go.RowKit Go.Proofs
inductive okP : GV → Prop
  | mk {k n : Int} {f : Nat} {s : ByteArray} {ks : List ByteArray} {l : List GV} (h : ks.length ≤ l.length) (hl : ∀ x ∈ l, okP x) : okP (.mk k n f s ks l)
theorem okP_nil {k n : Int} {f : Nat} {s : ByteArray} : okP (.mk k n f s [] []) := .mk (Nat.le_refl _) fun x hx => by cases hx
theorem okP_clean (g : GV) : okP (clean g) := by
  induction g using GV.ind with
  | h kind n f s keys l IH =>
  have hl : ∀ x ∈ cleans l, okP x := fun x hx => by
    rw [cleans_eq] at hx
    obtain ⟨y, hy, rfl⟩ := List.mem_map.1 hx
    exact IH y hy
  simp only [clean]
  repeat' split
  all_goals first | exact okP_nil | skip
  · exact .mk (by simp) hl
  · refine .mk (by simp) fun x hx => ?_
    obtain ⟨p, hp, rfl⟩ := List.mem_map.1 hx
    exact insAll_vals keys (cleans l) [] okP hl (by simp) .nil p hp
theorem cmpPm_end {ks ks' : List ByteArray} {l l' : List GV} (h : ks = [] ∨ ks' = []) : cmpPm ks l ks' l' = cmpI (ks.length : Int) ks'.length := by
  rcases h with rfl | rfl
  · unfold cmpPm; rfl
  · cases ks <;> cases l <;> simp [cmpPm]
end Go.Smd
end
section
set_option linter.unusedSimpArgs false
set_option maxRecDepth 100000
set_option maxHeartbeats 8000000
namespace Go.Smd
open Go.RowKit Go.Proofs
theorem cmpBytes_lt : ∀ {l m : List UInt8}, Op.bytesLess l m = true → Lib.compareBytes l m = -1
  | _, [], h => by simp [Op.bytesLess] at h
  | [], _ :: _, _ => rfl
  | a :: l, b :: m, h => by
    simp only [Op.bytesLess, Bool.or_eq_true, Bool.and_eq_true, decide_eq_true_eq, beq_iff_eq] at h
    rw [cmpBytes_cons]
    rcases h with h | ⟨rfl, h⟩
    · have h' : a.toNat < b.toNat := UInt8.lt_iff_toNat_lt.1 h
      have hne : a ≠ b := fun e => by subst e; omega
      rw [if_neg hne]; unfold cmpI; rw [if_neg (by omega), if_pos (by omega)]
    · rw [if_pos rfl, cmpBytes_lt h]
theorem cmpBytes_gt : ∀ {l m : List UInt8}, Op.bytesLess m l = true → Lib.compareBytes l m = 1
  | [], _, h => by simp [Op.bytesLess] at h
  | _ :: _, [], _ => rfl
  | a :: l, b :: m, h => by
    simp only [Op.bytesLess, Bool.or_eq_true, Bool.and_eq_true, decide_eq_true_eq, beq_iff_eq] at h
    rw [cmpBytes_cons]
    rcases h with h | ⟨rfl, h⟩
    · have h' : b.toNat < a.toNat := UInt8.lt_iff_toNat_lt.1 h
      have hne : a ≠ b := fun e => by subst e; omega
      rw [if_neg hne]; unfold cmpI; rw [if_pos (by omega)]
    · rw [if_pos rfl, cmpBytes_gt h]
theorem cmpS_lt {a b : ByteArray} (h : blt a b = true) : cmpS a b = -1 := by
  unfold blt at h; rw [toList_eq, toList_eq] at h; exact cmpBytes_lt h
theorem cmpS_gt {a b : ByteArray} (h : blt b a = true) : cmpS a b = 1 := by
  unfold blt at h; rw [toList_eq, toList_eq] at h; exact cmpBytes_gt h
theorem cmpS_self (a : ByteArray) : cmpS a a = 0 := (cmpBytes_zero _ _).2 rfl
def cmpPf : List (ByteArray × GV) → List (ByteArray × GV) → Int
  | p :: A, q :: B => if cmpS p.1 q.1 ≠ 0 then cmpS p.1 q.1 else if cmpP p.2 q.2 ≠ 0 then cmpP p.2 q.2 else cmpPf A B
  | [], [] => 0
  | [], _ :: _ => -1
  | _ :: _, [] => 1
theorem cmpPm_f : ∀ A B : List (ByteArray × GV), cmpPm (A.map (·.1)) (A.map (·.2)) (B.map (·.1)) (B.map (·.2)) = cmpPf A B
  | [], [] => by simp [cmpPm, cmpPf, cmpI]
  | [], q :: B => by simp only [List.map_nil, List.map_cons]; rw [cmpPm_end (.inl rfl)]; simp only [cmpPf, cmpI]; rw [if_neg (by first | (simp; done) | (simp; omega)), if_pos (by first | (simp; done) | (simp; omega))]
  | p :: A, [] => by simp only [List.map_nil, List.map_cons]; rw [cmpPm_end (.inr rfl)]; simp only [cmpPf, cmpI]; rw [if_pos (by first | (simp; done) | (simp; omega))]
  | p :: A, q :: B => by simp only [List.map_cons, cmpPm, cmpPf, cmpPm_f A B]
theorem cmpL_cmpPs {c : Tree → Tree → Int} : ∀ {l m : List Tree}, (∀ x ∈ l, ∀ y ∈ m, c x y = cmpP (fromT x) (fromT y)) → cmpL c l m = cmpPs (fromTs l) (fromTs m)
  | [], [], _ => by simp [cmpL, fromTs, cmpPs]
  | [], _ :: _, _ => by simp [cmpL, fromTs, cmpPs]
  | _ :: _, [], _ => by simp [cmpL, fromTs, cmpPs]
  | x :: l, y :: m, h => by
    simp only [cmpL, fromTs, cmpPs]
    rw [cmpL_cmpPs (l := l) (m := m) fun a ha b hb => h a (List.mem_cons_of_mem _ ha) b (List.mem_cons_of_mem _ hb), h x (List.mem_cons_self ..) y (List.mem_cons_self ..)]
def knows (m : List (ByteArray × Tree)) (V : List ByteArray) (A : List (ByteArray × GV)) : Prop := ∀ k ∈ V, (∀ g, (k, g) ∈ A → ∃ x, mget m k = some x ∧ (k, x) ∈ m ∧ g = fromT x) ∧ (k ∉ A.map (·.1) → mget m k = none)
theorem cmpKs_cmpPf {c : Tree → Tree → Int} {m1 m2 : List (ByteArray × Tree)} (hc : ∀ x ∈ m1, ∀ y ∈ m2, c x.2 y.2 = cmpP (fromT x.2) (fromT y.2)) :
    ∀ (V : List ByteArray) (A B : List (ByteArray × GV)) (i : Nat), Sorted A → Sorted B → V.Pairwise (fun a b => blt a b = true) → (∀ q, q ∈ V ↔ q ∈ A.map (·.1) ∨ q ∈ B.map (·.1)) → i + A.length = m1.length → i + B.length = m2.length → knows m1 V A → knows m2 V B → cmpKs c m1 m2 i V = cmpPf A B
  | [], A, B, i, _, _, _, hV, _, _, _, _ => by
    cases A with
    | nil => cases B with
      | nil => simp [cmpKs, cmpPf]
      | cons q B => have := (hV q.1).2 (.inr (by simp)); cases this
    | cons p A => have := (hV p.1).2 (.inl (by simp)); cases this
  | k0 :: V, A, B, i, sA, sB, sV, hV, hA, hB, kA, kB => by
    simp only [cmpKs]
    rw [List.pairwise_cons] at sV
    have h0 := (hV k0).1 (List.mem_cons_self ..)
    have one : ∀ r : Int, oneK c m1 m2 i k0 = r → r ≠ 0 → (if oneK c m1 m2 i k0 ≠ 0 then oneK c m1 m2 i k0 else cmpKs c m1 m2 (i + 1) V) = r := fun r e hr => by rw [e, if_pos hr]
    have least : ∀ q ∈ k0 :: V, q = k0 ∨ blt k0 q = true := fun q hq => by
      rcases List.mem_cons.1 hq with h | h
      · exact .inl h
      · exact .inr (sV.1 q h)
    cases A with
    | nil => cases B with
      | nil => simp at h0
      | cons q B =>
        refine one _ ?_ (by simp [cmpPf])
        unfold oneK; rw [if_pos (by simpa using hA)]; simp [cmpPf]
    | cons p A => cases B with
      | nil =>
        refine one _ ?_ (by simp [cmpPf])
        unfold oneK; rw [if_neg (by simp at hA; omega), if_pos (by simpa using hB)]; simp [cmpPf]
      | cons q B =>
        simp only [Sorted, List.map_cons, List.pairwise_cons] at sA sB
        simp only [List.length_cons] at hA hB
        have hn1 : ¬ i = m1.length := by omega
        have hn2 : ¬ i = m2.length := by omega
        have hp : p.1 ∈ k0 :: V := (hV p.1).2 (.inl (by simp))
        have hq : q.1 ∈ k0 :: V := (hV q.1).2 (.inr (by simp))
        have hk0 := List.mem_cons_self (a := k0) (l := V)
        rcases blt_tri p.1 q.1 with h | h | h
        ·
          have e : k0 = p.1 := by
            rcases least _ hp with e | e
            · exact e.symm
            · have : blt k0 q.1 = true := blt_trans e h
              rcases h0 with h0 | h0
              · simp only [List.map_cons, List.mem_cons] at h0
                rcases h0 with h0 | h0
                · exact h0
                · have := blt_trans (sA.1 _ h0) e; rw [blt_irrefl] at this; cases this
              · simp only [List.map_cons, List.mem_cons] at h0
                rcases h0 with h0 | h0
                · rw [h0, blt_irrefl] at this; cases this
                · have := blt_trans (sB.1 _ h0) this; rw [blt_irrefl] at this; cases this
          subst e
          obtain ⟨x, hx, _, _⟩ := (kA _ hk0).1 p.2 (by simp)
          have hy : mget m2 p.1 = none := (kB _ hk0).2 fun hm => by
            simp only [List.map_cons, List.mem_cons] at hm
            rcases hm with hm | hm
            · rw [hm, blt_irrefl] at h; cases h
            · have := blt_trans (sB.1 _ hm) h; rw [blt_irrefl] at this; cases this
          have hr : cmpPf (p :: A) (q :: B) = -1 := by simp [cmpPf, cmpS_lt h]
          rw [hr]
          refine one _ ?_ (by decide)
          unfold oneK; rw [if_neg hn1, if_neg hn2, hx, hy]
        ·
          have e : k0 = p.1 := by
            rcases least _ hp with e | e
            · exact e.symm
            · rcases h0 with h0 | h0
              · simp only [List.map_cons, List.mem_cons] at h0
                rcases h0 with h0 | h0
                · exact h0
                · have := blt_trans (sA.1 _ h0) e; rw [blt_irrefl] at this; cases this
              · simp only [List.map_cons, List.mem_cons] at h0
                rcases h0 with h0 | h0
                · rw [h0, h]
                · have := blt_trans (sB.1 _ h0) (h ▸ e); rw [blt_irrefl] at this; cases this
          subst e
          obtain ⟨x, hx, hxm, ex⟩ := (kA _ hk0).1 p.2 (by simp)
          obtain ⟨y, hy, hym, ey⟩ := (kB _ hk0).1 q.2 (by rw [h]; simp)
          have ho : oneK c m1 m2 i p.1 = cmpP p.2 q.2 := by
            unfold oneK; rw [if_neg hn1, if_neg hn2, hx, hy, ex, ey]
            exact hc _ hxm _ hym
          rw [ho]
          have hr : cmpPf (p :: A) (q :: B) = if cmpP p.2 q.2 ≠ 0 then cmpP p.2 q.2 else cmpPf A B := by simp only [cmpPf, ← h, cmpS_self]; simp
          rw [hr]
          by_cases hz : cmpP p.2 q.2 = 0
          · rw [if_neg (by simpa using hz), if_neg (by simpa using hz)]
            have hgt : ∀ k ∈ V, k ≠ p.1 := fun k hk e => by have := sV.1 k hk; rw [e, blt_irrefl] at this; cases this
            refine cmpKs_cmpPf hc V A B (i + 1) sA.2 sB.2 sV.2 (fun r => ?_) (by omega) (by omega) (fun k hk => ?_) fun k hk => ?_
            · constructor
              · intro hr
                have := (hV r).1 (List.mem_cons_of_mem _ hr)
                simp only [List.map_cons, List.mem_cons] at this
                rcases this with (h1 | h1) | (h1 | h1)
                · exact absurd h1 (hgt r hr)
                · exact .inl h1
                · exact absurd (h1.trans h.symm) (hgt r hr)
                · exact .inr h1
              · intro hr
                have : r ∈ p.1 :: V := (hV r).2 (by rcases hr with h1 | h1; exact .inl (by simp [h1]); exact .inr (by simp [h1]))
                rcases List.mem_cons.1 this with e | h1
                · rcases hr with h2 | h2
                  · have := sA.1 r h2; rw [e, blt_irrefl] at this; cases this
                  · have := sB.1 r h2; rw [e, h, blt_irrefl] at this; cases this
                · exact h1
            · obtain ⟨a1, a2⟩ := kA k (List.mem_cons_of_mem _ hk)
              exact ⟨fun g hg => a1 g (List.mem_cons_of_mem _ hg), fun hn => a2 fun hm => by
                simp only [List.map_cons, List.mem_cons] at hm
                rcases hm with hm | hm
                · exact hgt k hk hm
                · exact hn hm⟩
            · obtain ⟨a1, a2⟩ := kB k (List.mem_cons_of_mem _ hk)
              exact ⟨fun g hg => a1 g (List.mem_cons_of_mem _ hg), fun hn => a2 fun hm => by
                simp only [List.map_cons, List.mem_cons] at hm
                rcases hm with hm | hm
                · exact hgt k hk (hm.trans h.symm)
                · exact hn hm⟩
          · rw [if_pos hz, if_pos hz]
        ·
          have e : k0 = q.1 := by
            rcases least _ hq with e | e
            · exact e.symm
            · have : blt k0 p.1 = true := blt_trans e h
              rcases h0 with h0 | h0
              · simp only [List.map_cons, List.mem_cons] at h0
                rcases h0 with h0 | h0
                · rw [h0, blt_irrefl] at this; cases this
                · have := blt_trans (sA.1 _ h0) this; rw [blt_irrefl] at this; cases this
              · simp only [List.map_cons, List.mem_cons] at h0
                rcases h0 with h0 | h0
                · exact h0
                · have := blt_trans (sB.1 _ h0) e; rw [blt_irrefl] at this; cases this
          subst e
          have hx : mget m1 q.1 = none := (kA _ hk0).2 fun hm => by
            simp only [List.map_cons, List.mem_cons] at hm
            rcases hm with hm | hm
            · rw [hm, blt_irrefl] at h; cases h
            · have := blt_trans (sA.1 _ hm) h; rw [blt_irrefl] at this; cases this
          have hr : cmpPf (p :: A) (q :: B) = 1 := by simp [cmpPf, cmpS_gt h]
          rw [hr]
          refine one _ ?_ (by decide)
          unfold oneK; rw [if_neg hn1, if_neg hn2, hx]
theorem knows_from {m : List (ByteArray × Tree)} (hn : (m.map (·.1)).Nodup) (V : List ByteArray) : knows m V (fromMs m) := fun k _ =>
  ⟨fun g hg => by
    obtain ⟨t, ht, e⟩ := fromMs_mem hg
    exact ⟨t, mget_of_mem hn ht, ht, e⟩, fun hk => mget_none fun h => hk ((fromMs_keys k m).2 h)⟩
theorem fromMs_len {m : List (ByteArray × Tree)} (hn : (m.map (·.1)).Nodup) : (fromMs m).length = m.length := by
  have := nodup_perm (sorted_nodup (fromMs_sorted m)) hn fun q => fromMs_keys q m
  rwa [List.length_map, List.length_map] at this
theorem cmpF_cmpP : ∀ (n : Nat) (x y : Tree), dep x ≤ n → Fits x → Fits y → cmpF n x y = cmpP (fromT x) (fromT y)
  | 0, x, y, h, _, _ => by have := dep_pos x; omega
  | n + 1, x, y, h, hx, hy => by
    unfold cmpF
    cases x <;> cases y <;> simp only [cmpT, fromT, mkMap, cmpP] <;> (try (simp [rkV, cmpI, asF, cmpS]; done))
    case bool.bool a b => cases a <;> cases b <;> simp [rkV, cmpI, cmpB]
    case list.list l m =>
      simp only [Fits] at hx hy
      simp only [dep] at h
      rw [cmpL_cmpPs fun a ha b hb => cmpF_cmpP n a b (by have := depL_mem ha; omega) (hx.2.mem a ha) (hy.2.mem b hb)]
      simp [rkV, cmpI]
    case map.map l m =>
      simp only [Fits] at hx hy
      simp only [dep] at h
      have hu := uKeys_is l m (union_exists l m)
      rw [cmpKs_cmpPf (fun a ha b hb => cmpF_cmpP n a.2 b.2 (by have := depM_mem ha; omega) (hx.2.2.mem a ha) (hy.2.2.mem b hb)) (uKeys l m) (fromMs l) (fromMs m) 0 (fromMs_sorted l) (fromMs_sorted m) hu.1
        (fun q => by rw [hu.2 q, fromMs_keys, fromMs_keys]) (by rw [fromMs_len hx.2.1]; omega) (by rw [fromMs_len hy.2.1]; omega) (knows_from hx.2.1 _) (knows_from hy.2.1 _), ← cmpPm_f]
      simp [rkV, cmpI]
theorem cmpV_spec (a b : GV) (ha : Fits (treeOf a)) (hb : Fits (treeOf b)) : cmpV (treeOf a) (treeOf b) = cmpP (clean a) (clean b) := by
  unfold cmpV
  rw [cmpF_cmpP _ _ _ (Nat.le_refl _) ha hb, from_tree, from_tree]
end Go.Smd
end
section
set_option linter.unusedSimpArgs false
set_option maxRecDepth 100000
set_option maxHeartbeats 8000000
namespace Go.Smd
open Go.RowKit Go.Proofs
abbrev dPath (p : List EV) : D := .sl 33 (p.map evD)
abbrev dLPath (p : List LE) : D := .sl 98 (p.map leD)
theorem path_ok {p : List EV} (h : okD Tryz.prog (dPath p)) : p.length * 168 ≤ 140737488351232 ∧ ∀ e ∈ p, e.keys.length * 16 ≤ 140737488351232 ∧ (∀ k ∈ e.keys, k.size ≤ 140737488351232) ∧ e.l.length * 88 ≤ 140737488351232 ∧ FitsE e := by
  obtain ⟨h1, h2⟩ := okD_sl h
  simp at h1
  exact ⟨by omega, fun e he => ev_ok (okD_row h (List.mem_map.2 ⟨e, he, rfl⟩))⟩
structure EVs (e : EV) : Prop where
  hk : e.keys.length * 16 ≤ 140737488351232
  hl : e.l.length * 88 ≤ 140737488351232
theorem toElem_a (e : EV) (hk : e.keys.length * 16 ≤ 140737488351232) (hl : e.l.length * 88 ≤ 140737488351232) : ACalls Tryz.prog 65 [evA e] (fun r => r = leA (toLE e)) := by
  obtain ⟨k, s, keys, l, ⟨a, b, c, d, p, f⟩, n⟩ := e
  rw [evA_x]
  exact toElem_x _ _ _ _ _ _ _ _ _ _ _ hk hl
abbrev dPaths (L : List (List EV)) : D := .sl 26 (L.map fun p => [dPath p])
end Go.Smd
end
section
set_option linter.unusedSimpArgs false
set_option maxRecDepth 100000
set_option maxHeartbeats 8000000
namespace Go.Smd
open Go.RowKit Go.Proofs
def cmpRow {α : Type} (c : α → α → Int) : List α → List α → Int
  | x :: l, y :: m => if c x y ≠ 0 then c x y else cmpRow c l m
  | [], [] => 0
  | [], _ :: _ => -1
  | _ :: _, [] => 1
theorem cmpRow_end {α : Type} {c : α → α → Int} {l m : List α} (h : l = [] ∨ m = []) : cmpRow c l m = cmpI (l.length : Int) m.length := by
  cases l with
  | nil => cases m with
    | nil => simp [cmpRow, cmpI]
    | cons y m => simp only [cmpRow, cmpI]; rw [if_neg (by first | (simp; done) | (simp; omega)), if_pos (by first | (simp; done) | (simp; omega))]
  | cons x l => cases m with
    | nil => simp only [cmpRow, cmpI]; rw [if_pos (by first | (simp; done) | (simp; omega))]
    | cons y m => simp at h
theorem cmpRow_at {α : Type} {c : α → α → Int} {l m : List α} {i : Nat} (h1 : i < l.length) (h2 : i < m.length) : cmpRow c (l.drop i) (m.drop i) = if c l[i] m[i] ≠ 0 then c l[i] m[i] else cmpRow c (l.drop (i + 1)) (m.drop (i + 1)) := by
  rw [List.drop_eq_getElem_cons h1, List.drop_eq_getElem_cons h2]; simp only [cmpRow]
theorem cmpRow_stop {α : Type} {c : α → α → Int} {l m : List α} {i : Nat} (hi : i ≤ l.length) (hj : i ≤ m.length) (h : ¬ (i < l.length ∧ i < m.length)) : cmpRow c (l.drop i) (m.drop i) = cmpI (l.length : Int) m.length := by
  rw [cmpRow_end (by
    by_cases h1 : i < l.length
    · exact .inr (List.drop_eq_nil_of_le (by omega))
    · exact .inl (List.drop_eq_nil_of_le (by omega))), List.length_drop, List.length_drop, ← cmpI_sub i hi hj]
theorem cmpRow_map {α β : Type} {c : α → α → Int} {d : β → β → Int} {f : α → β} : ∀ {l m : List α}, (∀ x ∈ l, ∀ y ∈ m, d (f x) (f y) = c x y) → cmpRow d (l.map f) (m.map f) = cmpRow c l m
  | [], [], _ => rfl
  | [], _ :: _, _ => rfl
  | _ :: _, [], _ => rfl
  | x :: l, y :: m, h => by
    simp only [List.map_cons, cmpRow]
    rw [cmpRow_map (l := l) (m := m) fun a ha b hb => h a (List.mem_cons_of_mem _ ha) b (List.mem_cons_of_mem _ hb), h x (List.mem_cons_self ..) y (List.mem_cons_self ..)]
noncomputable def cmpFd (p q : ByteArray × Tree) : Int := if cmpS p.1 q.1 ≠ 0 then cmpS p.1 q.1 else cmpV p.2 q.2
theorem strCompare_s (a b : ByteArray) : ACalls Tryz.prog 177 [aS a, aS b] (fun r => r = aI (cmpS a b)) := strCompare_a a b
theorem fieldsCompare_a (l m : Fds) (hl : ∀ p ∈ l, Fits p.2) (hm : ∀ p ∈ m, Fits p.2) :
    ACalls Tryz.prog 178 [.c (.d (dFds l)), .c (.d (dFds m))] (fun r => r = aI (cmpRow cmpFd l m)) := by
  refine acalls_ex [(8, ([10], [(0, []), (1, []), (2, []), (3, []), (4, []), (5, []), (6, []), (7, []), (8, []), (9, []), (10, []), (11, [])])), (11, ([10], [(0, []), (1, []), (2, []), (3, []), (4, []), (5, []), (6, []), (7, []), (8, []), (9, []), (10, []), (11, [])]))] Tryz.func178 (by kernel_rfl) rfl Tryz.ntmps178 Tryz.results178 (Nat.le_of_ble_eq_true (by kernel_rfl)) ?_; intro hok w0 S0
  have a1 : l.length * 32 ≤ 140737488351232 := by have := (okD_sl (hok (.c (.d (dFds l))) (by simp))).1; simpa using this
  have a2 : m.length * 32 ≤ 140737488351232 := by have := (okD_sl (hok (.c (.d (dFds m))) (by simp))).1; simpa using this
  clear hok
  have b1 : l.length ≤ 9223372036854775807 := by omega
  have b2 : m.length ≤ 9223372036854775807 := by omega
  (repeat' (first | (with_reducible refine br_d (fun _ => ?_) (fun _ => ?_)) | (with_reducible refine br_i (fun _ => ?_) (fun _ => ?_)) | (with_reducible refine dn_i follows_any (by kernel_rfl) ?_) | (with_reducible exact done_eq rfl) | (simp -dsimp))); (all_goals try with_reducible refine done_eq ?_)
  refine ex_loop (fun i : Nat => ⟨[(0, .c (.d (dFds l))), (1, .c (.d (dFds m))), (5, aI i)], []⟩) (fun i => i ≤ l.length ∧ i ≤ m.length ∧ cmpRow cmpFd l m = cmpRow cmpFd (l.drop i) (m.drop i)) (fun i => l.length - i) 0 ?_ ⟨Nat.zero_le _, Nat.zero_le _, rfl⟩ ?_
  · exact Weak.same (by simp -dsimp) (by simp -dsimp) (by first | rfl | (simp [closedSt, Av.ids, Ow.ids, Cl.ids, Go.Smd.keys]; done))
  · rintro i ⟨hi, hj, heq⟩ K hK
    have hw : IntKind.wrap .i64 ((i : Int) + 1) = ((i + 1 : Nat) : Int) := by rw [wrap_i64] <;> omega
    by_cases h1 : i < l.length
    · have h3 : ¬ (l.length : Int) ≤ i := by omega
      by_cases h2 : i < m.length
      · have h4 : ¬ (m.length : Int) ≤ i := by omega
        have hc := heq.trans (cmpRow_at h1 h2)
        have hs := strCompare_s l[i].1 m[i].1
        have hv := vCompare_a l[i].2 m[i].2 (hl _ (List.getElem_mem h1)) (hm _ (List.getElem_mem h2))
        by_cases hy : cmpS l[i].1 m[i].1 = 0
        · have hf : cmpFd l[i] m[i] = cmpV l[i].2 m[i].2 := by unfold cmpFd; rw [if_neg (by simpa using hy)]
          rw [hf] at hc
          rw [hy] at hs
          by_cases hz : cmpV l[i].2 m[i].2 = 0
          · rw [if_neg (by simpa using hz)] at hc
            rw [hz] at hv
            (repeat' (first | (with_reducible refine br_d (fun _ => ?_) (fun _ => ?_)) | (with_reducible refine br_i (fun _ => ?_) (fun _ => ?_)) | (with_reducible refine nd_v (hs) (by first | rfl | (simp -dsimp [hw, b1, b2, h1, h2, h3, h4, fdRow]; done)) ?_) | (with_reducible refine nw_v (hs) rfl (by first | rfl | (simp -dsimp [hw, b1, b2, h1, h2, h3, h4, fdRow]; done)) (by first | rfl | (simp -dsimp [hw, b1, b2, h1, h2, h3, h4, fdRow]; done)) ?_) | (with_reducible refine nd_v (hv) (by first | rfl | (simp -dsimp [hw, b1, b2, h1, h2, h3, h4, fdRow]; done)) ?_) | (with_reducible refine nw_v (hv) rfl (by first | rfl | (simp -dsimp [hw, b1, b2, h1, h2, h3, h4, fdRow]; done)) (by first | rfl | (simp -dsimp [hw, b1, b2, h1, h2, h3, h4, fdRow]; done)) ?_) | (with_reducible refine dn_i follows_any (by kernel_rfl) ?_) | (with_reducible exact done_eq rfl) | (simp -dsimp [hw, b1, b2, h1, h2, h3, h4, fdRow]))); (all_goals try with_reducible refine done_eq ?_)
            refine hK _ (i + 1) ?_ ⟨by omega, by omega, hc⟩ (by omega)
            exact Weak.same (by simp -dsimp) (by simp -dsimp) (by first | rfl | (simp [closedSt, Av.ids, Ow.ids, Cl.ids, Go.Smd.keys]; done))
          · rw [if_pos hz] at hc
            (repeat' (first | (with_reducible refine br_d (fun _ => ?_) (fun _ => ?_)) | (with_reducible refine br_i (fun _ => ?_) (fun _ => ?_)) | (with_reducible refine nd_v (hs) (by first | rfl | (simp -dsimp [hw, b1, b2, h1, h2, h3, h4, hz, fdRow]; done)) ?_) | (with_reducible refine nw_v (hs) rfl (by first | rfl | (simp -dsimp [hw, b1, b2, h1, h2, h3, h4, hz, fdRow]; done)) (by first | rfl | (simp -dsimp [hw, b1, b2, h1, h2, h3, h4, hz, fdRow]; done)) ?_) | (with_reducible refine nd_v (hv) (by first | rfl | (simp -dsimp [hw, b1, b2, h1, h2, h3, h4, hz, fdRow]; done)) ?_) | (with_reducible refine nw_v (hv) rfl (by first | rfl | (simp -dsimp [hw, b1, b2, h1, h2, h3, h4, hz, fdRow]; done)) (by first | rfl | (simp -dsimp [hw, b1, b2, h1, h2, h3, h4, hz, fdRow]; done)) ?_) | (with_reducible refine dn_i follows_any (by kernel_rfl) ?_) | (with_reducible exact done_eq rfl) | (simp -dsimp [hw, b1, b2, h1, h2, h3, h4, hz, fdRow]))); (all_goals try with_reducible refine done_eq ?_)
            rw [hc]
        · have hf : cmpFd l[i] m[i] = cmpS l[i].1 m[i].1 := by unfold cmpFd; rw [if_pos hy]
          rw [hf, if_pos hy] at hc
          (repeat' (first | (with_reducible refine br_d (fun _ => ?_) (fun _ => ?_)) | (with_reducible refine br_i (fun _ => ?_) (fun _ => ?_)) | (with_reducible refine nd_v (hs) (by first | rfl | (simp -dsimp [hw, b1, b2, h1, h2, h3, h4, hy, fdRow]; done)) ?_) | (with_reducible refine nw_v (hs) rfl (by first | rfl | (simp -dsimp [hw, b1, b2, h1, h2, h3, h4, hy, fdRow]; done)) (by first | rfl | (simp -dsimp [hw, b1, b2, h1, h2, h3, h4, hy, fdRow]; done)) ?_) | (with_reducible refine dn_i follows_any (by kernel_rfl) ?_) | (with_reducible exact done_eq rfl) | (simp -dsimp [hw, b1, b2, h1, h2, h3, h4, hy, fdRow]))); (all_goals try with_reducible refine done_eq ?_)
          rw [hc]
      · have h4 : (m.length : Int) ≤ i := by omega
        have hc := heq.trans (cmpRow_stop hi hj fun h => h2 h.2)
        (repeat' (first | (with_reducible refine br_d (fun _ => ?_) (fun _ => ?_)) | (with_reducible refine br_i (fun _ => ?_) (fun _ => ?_)) | (with_reducible refine dn_i follows_any (by kernel_rfl) ?_) | (with_reducible exact done_eq rfl) | (simp -dsimp [hw, b1, b2, h1, h2, h3, h4]))); (all_goals try with_reducible refine done_eq ?_)
        rw [hc]; unfold cmpI; rw [if_pos (by omega)]
    · have h3 : (l.length : Int) ≤ i := by omega
      have hc := heq.trans (cmpRow_stop hi hj fun h => h1 h.1)
      by_cases h2 : i < m.length
      · have h4 : ¬ (m.length : Int) ≤ i := by omega
        (repeat' (first | (with_reducible refine br_d (fun _ => ?_) (fun _ => ?_)) | (with_reducible refine br_i (fun _ => ?_) (fun _ => ?_)) | (with_reducible refine dn_i follows_any (by kernel_rfl) ?_) | (with_reducible exact done_eq rfl) | (simp -dsimp [hw, b1, b2, h1, h2, h3, h4]))); (all_goals try with_reducible refine done_eq ?_)
        rw [hc]; unfold cmpI; rw [if_neg (by omega), if_pos (by omega)]
      · have h4 : (m.length : Int) ≤ i := by omega
        (repeat' (first | (with_reducible refine br_d (fun _ => ?_) (fun _ => ?_)) | (with_reducible refine br_i (fun _ => ?_) (fun _ => ?_)) | (with_reducible refine dn_i follows_any (by kernel_rfl) ?_) | (with_reducible exact done_eq rfl) | (simp -dsimp [hw, b1, b2, h1, h2, h3, h4]))); (all_goals try with_reducible refine done_eq ?_)
        rw [hc]; unfold cmpI; rw [if_neg (by omega), if_neg (by omega)]
noncomputable def cmpLE : LE → LE → Int
  | .name s, .name s' => cmpS s s'
  | .name _, _ => -1
  | _, .name _ => 1
  | .key l, .key m => cmpRow cmpFd l m
  | .key _, _ => -1
  | _, .key _ => 1
  | .val t, .val u => cmpV t u
  | .val _, _ => -1
  | _, .val _ => 1
  | .idx n, .idx m => cmpI n m
theorem elemCompare_a (p q : LE) (hp : fitsLE p) (hq : fitsLE q) : ACalls Tryz.prog 147 [leA p, leA q] (fun r => r = aI (cmpLE p q)) := by
  cases p <;> cases q
  all_goals
    simp only [fitsLE] at hp hq
    refine acalls_ex [(4, ([8], [(0, []), (1, []), (2, []), (3, []), (4, []), (5, []), (6, []), (7, []), (8, []), (9, [])])), (10, ([8], [(0, []), (1, []), (2, []), (3, []), (4, []), (5, []), (6, []), (7, []), (8, []), (9, [])])), (16, ([8], [(0, []), (1, []), (2, []), (3, []), (4, []), (5, []), (6, []), (7, []), (8, []), (9, [])])), (22, ([], [(0, []), (1, []), (2, []), (3, []), (4, []), (5, []), (6, []), (7, []), (8, [])])), (24, ([], [(0, []), (1, []), (2, []), (3, []), (4, []), (5, []), (6, []), (7, []), (8, [])]))] Tryz.func147 (by kernel_rfl) rfl Tryz.ntmps147 Tryz.results147 (Nat.le_of_ble_eq_true (by kernel_rfl)) ?_; intro hok w0 S0
    clear hok
    (repeat' (first | (with_reducible refine br_d (fun _ => ?_) (fun _ => ?_)) | (with_reducible refine br_i (fun _ => ?_) (fun _ => ?_)) | (with_reducible refine nd_v (fieldsCompare_a _ _ hp hq) (by first | rfl | (simp -dsimp; done)) ?_) | (with_reducible refine nw_v (fieldsCompare_a _ _ hp hq) rfl (by first | rfl | (simp -dsimp; done)) (by first | rfl | (simp -dsimp; done)) ?_) | (with_reducible refine nd_v (vCompare_a _ _ hp hq) (by first | rfl | (simp -dsimp; done)) ?_) | (with_reducible refine nw_v (vCompare_a _ _ hp hq) rfl (by first | rfl | (simp -dsimp; done)) (by first | rfl | (simp -dsimp; done)) ?_) | (with_reducible refine nd_v (strCompare_s _ _) (by first | rfl | (simp -dsimp; done)) ?_) | (with_reducible refine nw_v (strCompare_s _ _) rfl (by first | rfl | (simp -dsimp; done)) (by first | rfl | (simp -dsimp; done)) ?_) | (with_reducible refine dn_i follows_any (by kernel_rfl) ?_) | (with_reducible exact done_eq rfl) | (simp -dsimp))); (all_goals try with_reducible refine done_eq ?_)
  all_goals (try (simp only [cmpLE]; done))
  all_goals (simp only [cmpLE, cmpI]; repeat' split) <;> (try rfl) <;> omega
end Go.Smd
end
section
set_option linter.unusedSimpArgs false
namespace Go.Smd
open Go.RowKit
section
variable {P : Program} {N : Nat} {w0 : World} {S0 : Env} {ops : Array Oper}
theorem eff_v {full base : List (Nat × Av)} {own : List (Nat × Ow)} {o : Oper} {d : Tmp} (hd : o.dst = some d) (hdk : dstOk N o = true) (hv : vval P ⟨full ++ base, own⟩ o = some (valT full base d)) : Eff P N full base o own own := fun σ e0 e1 e2 K hK => by
  refine ⟨hdk, ?_⟩
  have : vval P σ o = some (valT full base d) := by rw [← hv]; exact vval_congr e1 e0
  rw [this]
  refine hK _ (by rw [put_h]; exact e0) fun t => ?_
  rw [put_tmp, hd]
  by_cases e : some d = some t
  · rw [if_pos e, if_pos e]; cases e; rfl
  · rw [if_neg e, if_neg e]
theorem eff_c {full base : List (Nat × Av)} {own : List (Nat × Ow)} {o : Oper} {f : FuncId} {args : List Av} {r : Av} {d : Tmp} (hR : ACalls P f args fun x => x = r) (hp : plainCall o.op = true) (hd : o.dst = some d) (hdk : dstOk N o = true)
    (hc : callOf P ⟨full ++ base, own⟩ o = some (f, args, [])) (ha : args.all Av.isD = true) (hv : r = valT full base d) : Eff P N full base o own own := fun σ e0 e1 e2 K hK => by
  refine ⟨hdk, ?_⟩
  rw [vval_plain hp, wstep_none (plain_notW hp)]
  refine .inl ?_
  unfold callK
  rw [callOf_congr e1 (τ := ⟨full ++ base, own⟩) e0, hc]
  refine ⟨ha, _, hR, fun x hx _ => ?_⟩
  subst hx
  refine hK _ (by rw [put_h]; exact e0) fun t => ?_
  show (St.put σ o.dst x).tmp t = _
  rw [put_tmp, hd]
  by_cases e : some d = some t
  · rw [if_pos e, if_pos e]; cases e; exact hv
  · rw [if_neg e, if_neg e]
end
end Go.Smd
end
