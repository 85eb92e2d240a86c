/- Part 23 of the proof: Cs Ct Cu Ov Fo Az No Pt Meth. -/
import Derived.Test.YtannholebjdckaaQM22
import Derived.Test.YtannholebjdckaaQM14
import Derived.Test.YtannholebjdckaaQM01
set_option linter.unusedVariables false
section
set_option linter.unusedSimpArgs false
set_option maxRecDepth 100000
set_option maxHeartbeats 8000000
namespace Go.Smd
open Go.RowKit Go.Proofs
def cmpS (s t : ByteArray) : Int := Lib.compareBytes s.data.toList t.data.toList
def rkV (k : Int) : Int := if k = 2 ∨ k = 3 then 0 else if k = 4 then 1 else if k = 1 then 2 else if k = 5 then 3 else if k = 6 then 4 else 5
mutual
def cmpP : GV → GV → Int
  | .mk k n f s ks l, .mk k' n' f' s' ks' l' =>
    if cmpI (rkV k) (rkV k') ≠ 0 then cmpI (rkV k) (rkV k')
    else if rkV k = 0 then (if k = 2 ∧ k' = 2 then cmpI n n' else cmpFl (asF k n f) (asF k' n' f'))
    else if rkV k = 1 then cmpS s s'
    else if rkV k = 2 then cmpI n n'
    else if rkV k = 3 then cmpPs l l'
    else if rkV k = 4 then cmpPm ks l ks' l'
    else 0
def cmpPs : List GV → List GV → Int
  | x :: l, y :: m => if cmpP x y ≠ 0 then cmpP x y else cmpPs l m
  | [], [] => 0
  | [], _ :: _ => -1
  | _ :: _, [] => 1
def cmpPm : List ByteArray → List GV → List ByteArray → List GV → Int
  | k :: ks, x :: l, k' :: ks', y :: l' => if cmpS k k' ≠ 0 then cmpS k k' else if cmpP x y ≠ 0 then cmpP x y else cmpPm ks l ks' l'
  | ks, _, ks', _ => cmpI ks.length ks'.length
end
theorem cmpBytes_cons (a b : UInt8) (l m : List UInt8) : Lib.compareBytes (a :: l) (b :: m) = if a = b then Lib.compareBytes l m else cmpI (a.toNat : Int) b.toNat := by
  simp only [Lib.compareBytes]
  unfold cmpI
  by_cases h : a < b
  · have h' : a.toNat < b.toNat := UInt8.lt_iff_toNat_lt.1 h
    have hne : a ≠ b := fun e => by subst e; omega
    rw [if_pos h, if_neg hne, if_neg (by omega), if_pos (by omega)]
  · by_cases h2 : b < a
    · have h' : b.toNat < a.toNat := UInt8.lt_iff_toNat_lt.1 h2
      have hne : a ≠ b := fun e => by subst e; omega
      rw [if_neg h, if_pos h2, if_neg hne, if_pos (by omega)]
    · have he : a = b := by
        rw [UInt8.lt_iff_toNat_lt] at h h2
        exact UInt8.toNat_inj.1 (by omega)
      rw [if_neg h, if_neg h2, if_pos he]
end Go.Smd
end
section
set_option linter.unusedSimpArgs false
set_option maxRecDepth 100000
set_option maxHeartbeats 8000000
namespace Go.Smd
open Go.RowKit Go.Proofs
inductive okP : GV → Prop
  | mk {k n : Int} {f : Nat} {s : ByteArray} {ks : List ByteArray} {l : List GV} (h : ks.length ≤ l.length) (hl : ∀ x ∈ l, okP x) : okP (.mk k n f s ks l)
theorem cmpPm_end {ks ks' : List ByteArray} {l l' : List GV} (h : ks = [] ∨ ks' = []) : cmpPm ks l ks' l' = cmpI (ks.length : Int) ks'.length := by
  rcases h with rfl | rfl
  · unfold cmpPm; rfl
  · cases ks <;> cases l <;> simp [cmpPm]
end Go.Smd
end
section
set_option linter.unusedSimpArgs false
set_option maxRecDepth 100000
set_option maxHeartbeats 8000000
namespace Go.Smd
open Go.RowKit Go.Proofs
theorem cmpBytes_lt : ∀ {l m : List UInt8}, Op.bytesLess l m = true → Lib.compareBytes l m = -1
  | _, [], h => by simp [Op.bytesLess] at h
  | [], _ :: _, _ => rfl
  | a :: l, b :: m, h => by
    simp only [Op.bytesLess, Bool.or_eq_true, Bool.and_eq_true, decide_eq_true_eq, beq_iff_eq] at h
    rw [cmpBytes_cons]
    rcases h with h | ⟨rfl, h⟩
    · have h' : a.toNat < b.toNat := UInt8.lt_iff_toNat_lt.1 h
      have hne : a ≠ b := fun e => by subst e; omega
      rw [if_neg hne]; unfold cmpI; rw [if_neg (by omega), if_pos (by omega)]
    · rw [if_pos rfl, cmpBytes_lt h]
theorem cmpBytes_gt : ∀ {l m : List UInt8}, Op.bytesLess m l = true → Lib.compareBytes l m = 1
  | [], _, h => by simp [Op.bytesLess] at h
  | _ :: _, [], _ => rfl
  | a :: l, b :: m, h => by
    simp only [Op.bytesLess, Bool.or_eq_true, Bool.and_eq_true, decide_eq_true_eq, beq_iff_eq] at h
    rw [cmpBytes_cons]
    rcases h with h | ⟨rfl, h⟩
    · have h' : b.toNat < a.toNat := UInt8.lt_iff_toNat_lt.1 h
      have hne : a ≠ b := fun e => by subst e; omega
      rw [if_neg hne]; unfold cmpI; rw [if_pos (by omega)]
    · rw [if_pos rfl, cmpBytes_gt h]
theorem cmpS_lt {a b : ByteArray} (h : blt a b = true) : cmpS a b = -1 := by
  unfold blt at h; rw [toList_eq, toList_eq] at h; exact cmpBytes_lt h
theorem cmpS_gt {a b : ByteArray} (h : blt b a = true) : cmpS a b = 1 := by
  unfold blt at h; rw [toList_eq, toList_eq] at h; exact cmpBytes_gt h
theorem cmpS_self (a : ByteArray) : cmpS a a = 0 := (cmpBytes_zero _ _).2 rfl
def cmpPf : List (ByteArray × GV) → List (ByteArray × GV) → Int
  | p :: A, q :: B => if cmpS p.1 q.1 ≠ 0 then cmpS p.1 q.1 else if cmpP p.2 q.2 ≠ 0 then cmpP p.2 q.2 else cmpPf A B
  | [], [] => 0
  | [], _ :: _ => -1
  | _ :: _, [] => 1
theorem cmpPm_f : ∀ A B : List (ByteArray × GV), cmpPm (A.map (·.1)) (A.map (·.2)) (B.map (·.1)) (B.map (·.2)) = cmpPf A B
  | [], [] => by simp [cmpPm, cmpPf, cmpI]
  | [], q :: B => by simp only [List.map_nil, List.map_cons]; rw [cmpPm_end (.inl rfl)]; simp only [cmpPf, cmpI]; rw [if_neg (by first | (simp; done) | (simp; omega)), if_pos (by first | (simp; done) | (simp; omega))]
  | p :: A, [] => by simp only [List.map_nil, List.map_cons]; rw [cmpPm_end (.inr rfl)]; simp only [cmpPf, cmpI]; rw [if_pos (by first | (simp; done) | (simp; omega))]
  | p :: A, q :: B => by simp only [List.map_cons, cmpPm, cmpPf, cmpPm_f A B]
theorem cmpL_cmpPs {c : Tree → Tree → Int} : ∀ {l m : List Tree}, (∀ x ∈ l, ∀ y ∈ m, c x y = cmpP (fromT x) (fromT y)) → cmpL c l m = cmpPs (fromTs l) (fromTs m)
  | [], [], _ => by simp [cmpL, fromTs, cmpPs]
  | [], _ :: _, _ => by simp [cmpL, fromTs, cmpPs]
  | _ :: _, [], _ => by simp [cmpL, fromTs, cmpPs]
  | x :: l, y :: m, h => by
    simp only [cmpL, fromTs, cmpPs]
    rw [cmpL_cmpPs (l := l) (m := m) fun a ha b hb => h a (List.mem_cons_of_mem _ ha) b (List.mem_cons_of_mem _ hb), h x (List.mem_cons_self ..) y (List.mem_cons_self ..)]
def knows (m : List (ByteArray × Tree)) (V : List ByteArray) (A : List (ByteArray × GV)) : Prop := ∀ k ∈ V, (∀ g, (k, g) ∈ A → ∃ x, mget m k = some x ∧ (k, x) ∈ m ∧ g = fromT x) ∧ (k ∉ A.map (·.1) → mget m k = none)
theorem cmpKs_cmpPf {c : Tree → Tree → Int} {m1 m2 : List (ByteArray × Tree)} (hc : ∀ x ∈ m1, ∀ y ∈ m2, c x.2 y.2 = cmpP (fromT x.2) (fromT y.2)) :
    ∀ (V : List ByteArray) (A B : List (ByteArray × GV)) (i : Nat), Sorted A → Sorted B → V.Pairwise (fun a b => blt a b = true) → (∀ q, q ∈ V ↔ q ∈ A.map (·.1) ∨ q ∈ B.map (·.1)) → i + A.length = m1.length → i + B.length = m2.length → knows m1 V A → knows m2 V B → cmpKs c m1 m2 i V = cmpPf A B
  | [], A, B, i, _, _, _, hV, _, _, _, _ => by
    cases A with
    | nil => cases B with
      | nil => simp [cmpKs, cmpPf]
      | cons q B => have := (hV q.1).2 (.inr (by simp)); cases this
    | cons p A => have := (hV p.1).2 (.inl (by simp)); cases this
  | k0 :: V, A, B, i, sA, sB, sV, hV, hA, hB, kA, kB => by
    simp only [cmpKs]
    rw [List.pairwise_cons] at sV
    have h0 := (hV k0).1 (List.mem_cons_self ..)
    have one : ∀ r : Int, oneK c m1 m2 i k0 = r → r ≠ 0 → (if oneK c m1 m2 i k0 ≠ 0 then oneK c m1 m2 i k0 else cmpKs c m1 m2 (i + 1) V) = r := fun r e hr => by rw [e, if_pos hr]
    have least : ∀ q ∈ k0 :: V, q = k0 ∨ blt k0 q = true := fun q hq => by
      rcases List.mem_cons.1 hq with h | h
      · exact .inl h
      · exact .inr (sV.1 q h)
    cases A with
    | nil => cases B with
      | nil => simp at h0
      | cons q B =>
        refine one _ ?_ (by simp [cmpPf])
        unfold oneK; rw [if_pos (by simpa using hA)]; simp [cmpPf]
    | cons p A => cases B with
      | nil =>
        refine one _ ?_ (by simp [cmpPf])
        unfold oneK; rw [if_neg (by simp at hA; omega), if_pos (by simpa using hB)]; simp [cmpPf]
      | cons q B =>
        simp only [Sorted, List.map_cons, List.pairwise_cons] at sA sB
        simp only [List.length_cons] at hA hB
        have hn1 : ¬ i = m1.length := by omega
        have hn2 : ¬ i = m2.length := by omega
        have hp : p.1 ∈ k0 :: V := (hV p.1).2 (.inl (by simp))
        have hq : q.1 ∈ k0 :: V := (hV q.1).2 (.inr (by simp))
        have hk0 := List.mem_cons_self (a := k0) (l := V)
        rcases blt_tri p.1 q.1 with h | h | h
        ·
          have e : k0 = p.1 := by
            rcases least _ hp with e | e
            · exact e.symm
            · have : blt k0 q.1 = true := blt_trans e h
              rcases h0 with h0 | h0
              · simp only [List.map_cons, List.mem_cons] at h0
                rcases h0 with h0 | h0
                · exact h0
                · have := blt_trans (sA.1 _ h0) e; rw [blt_irrefl] at this; cases this
              · simp only [List.map_cons, List.mem_cons] at h0
                rcases h0 with h0 | h0
                · rw [h0, blt_irrefl] at this; cases this
                · have := blt_trans (sB.1 _ h0) this; rw [blt_irrefl] at this; cases this
          subst e
          obtain ⟨x, hx, _, _⟩ := (kA _ hk0).1 p.2 (by simp)
          have hy : mget m2 p.1 = none := (kB _ hk0).2 fun hm => by
            simp only [List.map_cons, List.mem_cons] at hm
            rcases hm with hm | hm
            · rw [hm, blt_irrefl] at h; cases h
            · have := blt_trans (sB.1 _ hm) h; rw [blt_irrefl] at this; cases this
          have hr : cmpPf (p :: A) (q :: B) = -1 := by simp [cmpPf, cmpS_lt h]
          rw [hr]
          refine one _ ?_ (by decide)
          unfold oneK; rw [if_neg hn1, if_neg hn2, hx, hy]
        ·
          have e : k0 = p.1 := by
            rcases least _ hp with e | e
            · exact e.symm
            · rcases h0 with h0 | h0
              · simp only [List.map_cons, List.mem_cons] at h0
                rcases h0 with h0 | h0
                · exact h0
                · have := blt_trans (sA.1 _ h0) e; rw [blt_irrefl] at this; cases this
              · simp only [List.map_cons, List.mem_cons] at h0
                rcases h0 with h0 | h0
                · rw [h0, h]
                · have := blt_trans (sB.1 _ h0) (h ▸ e); rw [blt_irrefl] at this; cases this
          subst e
          obtain ⟨x, hx, hxm, ex⟩ := (kA _ hk0).1 p.2 (by simp)
          obtain ⟨y, hy, hym, ey⟩ := (kB _ hk0).1 q.2 (by rw [h]; simp)
          have ho : oneK c m1 m2 i p.1 = cmpP p.2 q.2 := by
            unfold oneK; rw [if_neg hn1, if_neg hn2, hx, hy, ex, ey]
            exact hc _ hxm _ hym
          rw [ho]
          have hr : cmpPf (p :: A) (q :: B) = if cmpP p.2 q.2 ≠ 0 then cmpP p.2 q.2 else cmpPf A B := by simp only [cmpPf, ← h, cmpS_self]; simp
          rw [hr]
          by_cases hz : cmpP p.2 q.2 = 0
          · rw [if_neg (by simpa using hz), if_neg (by simpa using hz)]
            have hgt : ∀ k ∈ V, k ≠ p.1 := fun k hk e => by have := sV.1 k hk; rw [e, blt_irrefl] at this; cases this
            refine cmpKs_cmpPf hc V A B (i + 1) sA.2 sB.2 sV.2 (fun r => ?_) (by omega) (by omega) (fun k hk => ?_) fun k hk => ?_
            · constructor
              · intro hr
                have := (hV r).1 (List.mem_cons_of_mem _ hr)
                simp only [List.map_cons, List.mem_cons] at this
                rcases this with (h1 | h1) | (h1 | h1)
                · exact absurd h1 (hgt r hr)
                · exact .inl h1
                · exact absurd (h1.trans h.symm) (hgt r hr)
                · exact .inr h1
              · intro hr
                have : r ∈ p.1 :: V := (hV r).2 (by rcases hr with h1 | h1; exact .inl (by simp [h1]); exact .inr (by simp [h1]))
                rcases List.mem_cons.1 this with e | h1
                · rcases hr with h2 | h2
                  · have := sA.1 r h2; rw [e, blt_irrefl] at this; cases this
                  · have := sB.1 r h2; rw [e, h, blt_irrefl] at this; cases this
                · exact h1
            · obtain ⟨a1, a2⟩ := kA k (List.mem_cons_of_mem _ hk)
              exact ⟨fun g hg => a1 g (List.mem_cons_of_mem _ hg), fun hn => a2 fun hm => by
                simp only [List.map_cons, List.mem_cons] at hm
                rcases hm with hm | hm
                · exact hgt k hk hm
                · exact hn hm⟩
            · obtain ⟨a1, a2⟩ := kB k (List.mem_cons_of_mem _ hk)
              exact ⟨fun g hg => a1 g (List.mem_cons_of_mem _ hg), fun hn => a2 fun hm => by
                simp only [List.map_cons, List.mem_cons] at hm
                rcases hm with hm | hm
                · exact hgt k hk (hm.trans h.symm)
                · exact hn hm⟩
          · rw [if_pos hz, if_pos hz]
        ·
          have e : k0 = q.1 := by
            rcases least _ hq with e | e
            · exact e.symm
            · have : blt k0 p.1 = true := blt_trans e h
              rcases h0 with h0 | h0
              · simp only [List.map_cons, List.mem_cons] at h0
                rcases h0 with h0 | h0
                · rw [h0, blt_irrefl] at this; cases this
                · have := blt_trans (sA.1 _ h0) this; rw [blt_irrefl] at this; cases this
              · simp only [List.map_cons, List.mem_cons] at h0
                rcases h0 with h0 | h0
                · exact h0
                · have := blt_trans (sB.1 _ h0) e; rw [blt_irrefl] at this; cases this
          subst e
          have hx : mget m1 q.1 = none := (kA _ hk0).2 fun hm => by
            simp only [List.map_cons, List.mem_cons] at hm
            rcases hm with hm | hm
            · rw [hm, blt_irrefl] at h; cases h
            · have := blt_trans (sA.1 _ hm) h; rw [blt_irrefl] at this; cases this
          have hr : cmpPf (p :: A) (q :: B) = 1 := by simp [cmpPf, cmpS_gt h]
          rw [hr]
          refine one _ ?_ (by decide)
          unfold oneK; rw [if_neg hn1, if_neg hn2, hx]
theorem knows_from {m : List (ByteArray × Tree)} (hn : (m.map (·.1)).Nodup) (V : List ByteArray) : knows m V (fromMs m) := fun k _ =>
  ⟨fun g hg => by
    obtain ⟨t, ht, e⟩ := fromMs_mem hg
    exact ⟨t, mget_of_mem hn ht, ht, e⟩, fun hk => mget_none fun h => hk ((fromMs_keys k m).2 h)⟩
theorem fromMs_len {m : List (ByteArray × Tree)} (hn : (m.map (·.1)).Nodup) : (fromMs m).length = m.length := by
  have := nodup_perm (sorted_nodup (fromMs_sorted m)) hn fun q => fromMs_keys q m
  rwa [List.length_map, List.length_map] at this
theorem cmpF_cmpP : ∀ (n : Nat) (x y : Tree), dep x ≤ n → Fits x → Fits y → cmpF n x y = cmpP (fromT x) (fromT y)
  | 0, x, y, h, _, _ => by have := dep_pos x; omega
  | n + 1, x, y, h, hx, hy => by
    unfold cmpF
    cases x <;> cases y <;> simp only [cmpT, fromT, mkMap, cmpP] <;> (try (simp [rkV, cmpI, asF, cmpS]; done))
    case bool.bool a b => cases a <;> cases b <;> simp [rkV, cmpI, cmpB]
    case list.list l m =>
      simp only [Fits] at hx hy
      simp only [dep] at h
      rw [cmpL_cmpPs fun a ha b hb => cmpF_cmpP n a b (by have := depL_mem ha; omega) (hx.2.mem a ha) (hy.2.mem b hb)]
      simp [rkV, cmpI]
    case map.map l m =>
      simp only [Fits] at hx hy
      simp only [dep] at h
      have hu := uKeys_is l m (union_exists l m)
      rw [cmpKs_cmpPf (fun a ha b hb => cmpF_cmpP n a.2 b.2 (by have := depM_mem ha; omega) (hx.2.2.mem a ha) (hy.2.2.mem b hb)) (uKeys l m) (fromMs l) (fromMs m) 0 (fromMs_sorted l) (fromMs_sorted m) hu.1
        (fun q => by rw [hu.2 q, fromMs_keys, fromMs_keys]) (by rw [fromMs_len hx.2.1]; omega) (by rw [fromMs_len hy.2.1]; omega) (knows_from hx.2.1 _) (knows_from hy.2.1 _), ← cmpPm_f]
      simp [rkV, cmpI]
end Go.Smd
end
section
set_option linter.unusedSimpArgs false
set_option maxRecDepth 100000
set_option maxHeartbeats 8000000
namespace Go.Smd
open Go.RowKit Go.Proofs
theorem cmpV_eqV (a b : GV) (ha : Fits (treeOf a)) (hb : Fits (treeOf b)) (oa : orderly a = true) (ob : orderly b = true) : cmpV (treeOf a) (treeOf b) = 0 ↔ eqV (treeOf a) (treeOf b) = true :=
  cmp_eq _ _ _ (Nat.le_refl _) ha hb (ord_of a oa) (ord_of b ob)
end Go.Smd
end
section
set_option linter.unusedSimpArgs false
set_option maxRecDepth 100000
set_option maxHeartbeats 8000000
namespace Go.Smd
open Go.RowKit Go.Proofs
theorem insAll_mem {p : ByteArray × GV} : ∀ {A m : List (ByteArray × GV)}, (A.map (·.1)).Nodup → Sorted m → (∀ q ∈ A, ∀ x ∈ m, x.1 ≠ q.1) → (p ∈ insAll (A.map (·.1)) (A.map (·.2)) m ↔ p ∈ A ∨ p ∈ m)
  | [], m, _, _, _ => by simp [insAll]
  | q :: A, m, hn, hs, hd => by
    simp only [List.map_cons, List.nodup_cons] at hn
    simp only [List.map_cons, insAll]
    rw [insAll_mem hn.2 (sIns_sorted hs) fun a ha x hx => ?_, sIns_mem_iff hs, List.mem_cons]
    · constructor
      · rintro (h | h | h)
        · exact .inl (.inr h)
        · exact .inl (.inl h)
        · exact .inr h.1
      · rintro ((h | h) | h)
        · exact .inr (.inl h)
        · exact .inl h
        · exact .inr (.inr ⟨h, hd q (List.mem_cons_self ..) p h⟩)
    · rcases (sIns_mem_iff hs).1 hx with rfl | ⟨hx, _⟩
      · exact fun e => hn.1 (e ▸ List.mem_map_of_mem ha)
      · exact hd a (List.mem_cons_of_mem _ ha) x hx
theorem insAll_perm {A fs : List (ByteArray × GV)} (hp : A.Perm fs) (hs : Sorted fs) : insAll (A.map (·.1)) (A.map (·.2)) [] = fs := by
  have hn : (fs.map (·.1)).Nodup := sorted_nodup hs
  have hnA : (A.map (·.1)).Nodup := (hp.map (·.1)).nodup_iff.2 hn
  refine sorted_ext (insAll_sorted _ _ _ .nil) hs fun p => ?_
  rw [insAll_mem (m := []) hnA List.Pairwise.nil (by simp)]
  simp [hp.mem_iff]
theorem clean_perm {A fs : List (ByteArray × GV)} (hp : A.Perm fs) (hs : Sorted fs) (hc : ∀ p ∈ fs, clean p.2 = p.2) : clean (.mk 6 0 0 ⟨#[]⟩ (A.map (·.1)) (A.map (·.2))) = mkMap fs := by
  have e : cleans (A.map (·.2)) = A.map (·.2) := by
    rw [cleans_eq, List.map_map]
    exact List.map_congr_left fun p h => hc p (hp.mem_iff.1 h)
  simp only [clean, e]
  simp [insAll_perm hp hs]
theorem fits_from (t : Tree) : Fits t → Fits (treeOf (fromT t)) := by
  induction t using Tree.ind with
  | hn => intro _; simp [fromT, treeOf, Fits]
  | hb b => intro _; cases b <;> simp [fromT, treeOf, Fits]
  | hi n => intro _; simp [fromT, treeOf, Fits]
  | hf f => intro _; simp [fromT, treeOf, Fits]
  | hs s => intro _; simp [fromT, treeOf, Fits]
  | hl l IH =>
    intro h
    simp only [Fits] at h
    have hl : ∀ x ∈ treesOf (fromTs l), Fits x := fun x hx => by
      rw [treesOf_eq, fromTs_eq, List.map_map] at hx
      obtain ⟨y, hy, rfl⟩ := List.mem_map.1 hx
      exact IH y hy (h.2.mem y hy)
    have hlen : (treesOf (fromTs l)).length = l.length := by rw [treesOf_eq, fromTs_eq]; simp
    have e : treeOf (fromT (.list l)) = .list (treesOf (fromTs l)) := by simp [fromT, treeOf]
    rw [e]
    simp only [Fits]
    exact ⟨by omega, FitsL.of hl⟩
  | hm m IH =>
    intro h
    simp only [Fits] at h
    have hall : ∀ x ∈ treesOf ((fromMs m).map (·.2)), Fits x := fun x hx => by
      rw [treesOf_eq, List.map_map] at hx
      obtain ⟨p, hp, rfl⟩ := List.mem_map.1 hx
      obtain ⟨t, ht, e⟩ := fromMs_mem (k := p.1) (v := p.2) hp
      show Fits (treeOf p.2)
      rw [e]
      exact IH _ ht (h.2.2.mem _ ht)
    have hlen : (treesOf ((fromMs m).map (·.2))).length = m.length := by rw [treesOf_eq]; simp [fromMs_len h.2.1]
    obtain ⟨a, b, c⟩ := mapOf_fits ((fromMs m).map (·.1)) (treesOf ((fromMs m).map (·.2))) [] (by simp) (by simp) hall
    have e : treeOf (fromT (.map m)) = .map (mapOf ((fromMs m).map (·.1)) (treesOf ((fromMs m).map (·.2))) []) := by simp [fromT, mkMap, treeOf]
    rw [e]
    simp only [Fits]
    exact ⟨by simp at c; omega, a, FitsM.of b⟩
theorem clean_from (t : Tree) : clean (fromT t) = fromT t := by
  induction t using Tree.ind with
  | hn => simp [fromT, clean]
  | hb b => cases b <;> simp [fromT, clean]
  | hi n => simp [fromT, clean]
  | hf f => simp [fromT, clean]
  | hs s => simp [fromT, clean]
  | hl l IH =>
    have e : cleans (fromTs l) = fromTs l := by
      rw [cleans_eq, fromTs_eq, List.map_map]
      exact List.map_congr_left fun x hx => IH x hx
    simp [fromT, clean, e]
  | hm m IH =>
    have hc : ∀ p ∈ fromMs m, clean p.2 = p.2 := fun p hp => by
      obtain ⟨t, ht, e⟩ := fromMs_mem (k := p.1) (v := p.2) hp
      rw [e]; exact IH _ ht
    have h := insAll_self (m := []) (fromMs_sorted m) hc .nil (by simp)
    simp only [List.nil_append] at h
    simp [fromT, mkMap, clean, h]
theorem clean_map (g : GV) (hg : Fits (treeOf g)) (hk : kd (clean g) = 6) : ∃ fs, clean g = mkMap fs ∧ Sorted fs ∧ (∀ p ∈ fs, clean p.2 = p.2 ∧ Fits (treeOf p.2)) ∧ fs.length * 88 ≤ 140737488351232 := by
  have e := from_tree g
  cases ht : treeOf g with
  | map m =>
    rw [ht] at e hg
    simp only [Fits] at hg
    refine ⟨fromMs m, by rw [← e]; simp [fromT], fromMs_sorted m, fun p hp => ?_, by rw [fromMs_len hg.2.1]; exact hg.1⟩
    obtain ⟨t, htm, e2⟩ := fromMs_mem (k := p.1) (v := p.2) hp
    refine ⟨?_, ?_⟩
    · rw [e2, clean_from]
    · rw [e2]; exact fits_from t (hg.2.2.mem _ htm)
  | bool b => rw [ht] at e; rw [← e] at hk; simp [fromT, kd] at hk
  | nil => rw [ht] at e; rw [← e] at hk; simp [fromT, kd] at hk
  | int b => rw [ht] at e; rw [← e] at hk; simp [fromT, kd] at hk
  | float b => rw [ht] at e; rw [← e] at hk; simp [fromT, kd] at hk
  | str b => rw [ht] at e; rw [← e] at hk; simp [fromT, kd] at hk
  | list b => rw [ht] at e; rw [← e] at hk; simp [fromT, kd] at hk
end Go.Smd
end
section
set_option linter.unusedSimpArgs false
namespace Go.Smd
open Go.RowKit
section
variable {P : Program} {N : Nat} {w0 : World} {S0 : Env} {ops : Array Oper}
theorem eff_v {full base : List (Nat × Av)} {own : List (Nat × Ow)} {o : Oper} {d : Tmp} (hd : o.dst = some d) (hdk : dstOk N o = true) (hv : vval P ⟨full ++ base, own⟩ o = some (valT full base d)) : Eff P N full base o own own := fun σ e0 e1 e2 K hK => by
  refine ⟨hdk, ?_⟩
  have : vval P σ o = some (valT full base d) := by rw [← hv]; exact vval_congr e1 e0
  rw [this]
  refine hK _ (by rw [put_h]; exact e0) fun t => ?_
  rw [put_tmp, hd]
  by_cases e : some d = some t
  · rw [if_pos e, if_pos e]; cases e; rfl
  · rw [if_neg e, if_neg e]
theorem eff_c {full base : List (Nat × Av)} {own : List (Nat × Ow)} {o : Oper} {f : FuncId} {args : List Av} {r : Av} {d : Tmp} (hR : ACalls P f args fun x => x = r) (hp : plainCall o.op = true) (hd : o.dst = some d) (hdk : dstOk N o = true)
    (hc : callOf P ⟨full ++ base, own⟩ o = some (f, args, [])) (ha : args.all Av.isD = true) (hv : r = valT full base d) : Eff P N full base o own own := fun σ e0 e1 e2 K hK => by
  refine ⟨hdk, ?_⟩
  rw [vval_plain hp, wstep_none (plain_notW hp)]
  refine .inl ?_
  unfold callK
  rw [callOf_congr e1 (τ := ⟨full ++ base, own⟩) e0, hc]
  refine ⟨ha, _, hR, fun x hx _ => ?_⟩
  subst hx
  refine hK _ (by rw [put_h]; exact e0) fun t => ?_
  show (St.put σ o.dst x).tmp t = _
  rw [put_tmp, hd]
  by_cases e : some d = some t
  · rw [if_pos e, if_pos e]; cases e; exact hv
  · rw [if_neg e, if_neg e]
end
end Go.Smd
end
section
set_option linter.unusedSimpArgs false
namespace Go.Smd
open Go.RowKit
section
variable {P : Program} {N : Nat} {w0 : World} {S0 : Env} {ops : Array Oper}
def insO (k : Nat) (x : Ow) : List (Nat × Ow) → List (Nat × Ow)
  | [] => [(k, x)]
  | (j, y) :: l => if k < j then (k, x) :: (j, y) :: l else if k = j then (k, x) :: l else (j, y) :: insO k x l
def canonO : List (Nat × Ow) → List (Nat × Ow)
  | [] => []
  | (k, x) :: l => insO k x (canonO l)
theorem insO_look (k : Nat) (x : Ow) : ∀ (l : List (Nat × Ow)) (i : Nat), look (insO k x l) i = if k = i then some x else look l i
  | [], i => by simp [insO, look]
  | (j, y) :: l, i => by
    unfold insO
    by_cases h1 : k < j
    · rw [if_pos h1]; simp only [look]
    · rw [if_neg h1]
      by_cases h2 : k = j
      · subst h2
        rw [if_pos rfl]
        simp only [look]
        by_cases e : k = i
        · simp [e]
        · simp [e]
      · rw [if_neg h2]
        simp only [look, insO_look k x l i]
        by_cases e : j = i
        · subst e; simp [h2]
        · simp [e]
theorem canonO_look : ∀ (l : List (Nat × Ow)), look (canonO l) = look l
  | [] => rfl
  | (k, x) :: l => by
    funext i
    rw [canonO, insO_look, canonO_look l]
    simp only [look]
structure NodS where
  full : List (Nat × Av)
  base : List (Nat × Av)
  own : List (Nat × Ow)
def EffN (P : Program) (N : Nat) (n n' : NodS) (o : Oper) : Prop :=
  ∀ σ : St, σ.h = look n.own → (∀ x ∈ o.op.operands, σ.ev x = (St.mk (n.full ++ n.base) n.own).ev x) → (∀ t, σ.tmp t = valT n.full n.base t ∨ σ.tmp t = (look n.base t).getD .any) →
    ∀ K : St → Prop, (∀ σ' : St, σ'.h = look n'.own → (∀ t, o.dst = some t → σ'.tmp t = valT n'.full n'.base t) →
      (∀ t, o.dst ≠ some t → (σ.tmp t = valT n.full n.base t → σ'.tmp t = valT n'.full n'.base t) ∧ (σ.tmp t = (look n.base t).getD .any → σ'.tmp t = (look n'.base t).getD .any)) → K σ') → execX P N σ o K
theorem effN_of {full base : List (Nat × Av)} {own own1 own' : List (Nat × Ow)} {o : Oper} (h : Eff P N full base o own own1) (hc : canonO own1 = own') : EffN P N ⟨full, base, own⟩ ⟨full, base, own'⟩ o := fun σ e0 e1 e2 K hK =>
  h σ e0 e1 e2 K fun σ' h1 h2 => hK σ' (by rw [h1, ← hc, canonO_look]) (fun t ht => by rw [h2, if_pos ht]) fun t hn => ⟨fun k => by rw [h2, if_neg hn]; exact k, fun k => by rw [h2, if_neg hn]; exact k⟩
theorem effN_self {n : NodS} {o : Oper} (h : Eff P N n.full n.base o n.own n.own) : EffN P N n n o := fun σ e0 e1 e2 K hK =>
  h σ e0 e1 e2 K fun σ' h1 h2 => hK σ' h1 (fun t ht => by rw [h2, if_pos ht]) fun t hn => ⟨fun k => by rw [h2, if_neg hn]; exact k, fun k => by rw [h2, if_neg hn]; exact k⟩
def nthR : List (List Nat) → Nat → Option (List Nat)
  | [], _ => none
  | x :: _, 0 => some x
  | _ :: l, i + 1 => nthR l i
def rWaits (r : List (List Nat)) (i j : Nat) : Bool := match nthR r i with | some l => l.contains j | none => false
def rOk (ops : Array Oper) (r : List (List Nat)) : Bool :=
  decide (r.length ≤ ops.size) && (List.range ops.size).all fun i => match ops[i]? with
    | some o => (match nthR r i with
      | some l => l.all fun j => o.after.any fun e => Region.binds .any e && decide (e.on < i) && (e.on == j || rWaits r e.on j)
      | none => true)
    | none => false
theorem nthR_lt : ∀ {l : List (List Nat)} {i : Nat} {x : List Nat}, nthR l i = some x → i < l.length
  | [], i, _, h => by cases h
  | y :: l, 0, _, _ => by simp
  | y :: l, i + 1, _, h => by
    have := nthR_lt (l := l) (i := i) h
    simp only [List.length_cons]; omega
theorem rWaits_listed {r : List (List Nat)} (hrk : rOk ops r = true) {listed : Array Bool} (hc : Closed ops listed) : ∀ (i j : Nat), rWaits r i j = true → (∀ o, ops[i]? = some o → ∀ e ∈ o.after, Region.binds .any e = true → listed.getD e.on false = true) → listed.getD j false = true := by
  intro i
  induction i using Nat.strongRecOn with
  | _ i ih =>
    intro j hj ha
    unfold rOk at hrk
    rw [Bool.and_eq_true, decide_eq_true_eq] at hrk
    unfold rWaits at hj
    cases hn : nthR r i with
    | none => rw [hn] at hj; cases hj
    | some l =>
      rw [hn] at hj
      have hlt := nthR_lt hn
      have := List.all_eq_true.1 hrk.2 i (List.mem_range.2 (by omega))
      cases ho : ops[i]? with
      | none => rw [ho] at this; cases this
      | some o =>
        rw [ho] at this
        simp only [hn] at this
        have h2 := List.all_eq_true.1 this j (by simpa using hj)
        obtain ⟨e, he, h3⟩ := Array.any_eq_true'.1 h2
        simp only [Bool.and_eq_true, Bool.or_eq_true, decide_eq_true_eq, beq_iff_eq] at h3
        obtain ⟨⟨hb, hlt2⟩, h4⟩ := h3
        have hl := ha o ho e he hb
        rcases h4 with h4 | h4
        · rw [← h4]; exact hl
        · exact ih e.on hlt2 j h4 fun o' ho' => hc e.on o' ho' hl
def beqL : List Nat → List Nat → Bool
  | [], [] => true
  | a :: l, b :: m => match Nat.beq a b with | true => beqL l m | false => false
  | _, _ => false
theorem beqL_eq : ∀ {l m : List Nat}, beqL l m = true → l = m
  | [], [], _ => rfl
  | [], _ :: _, h => by cases h
  | _ :: _, [], h => by cases h
  | a :: l, b :: m, h => by
    unfold beqL at h
    cases e : Nat.beq a b with
    | false => rw [e] at h; cases h
    | true =>
      rw [e] at h
      rw [Nat.eq_of_beq_eq_true e, beqL_eq h]
def lookN : List (List Nat × NodS) → List Nat → Option NodS
  | [], _ => none
  | (k, n) :: l, ps => match beqL k ps with | true => some n | false => lookN l ps
def stepKey (cs ps : List Nat) (c : Nat) : List Nat := cs.filter fun x => x == c || ps.contains x
def valsN (P : Program) (N : Nat) (ops : Array Oper) (r : List (List Nat)) (cs ps : List Nat) (n : NodS) : List Nat → Prop
  | [] => True
  | i :: is => ((cs.contains i || cs.any fun d => if ps.contains d then rWaits r d i else rWaits r i d) = true ∨ ∃ o, nth ops.toList i = some o ∧ EffN P N n n o) ∧ valsN P N ops r cs ps n is
def stepsN (P : Program) (N : Nat) (ops : Array Oper) (r : List (List Nat)) (cs : List Nat) (G : List (List Nat × NodS)) (ps : List Nat) (n : NodS) : List Nat → Prop
  | [] => True
  | c :: l => ((ps.contains c || cs.any fun d => !ps.contains d && rWaits r c d) = true ∨ ∃ o n', nth ops.toList c = some o ∧ lookN G (stepKey cs ps c) = some n' ∧ EffN P N n n' o) ∧ stepsN P N ops r cs G ps n l
def graphN (P : Program) (N : Nat) (ops : Array Oper) (r : List (List Nat)) (cs is : List Nat) (G : List (List Nat × NodS)) : List (List Nat × NodS) → Prop
  | [] => True
  | (ps, n) :: l => (valsN P N ops r cs ps n is ∧ stepsN P N ops r cs G ps n cs) ∧ graphN P N ops r cs is G l
theorem valsN_at {r : List (List Nat)} {cs ps : List Nat} {n : NodS} : ∀ {is : List Nat}, valsN P N ops r cs ps n is → ∀ i ∈ is, (cs.contains i || cs.any fun d => if ps.contains d then rWaits r d i else rWaits r i d) = false → ∀ o, ops[i]? = some o → EffN P N n n o
  | [], _, i, hi, _, _, _ => by cases hi
  | j :: is, ⟨h, t⟩, i, hi, hs, o, ho => by
    rcases List.mem_cons.1 hi with rfl | hi
    · rcases h with h | ⟨o', h1, h3⟩
      · rw [hs] at h; cases h
      · have := op_of_nth h1
        rw [ho] at this; cases this; exact h3
    · exact valsN_at t i hi hs o ho
theorem stepsN_at {r : List (List Nat)} {cs ps : List Nat} {G : List (List Nat × NodS)} {n : NodS} : ∀ {l : List Nat}, stepsN P N ops r cs G ps n l → ∀ c ∈ l, (ps.contains c || cs.any fun d => !ps.contains d && rWaits r c d) = false → ∀ o, ops[c]? = some o → ∃ n', lookN G (stepKey cs ps c) = some n' ∧ EffN P N n n' o
  | [], _, i, hi, _, _, _ => by cases hi
  | j :: is, ⟨h, t⟩, i, hi, hs, o, ho => by
    rcases List.mem_cons.1 hi with rfl | hi
    · rcases h with h | ⟨o', n', h1, h2, h3⟩
      · rw [hs] at h; cases h
      · have := op_of_nth h1
        rw [ho] at this; cases this; exact ⟨n', h2, h3⟩
    · exact stepsN_at t i hi hs o ho
theorem graphN_at {r : List (List Nat)} {cs is : List Nat} {G0 : List (List Nat × NodS)} : ∀ {G : List (List Nat × NodS)}, graphN P N ops r cs is G0 G → ∀ ps n, lookN G ps = some n → valsN P N ops r cs ps n is ∧ stepsN P N ops r cs G0 ps n cs
  | [], _, _, _, h => by cases h
  | (k, m) :: G, ⟨h, t⟩, ps, n, hl => by
    unfold lookN at hl
    cases e : beqL k ps with
    | true => rw [e] at hl; cases hl; have := beqL_eq e; subst this; exact h
    | false => rw [e] at hl; exact graphN_at t ps n hl
structure AtN (ops : Array Oper) (n : NodS) (listed : Array Bool) (σ : St) : Prop where
  o : σ.h = look n.own
  t1 : ∀ (j : Nat) (oj : Oper) (t : Tmp), ops[j]? = some oj → oj.dst = some t → listed.getD j false = true → σ.tmp t = valT n.full n.base t
  t0 : ∀ t : Tmp, (∀ (j : Nat) (oj : Oper), ops[j]? = some oj → oj.dst = some t → listed.getD j false = false) → σ.tmp t = (look n.base t).getD .any
def keyOf (cs : List Nat) (listed : Array Bool) : List Nat := cs.filter fun c => listed.getD c false
structure DN (N : Nat) (ops : Array Oper) (cs : List Nat) (G : List (List Nat × NodS)) : Prop where
  gd : ∀ (i : Nat) (o : Oper), ops[i]? = some o → o.guard = none
  dep : ∀ (i : Nat) (o : Oper), ops[i]? = some o → ∀ t ∈ o.looksAt ops, ∀ (j : Nat) (oj : Oper), ops[j]? = some oj → oj.dst = some t → ∃ e ∈ o.after, Region.binds .any e = true ∧ e.on = j
  key : ∀ ps n, lookN G ps = some n → ∀ t, (look n.full t).isSome = true → ∃ (j : Nat) (oj : Oper), ops[j]? = some oj ∧ oj.dst = some t
  lt : ∀ c ∈ cs, c < ops.size
theorem AtN.sees {cs : List Nat} {G : List (List Nat × NodS)} {n : NodS} {listed : Array Bool} {σ : St} (A : AtN ops n listed σ) (D : DN N ops cs G) {ps : List Nat} (hn : lookN G ps = some n) {i : Nat} {o : Oper} (ho : ops[i]? = some o) (hr : ∀ e ∈ o.after, Region.binds .any e = true → listed.getD e.on false = true) :
    ∀ x ∈ o.op.operands, σ.ev x = (St.mk (n.full ++ n.base) n.own).ev x := by
  refine ops_looks (ops := ops) fun t ht => ?_
  rw [full_tmp]
  by_cases hj : ∃ (j : Nat) (oj : Oper), ops[j]? = some oj ∧ oj.dst = some t
  · obtain ⟨j, oj, h1, h2⟩ := hj
    obtain ⟨e, he, hb, rfl⟩ := D.dep i o ho t ht j oj h1 h2
    exact A.t1 _ oj t h1 h2 (hr e he hb)
  · rw [A.t0 t fun j oj h1 h2 => absurd ⟨j, oj, h1, h2⟩ hj]
    unfold valT
    cases hf : look n.full t with
    | none => rfl
    | some x => obtain ⟨j, oj, h1, h2⟩ := D.key ps n hn t (by rw [hf]; rfl); exact absurd ⟨j, oj, h1, h2⟩ hj
theorem anyX_n {r : List (List Nat)} (hrk : rOk ops r = true) {cs : List Nat} {G : List (List Nat × NodS)} {K : St → Prop} (D : DN N ops cs G) {is : List Nat} (ht : topo ops [] is = true) (hall : ∀ i, i < ops.size → i ∈ is) (hg : graphN P N ops r cs is G G) {nF : NodS} (hF : lookN G cs = some nF)
    (hK : ∀ σ : St, σ.h = look nF.own → (∀ t, σ.tmp t = valT nF.full nF.base t) → K σ) : ∀ (m : Nat) (n : NodS) (listed : Array Bool) (σ : St), lookN G (keyOf cs listed) = some n →
      listed.size = ops.size → unl ops.size listed ≤ m → Closed ops listed → AtN ops n listed σ → anyX P N ops K m listed σ := by
  have fin : ∀ (n : NodS) (listed : Array Bool) (σ : St), lookN G (keyOf cs listed) = some n → listed.size = ops.size → Region.ready .any ops listed = [] → AtN ops n listed σ → K σ := fun n listed σ hn hs hr A => by
    have hl : ∀ i, i < ops.size → listed.getD i false = true := fun i hi => by
      rw [getD_two (by rw [hs]; exact hi) false true]
      cases hq : listed.getD i true with
      | true => rfl
      | false =>
        obtain ⟨j, hj⟩ := topo_ready ht (fun _ h => by cases h) hs ⟨i, hall i hi, hq⟩
        rw [hr] at hj; cases hj
    have hk : keyOf cs listed = cs := List.filter_eq_self.2 fun c hc => hl c (D.lt c hc)
    rw [hk, hF] at hn
    cases hn
    refine hK σ A.o fun t => ?_
    by_cases hj : ∃ (j : Nat) (oj : Oper), ops[j]? = some oj ∧ oj.dst = some t
    · obtain ⟨j, oj, h1, h2⟩ := hj
      exact A.t1 j oj t h1 h2 (hl j (Array.getElem?_eq_some_iff.1 h1).1)
    · rw [A.t0 t fun j oj h1 h2 => absurd ⟨j, oj, h1, h2⟩ hj]
      unfold valT
      cases hf : look nF.full t with
      | none => rfl
      | some x => obtain ⟨j, oj, h1, h2⟩ := D.key _ nF hF t (by rw [hf]; rfl); exact absurd ⟨j, oj, h1, h2⟩ hj
  intro m
  induction m with
  | zero =>
    intro n listed σ hn hs hu hcl A
    have hr : Region.ready .any ops listed = [] := by
      cases hq : Region.ready .any ops listed with
      | nil => rfl
      | cons i l =>
        obtain ⟨h1, o, ho, _⟩ := mem_ready.1 (show i ∈ Region.ready .any ops listed by rw [hq]; exact List.mem_cons_self ..)
        have := unl_set hs (Array.getElem?_eq_some_iff.1 ho).1 h1
        omega
    exact ⟨hr, fin n listed σ hn hs hr A⟩
  | succ m ih =>
    intro n listed σ hn hs hu hcl A
    refine ⟨fun hr => fin n listed σ hn hs hr A, fun i hi => ?_⟩
    obtain ⟨hl, o, ho, hr⟩ := mem_ready.1 hi
    have hin := (Array.getElem?_eq_some_iff.1 ho).1
    have hli : listed.getD i false = false := by rw [getD_two (by rw [hs]; exact hin) false true]; exact hl
    have hgd := D.gd i o ho
    have hset : ∀ j, (listed.setIfInBounds i true).getD j false = if i = j then true else listed.getD j false := fun j => by
      by_cases e : i = j
      · subst e; simp [hs, hin]
      · rw [if_neg e]; exact getD_set_ne false e
    have hkc : ∀ c ∈ cs, (keyOf cs listed).contains c = listed.getD c false := fun c hc => by
      rw [Bool.eq_iff_iff, List.contains_iff_mem, keyOf, List.mem_filter]
      exact ⟨fun h => h.2, fun h => ⟨hc, h⟩⟩
    have w1 : ∀ d, rWaits r i d = true → listed.getD d false = true := fun d hw => rWaits_listed hrk hcl i d hw fun o' ho' => by rw [ho] at ho'; cases ho'; exact hr
    have w2 : ∀ d, listed.getD d false = true → rWaits r d i = false := fun d hd => by
      cases hq : rWaits r d i with
      | false => rfl
      | true =>
        have := rWaits_listed hrk hcl d i hq fun o' ho' => hcl d o' ho' hd
        rw [hli] at this; cases this
    have tt : ∀ (n' : NodS) (σ' : St), σ'.h = look n'.own → (∀ t, o.dst = some t → σ'.tmp t = valT n'.full n'.base t) → (∀ t, o.dst ≠ some t → (σ.tmp t = valT n.full n.base t → σ'.tmp t = valT n'.full n'.base t) ∧ (σ.tmp t = (look n.base t).getD .any → σ'.tmp t = (look n'.base t).getD .any)) → AtN ops n' (listed.setIfInBounds i true) σ' := fun n' σ' h1 h2 h3 => by
      refine ⟨h1, fun j oj t hj hd hlj => ?_, fun t hno => ?_⟩
      · by_cases e : o.dst = some t
        · exact h2 t e
        · rw [hset] at hlj
          by_cases ej : i = j
          · subst ej; rw [ho] at hj; cases hj; exact absurd hd e
          · rw [if_neg ej] at hlj; exact (h3 t e).1 (A.t1 j oj t hj hd hlj)
      · have hne : o.dst ≠ some t := fun e => by
          have := hno i o ho e
          rw [hset, if_pos rfl] at this; cases this
        refine (h3 t hne).2 (A.t0 t fun j oj hj hd => ?_)
        have := hno j oj hj hd
        rw [hset] at this
        by_cases ej : i = j
        · rw [if_pos ej] at this; cases this
        · rw [if_neg ej] at this; exact this
    have e2 : ∀ t, σ.tmp t = valT n.full n.base t ∨ σ.tmp t = (look n.base t).getD .any := fun t => by
      by_cases hj : ∃ (j : Nat) (oj : Oper), ops[j]? = some oj ∧ oj.dst = some t ∧ listed.getD j false = true
      · obtain ⟨j, oj, h1, h2, h3⟩ := hj
        exact .inl (A.t1 j oj t h1 h2 h3)
      · refine .inr (A.t0 t fun j oj h1 h2 => ?_)
        cases hq : listed.getD j false with
        | false => rfl
        | true => exact absurd ⟨j, oj, h1, h2, hq⟩ hj
    refine ⟨o, ho, ?_⟩
    unfold opX
    have hgo : guardA ops σ o = some true := by unfold guardA; rw [hgd]
    rw [hgo]
    refine ⟨fun _ => ?_, fun h => by cases h⟩
    obtain ⟨gv, gs⟩ := graphN_at hg _ n hn
    by_cases hic : i ∈ cs
    · obtain ⟨n', hn', heff⟩ := stepsN_at gs i hic (by
        rw [Bool.or_eq_false_iff]
        refine ⟨by rw [hkc i hic]; exact hli, ?_⟩
        cases hq : cs.any fun d => !(keyOf cs listed).contains d && rWaits r i d with
        | false => rfl
        | true =>
          obtain ⟨d, hd, h1⟩ := List.any_eq_true.1 hq
          rw [Bool.and_eq_true] at h1
          rw [hkc d hd, w1 d h1.2] at h1
          cases h1.1) o ho
      refine heff σ A.o (A.sees D hn ho hr) e2 _ fun σ' h1 h2 h3 => ih n' _ σ' ?_ (by simp [hs]) (by have := unl_set hs hin hl; omega) (hcl.set hi) (tt n' σ' h1 h2 h3)
      rw [← hn']
      congr 1
      refine List.filter_congr fun x hx => ?_
      rw [hset, hkc x hx]
      by_cases e : i = x
      · subst e; simp
      · have : (x == i) = false := by simpa using Ne.symm e
        rw [if_neg e, this, Bool.false_or]
    · refine valsN_at gv i (hall i hin) ?_ o ho σ A.o (A.sees D hn ho hr) e2 _ fun σ' h1 h2 h3 => ih n _ σ' ?_ (by simp [hs]) (by have := unl_set hs hin hl; omega) (hcl.set hi) (tt n σ' h1 h2 h3)
      · rw [Bool.or_eq_false_iff]
        refine ⟨by simpa using hic, ?_⟩
        cases hq : cs.any fun d => if (keyOf cs listed).contains d then rWaits r d i else rWaits r i d with
        | false => rfl
        | true =>
          obtain ⟨d, hd, h1⟩ := List.any_eq_true.1 hq
          rw [hkc d hd] at h1
          cases h2 : listed.getD d false with
          | true => rw [h2, if_pos rfl, w2 d h2] at h1; cases h1
          | false =>
            rw [h2, if_neg (by simp)] at h1
            rw [w1 d h1] at h2; cases h2
      · rw [← hn]
        congr 1
        refine List.filter_congr fun x hx => ?_
        rw [hset, if_neg (fun e : i = x => hic (by rw [e]; exact hx))]
def dnOk (N : Nat) (ops : Array Oper) (r : List (List Nat)) (cs is : List Nat) (ks : List (List Nat)) : Bool :=
  (List.range ops.size).all (fun i => match ops[i]? with
    | some o => o.guard.isNone &&
      (o.looksAt ops).all (fun t => (List.range ops.size).all fun j => (match ops[j]? with | some oj => !(oj.dst == some t) || o.after.any (fun e => Region.binds .any e && e.on == j) | none => true))
    | none => false) &&
  ks.all (fun k => k.all fun t => (List.range ops.size).any fun j => match ops[j]? with | some oj => oj.dst == some t | none => false) &&
  topo ops [] is && (List.range ops.size).all is.contains && cs.all (fun c => decide (c < ops.size)) && rOk ops r
theorem lookN_mem : ∀ {G : List (List Nat × NodS)} {ps : List Nat} {n : NodS}, lookN G ps = some n → ∃ k, (k, n) ∈ G
  | [], _, _, h => by cases h
  | (k, m) :: G, ps, n, h => by
    unfold lookN at h
    cases e : beqL k ps with
    | true => rw [e] at h; cases h; exact ⟨k, List.mem_cons_self ..⟩
    | false => rw [e] at h; obtain ⟨k', hk⟩ := lookN_mem h; exact ⟨k', List.mem_cons_of_mem _ hk⟩
theorem aw_drawn_n {id : Nat} {l : List Oper} {Q : Exit → St → Prop} {base : List (Nat × Av)} {own0 : List (Nat × Ow)} (hm : P.follows .mixedOrders = true) (r : List (List Nat)) (is cs : List Nat) (G : List (List Nat × NodS)) {n0 nF : NodS}
    (hok : dnOk N l.toArray r cs is (G.map fun p => p.2.full.map (·.1)) = true) (h0 : lookN G [] = some n0) (hF : lookN G cs = some nF) (hb : n0.base = base) (ho : look n0.own = look own0) (hst : graphN P N l.toArray r cs is G G)
    (h : Q .normal ⟨nF.full ++ nF.base, nF.own⟩) : AWp P N w0 S0 (.region id l.toArray true) Q ⟨base, own0⟩ := fun β a w s => by
  simp only [dnOk, Bool.and_eq_true] at hok
  obtain ⟨⟨⟨⟨⟨k1, k2⟩, k3⟩, k4⟩, k5⟩, k6⟩ := hok
  have kk : ∀ (i : Nat) (o : Oper), l.toArray[i]? = some o → o.guard = none ∧ ∀ t ∈ o.looksAt l.toArray, ∀ (j : Nat) (oj : Oper), l.toArray[j]? = some oj → oj.dst = some t → ∃ e ∈ o.after, Region.binds .any e = true ∧ e.on = j := fun i o ho => by
    have := List.all_eq_true.1 k1 i (List.mem_range.2 (Array.getElem?_eq_some_iff.1 ho).1)
    rw [ho] at this
    simp only [Bool.and_eq_true] at this
    obtain ⟨h1, h4⟩ := this
    refine ⟨Option.isNone_iff_eq_none.1 h1, fun t ht j oj hj hd => ?_⟩
    have h5 := List.all_eq_true.1 (List.all_eq_true.1 h4 t ht) j (List.mem_range.2 (Array.getElem?_eq_some_iff.1 hj).1)
    rw [hj] at h5
    simp only [hd, beq_self_eq_true, Bool.not_true, Bool.false_or] at h5
    obtain ⟨e, he, hb⟩ := Array.any_eq_true'.1 h5
    simp only [Bool.and_eq_true, beq_iff_eq] at hb
    exact ⟨e, he, hb.1, hb.2⟩
  have D : DN N l.toArray cs G := ⟨fun i o ho => (kk i o ho).1, fun i o ho => (kk i o ho).2, fun ps n hn t ht => by
    obtain ⟨k, hk⟩ := lookN_mem hn
    obtain ⟨x, hx⟩ := Option.isSome_iff_exists.1 ht
    have := List.all_eq_true.1 (List.all_eq_true.1 k2 _ (List.mem_map.2 ⟨_, hk, rfl⟩)) t (List.mem_map.2 ⟨_, look_mem hx, rfl⟩)
    obtain ⟨j, hj, h6⟩ := List.any_eq_true.1 this
    cases ho : l.toArray[j]? with
    | none => rw [ho] at h6; cases h6
    | some oj => rw [ho] at h6; exact ⟨j, oj, ho, by simpa using h6⟩, fun c hc => by have := List.all_eq_true.1 k5 c hc; simpa using this⟩
  have hcl : Closed l.toArray (Array.replicate l.toArray.size false) := fun j o ho hl => by
    rw [Array.getD_eq_getD_getElem?, Array.getElem?_replicate] at hl
    split at hl <;> cases hl
  have hlf : ∀ i, (Array.replicate l.toArray.size false).getD i false = false := fun i => by
    rw [Array.getD_eq_getD_getElem?, Array.getElem?_replicate]; split <;> rfl
  have hk0 : keyOf cs (Array.replicate l.toArray.size false) = [] := List.filter_eq_nil_iff.2 fun c _ => by rw [hlf]; exact Bool.false_ne_true
  have h1 := anyX_n (P := P) (K := fun σ => ∃ τ, Eqv τ σ ∧ Q .normal τ) k6 D k3 (fun i hi => by simpa using List.all_eq_true.1 k4 i (List.mem_range.2 hi)) hst hF
    (fun σ h2 h3 => ⟨⟨nF.full ++ nF.base, nF.own⟩, ⟨fun t => by rw [full_tmp, h3], h2.symm⟩, h⟩) l.toArray.size n0 (Array.replicate l.toArray.size false) ⟨base, own0⟩ (by rw [hk0]; exact h0) (by simp) (by
      have := List.length_filter_le (fun i => !(Array.replicate l.toArray.size false).getD i true) (List.range l.toArray.size)
      rw [List.length_range] at this; exact this) hcl ⟨ho.symm, fun j oj t _ _ h => (by rw [hlf] at h; cases h), fun t _ => by subst hb; rfl⟩
  refine wp_region_any hm (anyX_run (fun β σ a w ⟨τ, e, hq⟩ s => ⟨β, τ, hq, s.eqv e.symm⟩) _ _ β _ a _ h1 (s.grow (w' := w.drew) ?_).1)
  exact (Ext.refl w).drew
end
end Go.Smd
end
section
set_option linter.unusedSimpArgs false
set_option maxRecDepth 100000
set_option maxHeartbeats 8000000
namespace Go.Smd
open Go.RowKit Go.Proofs
structure EVs (e : EV) : Prop where
  hk : e.keys.length * 16 ≤ 140737488351232
  hl : e.l.length * 88 ≤ 140737488351232
end Go.Smd
end
section
namespace Go.Smd
open Go.RowKit Go.Proofs
theorem wrapNil_some (ts : Array TypeId) (t : TypeId) (a : Addr) (s n : String) : Builtin.ssaWrapNilChk_ ts t #[.pointer (some a), strVal s, strVal n] = (pure (.pointer (some a)) : Sem Value) := rfl
theorem run_method_ptr {P : Program} {T E : TypeId} {f : Nat} {name : String} (hm : (((P.info? T).bind fun i => i.methods.find? (·.name == name)).map fun m => (m.path.toList, m.func)) = some ([], some (f, false)))
    (hu : P.underlying T = some (.pointer E)) (n : Nat) {a : Addr} {v : Value} {w : World} (hl : (loadVar E a).run P w = .ok v w) :
    (method (n + 1) T (.pointer (some a)) name).run P w = .ok (f, v) w := by
  obtain ⟨m, hm, hmm⟩ := Option.map_eq_some_iff.1 hm
  obtain ⟨i, hi, hf⟩ := Option.bind_eq_some_iff.1 hm
  simp only [Prod.mk.injEq] at hmm
  unfold method
  simp [typeInfo, hi, hf, hmm.2, follow, receiverAt, run_underlying hu, Place.get, hl, wrapNil_some, asAddr, show m.path = #[] from by simpa using hmm.1]
theorem run_loadV {a : Nat} {x : Value} {w : World} (h : w.cell? ⟨a, 0, none⟩ = some x) : (loadVar 111 ⟨a, 0, none⟩).run Try.prog w = .ok (.agg #[x]) w := by
  have h1 : (isAgg 111).run Try.prog w = .ok true w := by simp [isAgg, run_underlying Try.underlying111]
  simp [loadVar, h1, loadCells, loadCellsFrom, h, Addr.add, go_sem]
@[go_sem] theorem v_AsBool (n a : Nat) {x : Value} {w : World} (h : w.cell? ⟨a, 0, none⟩ = some x) : (method (n + 1) 102 (.pointer (some ⟨a, 0, none⟩)) "AsBool").run Try.prog w = .ok (86, .agg #[x]) w := run_method_ptr (by kernel_rfl) Try.underlying102 n (run_loadV h)
@[go_sem] theorem v_AsFloat (n a : Nat) {x : Value} {w : World} (h : w.cell? ⟨a, 0, none⟩ = some x) : (method (n + 1) 102 (.pointer (some ⟨a, 0, none⟩)) "AsFloat").run Try.prog w = .ok (87, .agg #[x]) w := run_method_ptr (by kernel_rfl) Try.underlying102 n (run_loadV h)
@[go_sem] theorem v_AsInt (n a : Nat) {x : Value} {w : World} (h : w.cell? ⟨a, 0, none⟩ = some x) : (method (n + 1) 102 (.pointer (some ⟨a, 0, none⟩)) "AsInt").run Try.prog w = .ok (88, .agg #[x]) w := run_method_ptr (by kernel_rfl) Try.underlying102 n (run_loadV h)
@[go_sem] theorem v_AsList (n a : Nat) {x : Value} {w : World} (h : w.cell? ⟨a, 0, none⟩ = some x) : (method (n + 1) 102 (.pointer (some ⟨a, 0, none⟩)) "AsList").run Try.prog w = .ok (89, .agg #[x]) w := run_method_ptr (by kernel_rfl) Try.underlying102 n (run_loadV h)
@[go_sem] theorem v_AsListUsing (n a : Nat) {x : Value} {w : World} (h : w.cell? ⟨a, 0, none⟩ = some x) : (method (n + 1) 102 (.pointer (some ⟨a, 0, none⟩)) "AsListUsing").run Try.prog w = .ok (90, .agg #[x]) w := run_method_ptr (by kernel_rfl) Try.underlying102 n (run_loadV h)
@[go_sem] theorem v_AsMap (n a : Nat) {x : Value} {w : World} (h : w.cell? ⟨a, 0, none⟩ = some x) : (method (n + 1) 102 (.pointer (some ⟨a, 0, none⟩)) "AsMap").run Try.prog w = .ok (91, .agg #[x]) w := run_method_ptr (by kernel_rfl) Try.underlying102 n (run_loadV h)
@[go_sem] theorem v_AsMapUsing (n a : Nat) {x : Value} {w : World} (h : w.cell? ⟨a, 0, none⟩ = some x) : (method (n + 1) 102 (.pointer (some ⟨a, 0, none⟩)) "AsMapUsing").run Try.prog w = .ok (92, .agg #[x]) w := run_method_ptr (by kernel_rfl) Try.underlying102 n (run_loadV h)
@[go_sem] theorem v_AsString (n a : Nat) {x : Value} {w : World} (h : w.cell? ⟨a, 0, none⟩ = some x) : (method (n + 1) 102 (.pointer (some ⟨a, 0, none⟩)) "AsString").run Try.prog w = .ok (93, .agg #[x]) w := run_method_ptr (by kernel_rfl) Try.underlying102 n (run_loadV h)
@[go_sem] theorem v_IsBool (n a : Nat) {x : Value} {w : World} (h : w.cell? ⟨a, 0, none⟩ = some x) : (method (n + 1) 102 (.pointer (some ⟨a, 0, none⟩)) "IsBool").run Try.prog w = .ok (94, .agg #[x]) w := run_method_ptr (by kernel_rfl) Try.underlying102 n (run_loadV h)
@[go_sem] theorem v_IsFloat (n a : Nat) {x : Value} {w : World} (h : w.cell? ⟨a, 0, none⟩ = some x) : (method (n + 1) 102 (.pointer (some ⟨a, 0, none⟩)) "IsFloat").run Try.prog w = .ok (95, .agg #[x]) w := run_method_ptr (by kernel_rfl) Try.underlying102 n (run_loadV h)
@[go_sem] theorem v_IsInt (n a : Nat) {x : Value} {w : World} (h : w.cell? ⟨a, 0, none⟩ = some x) : (method (n + 1) 102 (.pointer (some ⟨a, 0, none⟩)) "IsInt").run Try.prog w = .ok (96, .agg #[x]) w := run_method_ptr (by kernel_rfl) Try.underlying102 n (run_loadV h)
@[go_sem] theorem v_IsList (n a : Nat) {x : Value} {w : World} (h : w.cell? ⟨a, 0, none⟩ = some x) : (method (n + 1) 102 (.pointer (some ⟨a, 0, none⟩)) "IsList").run Try.prog w = .ok (97, .agg #[x]) w := run_method_ptr (by kernel_rfl) Try.underlying102 n (run_loadV h)
@[go_sem] theorem v_IsMap (n a : Nat) {x : Value} {w : World} (h : w.cell? ⟨a, 0, none⟩ = some x) : (method (n + 1) 102 (.pointer (some ⟨a, 0, none⟩)) "IsMap").run Try.prog w = .ok (98, .agg #[x]) w := run_method_ptr (by kernel_rfl) Try.underlying102 n (run_loadV h)
@[go_sem] theorem v_IsNull (n a : Nat) {x : Value} {w : World} (h : w.cell? ⟨a, 0, none⟩ = some x) : (method (n + 1) 102 (.pointer (some ⟨a, 0, none⟩)) "IsNull").run Try.prog w = .ok (99, .agg #[x]) w := run_method_ptr (by kernel_rfl) Try.underlying102 n (run_loadV h)
@[go_sem] theorem v_IsString (n a : Nat) {x : Value} {w : World} (h : w.cell? ⟨a, 0, none⟩ = some x) : (method (n + 1) 102 (.pointer (some ⟨a, 0, none⟩)) "IsString").run Try.prog w = .ok (100, .agg #[x]) w := run_method_ptr (by kernel_rfl) Try.underlying102 n (run_loadV h)
@[go_sem] theorem v_Unstructured (n a : Nat) {x : Value} {w : World} (h : w.cell? ⟨a, 0, none⟩ = some x) : (method (n + 1) 102 (.pointer (some ⟨a, 0, none⟩)) "Unstructured").run Try.prog w = .ok (101, .agg #[x]) w := run_method_ptr (by kernel_rfl) Try.underlying102 n (run_loadV h)
theorem run_len_map {P : Program} {t k e : TypeId} (ht : P.underlying t = some (.map k e)) (ty : TypeId) {r : Nat} {es : Array MapEntry} {clock : Nat} {w : World} (h : w.heap[r]? = some (.map es clock)) : (Builtin.len_ #[t] ty #[.map (some r)]).run P w = .ok (.int .i64 es.size) w := by
  simp [Builtin.len_, run_underlying ht, goInt, MapKept.run_getObj_map h, Result.andThen, go_sem]
@[go_sem] theorem run_len_mus (ty : TypeId) {r : Nat} {es : Array MapEntry} {clock : Nat} {w : World} (h : w.heap[r]? = some (.map es clock)) : (Builtin.len_ #[159] ty #[.map (some r)]).run Try.prog w = .ok (.int .i64 es.size) w := run_len_map Try.underlying159 ty h
@[go_sem] theorem run_len_msi (ty : TypeId) {r : Nat} {es : Array MapEntry} {clock : Nat} {w : World} (h : w.heap[r]? = some (.map es clock)) : (Builtin.len_ #[105] ty #[.map (some r)]).run Try.prog w = .ok (.int .i64 es.size) w := run_len_map Try.underlying105 ty h
theorem run_field1 {P : Program} {T : TypeId} {i off : Nat} (h : (match P.underlying T with | some (.struct fs) => (match fs[i]? with | some f => (match P.underlying f.type with | some (.struct _) => none | some (.array _ _) => none | some _ => some f.offset | none => none) | none => none) | _ => none) = some off) {cs : Array Value} {v : Value} (hv : cs[off]? = some v) (w : World) :
    (Instr.field T (.agg cs) i).run P w = .ok v w := by
  unfold Instr.field
  cases hu : P.underlying T with
  | none => simp [hu] at h
  | some d =>
    cases d with
    | struct fs =>
      simp only [hu] at h
      cases hf : fs[i]? with
      | none => simp [hf] at h
      | some f =>
        simp only [hf] at h
        cases hd : P.underlying f.type with
        | none => simp [hd] at h
        | some d2 =>
          have hag : (isAgg f.type).run P w = .ok false w ∧ f.offset = off := by
            simp only [hd] at h
            unfold isAgg
            rw [Sem.run_bind, run_underlying hd w]
            cases d2 <;> simp_all
          simp [Sem.run_bind, run_underlying hu, hf, part, asAgg, hag.1, hag.2, hv]
    | _ => simp [hu] at h
@[go_sem] theorem run_field_val0 (c0 c1 c2 c3 c4 c5 : Value) (w : World) : (Instr.field 29 (.agg #[c0, c1, c2, c3, c4, c5]) 0).run Try.prog w = .ok c0 w := run_field1 (off := 0) (by kernel_rfl) rfl w
@[go_sem] theorem run_field_val1 (c0 c1 c2 c3 c4 c5 : Value) (w : World) : (Instr.field 29 (.agg #[c0, c1, c2, c3, c4, c5]) 1).run Try.prog w = .ok c1 w := run_field1 (off := 1) (by kernel_rfl) rfl w
@[go_sem] theorem run_field_val2 (c0 c1 c2 c3 c4 c5 : Value) (w : World) : (Instr.field 29 (.agg #[c0, c1, c2, c3, c4, c5]) 2).run Try.prog w = .ok c2 w := run_field1 (off := 2) (by kernel_rfl) rfl w
@[go_sem] theorem run_field_val3 (c0 c1 c2 c3 c4 c5 : Value) (w : World) : (Instr.field 29 (.agg #[c0, c1, c2, c3, c4, c5]) 3).run Try.prog w = .ok c3 w := run_field1 (off := 3) (by kernel_rfl) rfl w
@[go_sem] theorem run_field_val4 (c0 c1 c2 c3 c4 c5 : Value) (w : World) : (Instr.field 29 (.agg #[c0, c1, c2, c3, c4, c5]) 4).run Try.prog w = .ok c4 w := run_field1 (off := 4) (by kernel_rfl) rfl w
@[go_sem] theorem run_field_val5 (c0 c1 c2 c3 c4 c5 : Value) (w : World) : (Instr.field 29 (.agg #[c0, c1, c2, c3, c4, c5]) 5).run Try.prog w = .ok c5 w := run_field1 (off := 5) (by kernel_rfl) rfl w
end Go.Smd
end
