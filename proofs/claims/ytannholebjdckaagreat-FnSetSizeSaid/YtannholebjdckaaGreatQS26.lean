/- Part 26 of the proof: Cw Ov Or. -/
import Derived.Test.YtannholebjdckaaGreatQS24
import Derived.Test.YtannholebjdckaaGreatQS21
set_option linter.unusedVariables false
section
set_option linter.unusedSimpArgs false
set_option maxRecDepth 100000
set_option maxHeartbeats 8000000
namespace Go.Smd
open Go.RowKit Go.Proofs
def cmpGF (p q : ByteArray × GV) : Int := if cmpS p.1 q.1 ≠ 0 then cmpS p.1 q.1 else cmpP (clean p.2) (clean q.2)
theorem sCompareKeys_x (k : Int) (s : ByteArray) (keys : List ByteArray) (l : List GV) (a b : Int) (c : Nat) (d : ByteArray) (e : List ByteArray) (f : List GV) (n : Int) (k' : Int) (s' : ByteArray) (keys' : List ByteArray) (l' : List GV) (a' b' : Int) (c' : Nat) (d' : ByteArray) (e' : List ByteArray) (f' : List GV) (n' : Int) (hk : keys.length * 16 ≤ 140737488351232) (hl : l.length * 88 ≤ 140737488351232) (hk' : keys'.length * 16 ≤ 140737488351232) (hl' : l'.length * 88 ≤ 140737488351232) :
    ACalls Tryz.prog 114 [evX k s keys l a b c d e f n, evX k' s' keys' l' a' b' c' d' e' f' n'] (fun r => r = aI (cmpRow cmpGF (keys.zip l) (keys'.zip l'))) := by
  refine acalls_ex [(4, ([10], [(0, []), (1, []), (2, []), (3, []), (4, []), (5, []), (6, []), (7, []), (8, []), (9, []), (10, []), (11, [])])), (7, ([10], [(0, []), (1, []), (2, []), (3, []), (4, []), (5, []), (6, []), (7, []), (8, []), (9, []), (10, []), (11, [])]))] Tryz.func114 (by kernel_rfl) rfl Tryz.ntmps114 Tryz.results114 (Nat.le_of_ble_eq_true (by kernel_rfl)) ?_; intro hok w0 S0
  clear hok
  have b1 : keys.length ≤ 9223372036854775807 := by omega
  have b2 : l.length ≤ 9223372036854775807 := by omega
  have b3 : keys'.length ≤ 9223372036854775807 := by omega
  have b4 : l'.length ≤ 9223372036854775807 := by omega
  obtain ⟨m, hm⟩ : ∃ m : Nat, m = min keys.length l.length := ⟨_, rfl⟩
  have hmin : min (keys.length : Int) (l.length : Int) = (m : Int) := by omega
  obtain ⟨m', hm'⟩ : ∃ m' : Nat, m' = min keys'.length l'.length := ⟨_, rfl⟩
  have hmin' : min (keys'.length : Int) (l'.length : Int) = (m' : Int) := by omega
  have z1 : (keys.zip l).length = m := by simp [hm]
  have z2 : (keys'.zip l').length = m' := by simp [hm']
  have hcc := compareInts_v (m : Int) m'
  (repeat' (first | (with_reducible refine br_d (fun _ => ?_) (fun _ => ?_)) | (with_reducible refine br_i (fun _ => ?_) (fun _ => ?_)) | (with_reducible refine dn_i follows_any (by kernel_rfl) ?_) | (with_reducible exact done_eq rfl) | (simp -dsimp))); (all_goals try with_reducible refine done_eq ?_)
  refine ex_loop (fun i : Nat => ⟨[(2, .c (.own 2 0)), (3, .c (.own 3 0)), (5, aI i)], [(3, .cells [.d (dI k'), .d (dS s'), .d (dStrs keys'), .d (dGVs l'), .d (dI a'), .d (dI b'), .d (dF c'), .d (dS d'), .d (dStrs e'), .d (dGVs f'), .d (dI n')] 33), (2, .cells [.d (dI k), .d (dS s), .d (dStrs keys), .d (dGVs l), .d (dI a), .d (dI b), .d (dF c), .d (dS d), .d (dStrs e), .d (dGVs f), .d (dI n)] 33)]⟩) (fun i => i ≤ m ∧ i ≤ m' ∧ cmpRow cmpGF (keys.zip l) (keys'.zip l') = cmpRow cmpGF ((keys.zip l).drop i) ((keys'.zip l').drop i)) (fun i => m - i) 0 ?_ ⟨Nat.zero_le _, Nat.zero_le _, rfl⟩ ?_
  · exact Weak.same (by simp -dsimp) (by simp -dsimp) (by first | rfl | (simp [closedSt, Av.ids, Ow.ids, Cl.ids, Go.Smd.keys]; done))
  · rintro i ⟨hi, hj, heq⟩ K hK
    have hw : IntKind.wrap .i64 ((i : Int) + 1) = ((i + 1 : Nat) : Int) := by rw [wrap_i64] <;> omega
    have hend : ¬ (i < m ∧ i < m') → cmpRow cmpGF (keys.zip l) (keys'.zip l') = cmpI (m : Int) m' := fun h => by
      have := heq.trans (cmpRow_stop (by omega) (by omega) fun h' => h (by omega))
      rwa [z1, z2] at this
    by_cases h1 : i < keys.length
    · by_cases h2 : i < l.length
      · by_cases h3 : i < keys'.length
        · by_cases h4 : i < l'.length
          · have hc := heq.trans (cmpRow_at (by omega) (by omega))
            have e1 : (keys.zip l)[i]'(by omega) = (keys[i], l[i]) := by simp
            have e2 : (keys'.zip l')[i]'(by omega) = (keys'[i], l'[i]) := by simp
            rw [e1, e2] at hc
            have hs := compareStrings_v keys[i] keys'[i]
            have hv := sCompareValues_a l[i] l'[i]
            by_cases hy : cmpS keys[i] keys'[i] = 0
            · have hf : cmpGF (keys[i], l[i]) (keys'[i], l'[i]) = cmpP (clean l[i]) (clean l'[i]) := by unfold cmpGF; rw [if_neg (by simpa using hy)]
              rw [hf] at hc
              rw [hy] at hs
              by_cases hz : cmpP (clean l[i]) (clean l'[i]) = 0
              · rw [if_neg (by simpa using hz)] at hc
                rw [hz] at hv
                (repeat' (first | (with_reducible refine br_d (fun _ => ?_) (fun _ => ?_)) | (with_reducible refine br_i (fun _ => ?_) (fun _ => ?_)) | (with_reducible refine nd_v (hs) (by first | rfl | (simp -dsimp [hw, b1, b2, b3, b4, h1, h2, h3, h4, rowS]; done)) ?_) | (with_reducible refine nw_v (hs) rfl (by first | rfl | (simp -dsimp [hw, b1, b2, b3, b4, h1, h2, h3, h4, rowS]; done)) (by first | rfl | (simp -dsimp [hw, b1, b2, b3, b4, h1, h2, h3, h4, rowS]; done)) ?_) | (with_reducible refine nd_v (hv) (by first | rfl | (simp -dsimp [hw, b1, b2, b3, b4, h1, h2, h3, h4, rowS]; done)) ?_) | (with_reducible refine nw_v (hv) rfl (by first | rfl | (simp -dsimp [hw, b1, b2, b3, b4, h1, h2, h3, h4, rowS]; done)) (by first | rfl | (simp -dsimp [hw, b1, b2, b3, b4, h1, h2, h3, h4, rowS]; done)) ?_) | (with_reducible refine dn_i follows_any (by kernel_rfl) ?_) | (with_reducible exact done_eq rfl) | (simp -dsimp [hw, b1, b2, b3, b4, h1, h2, h3, h4, rowS]))); (all_goals try with_reducible refine done_eq ?_)
                refine hK _ (i + 1) ?_ ⟨by omega, by omega, hc⟩ (by omega)
                exact Weak.same (by simp -dsimp) (by simp -dsimp) (by first | rfl | (simp [closedSt, Av.ids, Ow.ids, Cl.ids, Go.Smd.keys]; done))
              · rw [if_pos hz] at hc
                (repeat' (first | (with_reducible refine br_d (fun _ => ?_) (fun _ => ?_)) | (with_reducible refine br_i (fun _ => ?_) (fun _ => ?_)) | (with_reducible refine nd_v (hs) (by first | rfl | (simp -dsimp [hw, b1, b2, b3, b4, h1, h2, h3, h4, hz, rowS]; done)) ?_) | (with_reducible refine nw_v (hs) rfl (by first | rfl | (simp -dsimp [hw, b1, b2, b3, b4, h1, h2, h3, h4, hz, rowS]; done)) (by first | rfl | (simp -dsimp [hw, b1, b2, b3, b4, h1, h2, h3, h4, hz, rowS]; done)) ?_) | (with_reducible refine nd_v (hv) (by first | rfl | (simp -dsimp [hw, b1, b2, b3, b4, h1, h2, h3, h4, hz, rowS]; done)) ?_) | (with_reducible refine nw_v (hv) rfl (by first | rfl | (simp -dsimp [hw, b1, b2, b3, b4, h1, h2, h3, h4, hz, rowS]; done)) (by first | rfl | (simp -dsimp [hw, b1, b2, b3, b4, h1, h2, h3, h4, hz, rowS]; done)) ?_) | (with_reducible refine dn_i follows_any (by kernel_rfl) ?_) | (with_reducible exact done_eq rfl) | (simp -dsimp [hw, b1, b2, b3, b4, h1, h2, h3, h4, hz, rowS]))); (all_goals try with_reducible refine done_eq ?_)
                rw [hc]
            · have hf : cmpGF (keys[i], l[i]) (keys'[i], l'[i]) = cmpS keys[i] keys'[i] := by unfold cmpGF; rw [if_pos hy]
              rw [hf, if_pos hy] at hc
              (repeat' (first | (with_reducible refine br_d (fun _ => ?_) (fun _ => ?_)) | (with_reducible refine br_i (fun _ => ?_) (fun _ => ?_)) | (with_reducible refine nd_v (hs) (by first | rfl | (simp -dsimp [hw, b1, b2, b3, b4, h1, h2, h3, h4, hy, rowS]; done)) ?_) | (with_reducible refine nw_v (hs) rfl (by first | rfl | (simp -dsimp [hw, b1, b2, b3, b4, h1, h2, h3, h4, hy, rowS]; done)) (by first | rfl | (simp -dsimp [hw, b1, b2, b3, b4, h1, h2, h3, h4, hy, rowS]; done)) ?_) | (with_reducible refine dn_i follows_any (by kernel_rfl) ?_) | (with_reducible exact done_eq rfl) | (simp -dsimp [hw, b1, b2, b3, b4, h1, h2, h3, h4, hy, rowS]))); (all_goals try with_reducible refine done_eq ?_)
              rw [hc]
          · have hc := hend (by omega)
            (repeat' (first | (with_reducible refine br_d (fun _ => ?_) (fun _ => ?_)) | (with_reducible refine br_i (fun _ => ?_) (fun _ => ?_)) | (with_reducible refine nd_v (hcc) (by first | rfl | (simp -dsimp [b1, b2, b3, b4, h1, h2, h3, h4, hmin, hmin']; done)) ?_) | (with_reducible refine nw_v (hcc) rfl (by first | rfl | (simp -dsimp [b1, b2, b3, b4, h1, h2, h3, h4, hmin, hmin']; done)) (by first | rfl | (simp -dsimp [b1, b2, b3, b4, h1, h2, h3, h4, hmin, hmin']; done)) ?_) | (with_reducible refine dn_i follows_any (by kernel_rfl) ?_) | (with_reducible exact done_eq rfl) | (simp -dsimp [b1, b2, b3, b4, h1, h2, h3, h4, hmin, hmin']))); (all_goals try with_reducible refine done_eq ?_)
            rw [hc]
        · have hc := hend (by omega)
          (repeat' (first | (with_reducible refine br_d (fun _ => ?_) (fun _ => ?_)) | (with_reducible refine br_i (fun _ => ?_) (fun _ => ?_)) | (with_reducible refine nd_v (hcc) (by first | rfl | (simp -dsimp [b1, b2, b3, b4, h1, h2, h3, hmin, hmin']; done)) ?_) | (with_reducible refine nw_v (hcc) rfl (by first | rfl | (simp -dsimp [b1, b2, b3, b4, h1, h2, h3, hmin, hmin']; done)) (by first | rfl | (simp -dsimp [b1, b2, b3, b4, h1, h2, h3, hmin, hmin']; done)) ?_) | (with_reducible refine dn_i follows_any (by kernel_rfl) ?_) | (with_reducible exact done_eq rfl) | (simp -dsimp [b1, b2, b3, b4, h1, h2, h3, hmin, hmin']))); (all_goals try with_reducible refine done_eq ?_)
          rw [hc]
      · have hc := hend (by omega)
        (repeat' (first | (with_reducible refine br_d (fun _ => ?_) (fun _ => ?_)) | (with_reducible refine br_i (fun _ => ?_) (fun _ => ?_)) | (with_reducible refine nd_v (hcc) (by first | rfl | (simp -dsimp [b1, b2, b3, b4, h1, h2, hmin, hmin']; done)) ?_) | (with_reducible refine nw_v (hcc) rfl (by first | rfl | (simp -dsimp [b1, b2, b3, b4, h1, h2, hmin, hmin']; done)) (by first | rfl | (simp -dsimp [b1, b2, b3, b4, h1, h2, hmin, hmin']; done)) ?_) | (with_reducible refine dn_i follows_any (by kernel_rfl) ?_) | (with_reducible exact done_eq rfl) | (simp -dsimp [b1, b2, b3, b4, h1, h2, hmin, hmin']))); (all_goals try with_reducible refine done_eq ?_)
        rw [hc]
    · have hc := hend (by omega)
      (repeat' (first | (with_reducible refine br_d (fun _ => ?_) (fun _ => ?_)) | (with_reducible refine br_i (fun _ => ?_) (fun _ => ?_)) | (with_reducible refine nd_v (hcc) (by first | rfl | (simp -dsimp [b1, b2, b3, b4, h1, hmin, hmin']; done)) ?_) | (with_reducible refine nw_v (hcc) rfl (by first | rfl | (simp -dsimp [b1, b2, b3, b4, h1, hmin, hmin']; done)) (by first | rfl | (simp -dsimp [b1, b2, b3, b4, h1, hmin, hmin']; done)) ?_) | (with_reducible refine dn_i follows_any (by kernel_rfl) ?_) | (with_reducible exact done_eq rfl) | (simp -dsimp [b1, b2, b3, b4, h1, hmin, hmin']))); (all_goals try with_reducible refine done_eq ?_)
      rw [hc]
def cmpEl (e e' : EV) : Int :=
  if cmpI (rkE e.k) (rkE e'.k) ≠ 0 then cmpI (rkE e.k) (rkE e'.k)
  else if rkE e.k = 1 then cmpRow cmpGF (e.keys.zip e.l) (e'.keys.zip e'.l) else if rkE e.k = 2 then cmpP (clean e.v) (clean e'.v) else if rkE e.k = 3 then cmpI e.n e'.n else cmpS e.s e'.s
theorem sCompareElems_a (e e' : EV) (h : e.keys.length * 16 ≤ 140737488351232 ∧ e.l.length * 88 ≤ 140737488351232) (h' : e'.keys.length * 16 ≤ 140737488351232 ∧ e'.l.length * 88 ≤ 140737488351232) :
    ACalls Tryz.prog 62 [evA e, evA e'] (fun r => r = aI (cmpEl e e')) := by
  obtain ⟨k, s, keys, l, ⟨a, b, c, d, e, f⟩, n⟩ := e
  obtain ⟨k', s', keys', l', ⟨a', b', c', d', e', f'⟩, n'⟩ := e'
  dsimp only at h h'
  rw [evA_x, evA_x]
  simp only [cmpEl]
  have c1 := elemRank_x k s keys l a b c d e f n
  have c2 := elemRank_x k' s' keys' l' a' b' c' d' e' f' n'
  obtain ⟨R, hR⟩ : ∃ R, R = rkE k := ⟨_, rfl⟩
  rw [← hR] at c1 ⊢
  have c3 := compareInts_v R (rkE k')
  have c4 := sCompareKeys_x k s keys l a b c d e f n k' s' keys' l' a' b' c' d' e' f' n' h.1 h.2 h'.1 h'.2
  have c5 := sCompareValues_a (.mk a b c d e f) (.mk a' b' c' d' e' f')
  rw [gvA_x, gvA_x] at c5
  have c6 := compareInts_v n n'
  have c7 := compareStrings_v s s'
  by_cases hz : cmpI R (rkE k') = 0
  · rw [hz] at c3
    rw [if_neg (by simpa using hz)]
    refine acalls_ex [(1, ([3, 4], [(0, []), (2, []), (1, []), (3, []), (4, []), (5, [])]))] Tryz.func62 (by kernel_rfl) rfl Tryz.ntmps62 Tryz.results62 (Nat.le_of_ble_eq_true (by kernel_rfl)) ?_; intro hok w0 S0
    clear hok
    (repeat' (first | (with_reducible refine br_d (fun _ => ?_) (fun _ => ?_)) | (with_reducible refine br_i (fun _ => ?_) (fun _ => ?_)) | (with_reducible refine nd_v (c1) (by first | rfl | (simp -dsimp; done)) ?_) | (with_reducible refine nw_v (c1) rfl (by first | rfl | (simp -dsimp; done)) (by first | rfl | (simp -dsimp; done)) ?_) | (with_reducible refine nd_v (c2) (by first | rfl | (simp -dsimp; done)) ?_) | (with_reducible refine nw_v (c2) rfl (by first | rfl | (simp -dsimp; done)) (by first | rfl | (simp -dsimp; done)) ?_) | (with_reducible refine nd_v (c3) (by first | rfl | (simp -dsimp; done)) ?_) | (with_reducible refine nw_v (c3) rfl (by first | rfl | (simp -dsimp; done)) (by first | rfl | (simp -dsimp; done)) ?_) | (with_reducible refine nd_v (c4) (by first | rfl | (simp -dsimp; done)) ?_) | (with_reducible refine nw_v (c4) rfl (by first | rfl | (simp -dsimp; done)) (by first | rfl | (simp -dsimp; done)) ?_) | (with_reducible refine nd_v (c5) (by first | rfl | (simp -dsimp; done)) ?_) | (with_reducible refine nw_v (c5) rfl (by first | rfl | (simp -dsimp; done)) (by first | rfl | (simp -dsimp; done)) ?_) | (with_reducible refine nd_v (c6) (by first | rfl | (simp -dsimp; done)) ?_) | (with_reducible refine nw_v (c6) rfl (by first | rfl | (simp -dsimp; done)) (by first | rfl | (simp -dsimp; done)) ?_) | (with_reducible refine nd_v (c7) (by first | rfl | (simp -dsimp; done)) ?_) | (with_reducible refine nw_v (c7) rfl (by first | rfl | (simp -dsimp; done)) (by first | rfl | (simp -dsimp; done)) ?_) | (with_reducible refine dn_i follows_any (by kernel_rfl) ?_) | (with_reducible exact done_eq rfl) | (simp -dsimp))); (all_goals try with_reducible refine done_eq ?_)
    all_goals simp_all
  · rw [if_pos hz]
    refine acalls_ex [(1, ([3, 4], [(0, []), (2, []), (1, []), (3, []), (4, []), (5, [])]))] Tryz.func62 (by kernel_rfl) rfl Tryz.ntmps62 Tryz.results62 (Nat.le_of_ble_eq_true (by kernel_rfl)) ?_; intro hok w0 S0
    clear hok
    (repeat' (first | (with_reducible refine br_d (fun _ => ?_) (fun _ => ?_)) | (with_reducible refine br_i (fun _ => ?_) (fun _ => ?_)) | (with_reducible refine nd_v (c1) (by first | rfl | (simp -dsimp [hz]; done)) ?_) | (with_reducible refine nw_v (c1) rfl (by first | rfl | (simp -dsimp [hz]; done)) (by first | rfl | (simp -dsimp [hz]; done)) ?_) | (with_reducible refine nd_v (c2) (by first | rfl | (simp -dsimp [hz]; done)) ?_) | (with_reducible refine nw_v (c2) rfl (by first | rfl | (simp -dsimp [hz]; done)) (by first | rfl | (simp -dsimp [hz]; done)) ?_) | (with_reducible refine nd_v (c3) (by first | rfl | (simp -dsimp [hz]; done)) ?_) | (with_reducible refine nw_v (c3) rfl (by first | rfl | (simp -dsimp [hz]; done)) (by first | rfl | (simp -dsimp [hz]; done)) ?_) | (with_reducible refine dn_i follows_any (by kernel_rfl) ?_) | (with_reducible exact done_eq rfl) | (simp -dsimp [hz]))); (all_goals try with_reducible refine done_eq ?_)
theorem cmpFd_GF {p q : ByteArray × GV} (hp : Fits (treeOf p.2)) (hq : Fits (treeOf q.2)) : cmpFd (p.1, treeOf p.2) (q.1, treeOf q.2) = cmpGF p q := by
  unfold cmpFd cmpGF
  rw [cmpV_spec _ _ hp hq]
theorem cmpLE_cmpEl (e e' : EV) (h : FitsE e) (h' : FitsE e') : cmpLE (toLE e) (toLE e') = cmpEl e e' := by
  have h1 : cmpRow cmpFd (zipF e.keys e.l) (zipF e'.keys e'.l) = cmpRow cmpGF (e.keys.zip e.l) (e'.keys.zip e'.l) := by
    rw [zipF_eq, zipF_eq]
    exact cmpRow_map fun x hx y hy => cmpFd_GF (h.zip x hx) (h'.zip y hy)
  have h2 := cmpV_spec e.v e'.v h.val h'.val
  unfold toLE cmpEl rkE
  by_cases k1 : e.k = 1
  · by_cases k1' : e'.k = 1
    · simp [k1, k1', cmpLE, h1, cmpI]
    · by_cases k2' : e'.k = 2
      · simp [k1, k2', cmpLE, cmpI]
      · by_cases k3' : e'.k = 3 <;> simp [k1, k1', k2', k3', cmpLE, cmpI]
  · by_cases k2 : e.k = 2
    · by_cases k1' : e'.k = 1
      · simp [k2, k1', cmpLE, cmpI]
      · by_cases k2' : e'.k = 2
        · simp [k2, k2', cmpLE, h2, cmpI]
        · by_cases k3' : e'.k = 3 <;> simp [k2, k1', k2', k3', cmpLE, cmpI]
    · by_cases k3 : e.k = 3
      · by_cases k1' : e'.k = 1
        · simp [k3, k1', cmpLE, cmpI]
        · by_cases k2' : e'.k = 2
          · simp [k3, k2', cmpLE, cmpI]
          · by_cases k3' : e'.k = 3 <;> simp [k3, k1', k2', k3', cmpLE, cmpI]
      · by_cases k1' : e'.k = 1
        · simp [k1, k2, k3, k1', cmpLE, cmpI]
        · by_cases k2' : e'.k = 2
          · simp [k1, k2, k3, k2', cmpLE, cmpI]
          · by_cases k3' : e'.k = 3 <;> simp [k1, k2, k3, k1', k2', k3', cmpLE, cmpI]
end Go.Smd
end
section
set_option linter.unusedSimpArgs false
set_option maxRecDepth 100000
set_option maxHeartbeats 8000000
namespace Go.Smd
open Go.RowKit Go.Proofs
theorem orderlyValues_v (l : List GV) (hl : l.length * 88 ≤ 140737488351232) : ACalls Tryz.prog 60 [.c (.d (dGVs l))] (fun r => r = aV (.bool (l.all orderly))) := by
  refine acalls_ex [] Tryz.func60 (by kernel_rfl) rfl Tryz.ntmps60 Tryz.results60 (Nat.le_of_ble_eq_true (by kernel_rfl)) ?_; intro hok w0 S0
  clear hok
  have b1 : l.length ≤ 9223372036854775807 := by omega
  (repeat' (first | (with_reducible refine br_d (fun _ => ?_) (fun _ => ?_)) | (with_reducible refine br_i (fun _ => ?_) (fun _ => ?_)) | (with_reducible refine dn_i follows_any (by kernel_rfl) ?_) | (with_reducible exact done_eq rfl) | (simp -dsimp [b1]))); (all_goals try with_reducible refine done_eq ?_)
  refine ex_loop (fun i : Nat => ⟨[(5, .c (.d (dGVs l))), (6, aI l.length), (7, aI i)], []⟩) (fun i => i ≤ l.length ∧ (l.take i).all orderly = true) (fun i => l.length - i) 0 ?_ ⟨Nat.zero_le _, rfl⟩ ?_
  · exact Weak.same (by simp -dsimp) (by simp -dsimp) (by first | rfl | (simp [closedSt, Av.ids, Ow.ids, Cl.ids, Go.Smd.keys]; done))
  · rintro i ⟨hi, hall⟩ K hK
    by_cases hlt : i < l.length
    · have hw : IntKind.wrap .i64 ((i : Int) + 1) = ((i + 1 : Nat) : Int) := by rw [wrap_i64] <;> omega
      have ho := orderly_a l[i]
      by_cases hz : orderly l[i] = true
      · rw [hz] at ho
        (repeat' (first | (with_reducible refine br_d (fun _ => ?_) (fun _ => ?_)) | (with_reducible refine br_i (fun _ => ?_) (fun _ => ?_)) | (with_reducible refine nd_v (ho) (by first | rfl | (simp -dsimp [b1, hlt, hw]; done)) ?_) | (with_reducible refine nw_v (ho) rfl (by first | rfl | (simp -dsimp [b1, hlt, hw]; done)) (by first | rfl | (simp -dsimp [b1, hlt, hw]; done)) ?_) | (with_reducible refine dn_i follows_any (by kernel_rfl) ?_) | (with_reducible exact done_eq rfl) | (simp -dsimp [b1, hlt, hw]))); (all_goals try with_reducible refine done_eq ?_)
        refine hK _ (i + 1) ?_ ⟨by omega, by rw [List.take_succ_eq_append_getElem hlt, List.all_append, hall]; simp [hz]⟩ (by omega)
        exact Weak.same (by simp -dsimp) (by simp -dsimp) (by first | rfl | (simp [closedSt, Av.ids, Ow.ids, Cl.ids, Go.Smd.keys]; done))
      · have hz : orderly l[i] = false := by simpa using hz
        rw [hz] at ho
        (repeat' (first | (with_reducible refine br_d (fun _ => ?_) (fun _ => ?_)) | (with_reducible refine br_i (fun _ => ?_) (fun _ => ?_)) | (with_reducible refine nd_v (ho) (by first | rfl | (simp -dsimp [b1, hlt, hw]; done)) ?_) | (with_reducible refine nw_v (ho) rfl (by first | rfl | (simp -dsimp [b1, hlt, hw]; done)) (by first | rfl | (simp -dsimp [b1, hlt, hw]; done)) ?_) | (with_reducible refine dn_i follows_any (by kernel_rfl) ?_) | (with_reducible exact done_eq rfl) | (simp -dsimp [b1, hlt, hw]))); (all_goals try with_reducible refine done_eq ?_)
        have : l.all orderly = false := by
          rw [Bool.eq_false_iff]
          intro h
          have := List.all_eq_true.1 h _ (List.getElem_mem hlt)
          rw [hz] at this; cases this
        rw [this]
    · have e : l.take i = l := List.take_of_length_le (by omega)
      rw [e] at hall
      rw [hall]
      (repeat' (first | (with_reducible refine br_d (fun _ => ?_) (fun _ => ?_)) | (with_reducible refine br_i (fun _ => ?_) (fun _ => ?_)) | (with_reducible refine dn_i follows_any (by kernel_rfl) ?_) | (with_reducible exact done_eq rfl) | (simp -dsimp [hlt]))); (all_goals try with_reducible refine done_eq ?_)
end Go.Smd
end
section
set_option linter.unusedSimpArgs false
set_option maxRecDepth 100000
namespace Go.Smd
open Go.RowKit Go.Proofs
structure Ord3 {α : Type} (O : α → Prop) (c : α → α → Int) : Prop where
  anti : ∀ x y, O x → O y → c y x = - c x y
  trans : ∀ x y z, O x → O y → O z → c x y ≤ 0 → c y z ≤ 0 → c x z ≤ 0
section
variable {α : Type} {O : α → Prop} {c d : α → α → Int}
theorem Ord3.refl (h : Ord3 O c) {x : α} (hx : O x) : c x x = 0 := by have := h.anti x x hx hx; omega
theorem Ord3.lt_le (h : Ord3 O c) {x y z : α} (hx : O x) (hy : O y) (hz : O z) (h1 : c x y < 0) (h2 : c y z ≤ 0) : c x z < 0 := by
  apply Classical.byContradiction
  intro hn
  have h3 := h.anti x z hx hz
  have h4 := h.trans y z x hy hz hx h2 (by omega)
  have h5 := h.anti x y hx hy
  omega
theorem Ord3.le_lt (h : Ord3 O c) {x y z : α} (hx : O x) (hy : O y) (hz : O z) (h1 : c x y ≤ 0) (h2 : c y z < 0) : c x z < 0 := by
  apply Classical.byContradiction
  intro hn
  have h3 := h.anti x z hx hz
  have h4 := h.trans z x y hz hx hy (by omega) h1
  have h5 := h.anti y z hy hz
  omega
theorem Ord3.eq_trans (h : Ord3 O c) {x y z : α} (hx : O x) (hy : O y) (hz : O z) (h1 : c x y = 0) (h2 : c y z = 0) : c x z = 0 := by
  have h3 := h.trans x y z hx hy hz (by omega) (by omega)
  have a1 := h.anti x y hx hy
  have a2 := h.anti y z hy hz
  have h4 := h.trans z y x hz hy hx (by omega) (by omega)
  have a3 := h.anti x z hx hz
  omega
theorem Ord3.mono {O' : α → Prop} (h : Ord3 O c) (k : ∀ x, O' x → O x) : Ord3 O' c := ⟨fun x y hx hy => h.anti x y (k x hx) (k y hy), fun x y z hx hy hz => h.trans x y z (k x hx) (k y hy) (k z hz)⟩
theorem Ord3.congr (h : Ord3 O c) (k : ∀ x y, O x → O y → d x y = c x y) : Ord3 O d :=
  ⟨fun x y hx hy => by rw [k x y hx hy, k y x hy hx]; exact h.anti x y hx hy, fun x y z hx hy hz => by rw [k x y hx hy, k y z hy hz, k x z hx hz]; exact h.trans x y z hx hy hz⟩
theorem Ord3.comap {β : Type} (h : Ord3 O c) (f : β → α) : Ord3 (fun x => O (f x)) (fun x y => c (f x) (f y)) := ⟨fun x y hx hy => h.anti _ _ hx hy, fun x y z hx hy hz => h.trans _ _ _ hx hy hz⟩
theorem Ord3.lex (h : Ord3 O c) (ha : ∀ x y, O x → O y → c x y = 0 → d y x = - d x y) (ht : ∀ x y z, O x → O y → O z → c x y = 0 → c y z = 0 → d x y ≤ 0 → d y z ≤ 0 → d x z ≤ 0) : Ord3 O (fun x y => if c x y ≠ 0 then c x y else d x y) := by
  refine ⟨fun x y hx hy => ?_, fun x y z hx hy hz h1 h2 => ?_⟩
  · have a := h.anti x y hx hy
    by_cases e : c x y = 0
    · rw [if_neg (by omega), if_neg (by omega)]; exact ha x y hx hy e
    · rw [if_pos (by omega), if_pos e]; exact a
  · try dsimp only at h1 h2 ⊢
    by_cases e1 : c x y = 0
    · rw [if_neg (by omega)] at h1
      by_cases e2 : c y z = 0
      · rw [if_neg (by omega)] at h2
        have e3 := h.eq_trans hx hy hz e1 e2
        rw [if_neg (by omega)]
        exact ht x y z hx hy hz e1 e2 h1 h2
      · rw [if_pos e2] at h2
        have := h.le_lt hx hy hz (by omega) (show c y z < 0 by omega)
        rw [if_pos (by omega)]; omega
    · rw [if_pos e1] at h1
      have h2' : c y z ≤ 0 := by
        by_cases e2 : c y z = 0
        · omega
        · rw [if_pos e2] at h2; exact h2
      have := h.lt_le hx hy hz (show c x y < 0 by omega) h2'
      rw [if_pos (by omega)]; omega
theorem Ord3.row (h : Ord3 O c) : Ord3 (fun l : List α => ∀ x ∈ l, O x) (cmpRow c) := by
  have anti : ∀ l m : List α, (∀ x ∈ l, O x) → (∀ x ∈ m, O x) → cmpRow c m l = - cmpRow c l m := by
    intro l
    induction l with
    | nil => intro m _ _; cases m <;> simp [cmpRow]
    | cons x l ih =>
      intro m hl hm
      cases m with
      | nil => simp [cmpRow]
      | cons y m =>
        have a := h.anti x y (hl x (List.mem_cons_self ..)) (hm y (List.mem_cons_self ..))
        have i := ih m (fun a ha => hl a (List.mem_cons_of_mem _ ha)) fun a ha => hm a (List.mem_cons_of_mem _ ha)
        simp only [cmpRow]
        by_cases e : c x y = 0
        · rw [if_neg (by omega), if_neg (by omega)]; exact i
        · rw [if_pos (by omega), if_pos e]; exact a
  refine ⟨anti, fun l => ?_⟩
  induction l with
  | nil => intro m n _ _ _ _ h2; cases n <;> simp [cmpRow]
  | cons x l ih =>
    intro m n hl hm hn h1 h2
    cases m with
    | nil => simp [cmpRow] at h1
    | cons y m => cases n with
      | nil => simp [cmpRow] at h2
      | cons z n =>
        have hx := hl x (List.mem_cons_self ..)
        have hy := hm y (List.mem_cons_self ..)
        have hz := hn z (List.mem_cons_self ..)
        have i := ih m n (fun a ha => hl a (List.mem_cons_of_mem _ ha)) (fun a ha => hm a (List.mem_cons_of_mem _ ha)) (fun a ha => hn a (List.mem_cons_of_mem _ ha))
        simp only [cmpRow] at h1 h2 ⊢
        by_cases e1 : c x y = 0
        · rw [if_neg (by omega)] at h1
          by_cases e2 : c y z = 0
          · rw [if_neg (by omega)] at h2
            have e3 := h.eq_trans hx hy hz e1 e2
            rw [if_neg (by omega)]
            exact i h1 h2
          · rw [if_pos e2] at h2
            have := h.le_lt hx hy hz (by omega) (show c y z < 0 by omega)
            rw [if_pos (by omega)]; omega
        · rw [if_pos e1] at h1
          have h2' : c y z ≤ 0 := by
            by_cases e2 : c y z = 0
            · omega
            · rw [if_pos e2] at h2; exact h2
          have := h.lt_le hx hy hz (show c x y < 0 by omega) h2'
          rw [if_pos (by omega)]; omega
theorem cmpI_ord : Ord3 (fun _ : Int => True) cmpI := by
  refine ⟨fun x y _ _ => ?_, fun x y z _ _ _ => ?_⟩
  · unfold cmpI; repeat' split
    all_goals omega
  · unfold cmpI; repeat' split
    all_goals omega
theorem cmpBytes_row : ∀ l m : List UInt8, Lib.compareBytes l m = cmpRow (fun a b => cmpI (a.toNat : Int) b.toNat) l m
  | [], [] => rfl
  | [], _ :: _ => rfl
  | _ :: _, [] => rfl
  | a :: l, b :: m => by
    rw [cmpBytes_cons]
    simp only [cmpRow]
    by_cases e : a = b
    · subst e; rw [if_pos rfl, cmpI_self, if_neg (by simp)]; exact cmpBytes_row l m
    · have : cmpI (a.toNat : Int) b.toNat ≠ 0 := by
        intro h
        refine e (UInt8.toNat_inj.1 ?_)
        unfold cmpI at h
        split at h
        · omega
        · split at h <;> omega
      rw [if_neg e, if_pos this]
theorem cmpS_ord : Ord3 (fun _ : ByteArray => True) cmpS := by
  have h := ((cmpI_ord.comap (fun a : UInt8 => (a.toNat : Int))).row).comap (fun s : ByteArray => s.data.toList)
  exact (h.mono fun x _ a _ => trivial).congr fun x y _ _ => cmpBytes_row _ _
end
def numAt (b : Int) : Ieee.Datum → Int
  | .number s m i => Ieee.signed s m (i - b).toNat
  | .infinity _ => 0
  | .nan _ _ => 0
def sideOf : Ieee.Datum → Int
  | .infinity s => if s then -1 else 1
  | _ => 0
def placeOf : Ieee.Datum → Int
  | .number _ _ i => i
  | _ => 0
theorem signed_shift (s : Bool) (m k t : Nat) : Ieee.signed s m (k + t) = Ieee.signed s m k * ((2 ^ t : Nat) : Int) := by
  unfold Ieee.signed
  have : m <<< (k + t) = (m <<< k) * 2 ^ t := by rw [Nat.shiftLeft_eq, Nat.shiftLeft_eq, Nat.pow_add, Nat.mul_assoc]
  cases s
  · simp only [Bool.false_eq_true, if_false, this]; rw [Int.natCast_mul]
  · simp only [if_true, this]; rw [Int.natCast_mul, Int.neg_mul]
theorem cmpI_mul (a b : Int) (t : Nat) (ht : 0 < t) : cmpI (a * (t : Int)) (b * (t : Int)) = cmpI a b := by
  have hp : (0 : Int) < t := by omega
  unfold cmpI
  rcases Int.lt_trichotomy a b with h | h | h
  · have := Int.mul_lt_mul_of_pos_right h hp
    rw [if_neg (by omega), if_pos this, if_neg (by omega), if_pos h]
  · subst h; rw [if_neg (by omega), if_neg (by omega), if_neg (by omega), if_neg (by omega)]
  · have := Int.mul_lt_mul_of_pos_right h hp
    rw [if_pos this, if_pos h]
theorem cmpFl_num {x y : Nat} {s t : Bool} {m n : Nat} {i j b : Int} (hx : FloatKind.f64.format.read x = .number s m i) (hy : FloatKind.f64.format.read y = .number t n j) (hi : b ≤ i) (hj : b ≤ j) : cmpFl x y = cmpI (Ieee.signed s m (i - b).toNat) (Ieee.signed t n (j - b).toNat) := by
  have e1 : (i - b).toNat = (i - min i j).toNat + (min i j - b).toNat := by omega
  have e2 : (j - b).toNat = (j - min i j).toNat + (min i j - b).toNat := by omega
  rw [e1, e2, signed_shift, signed_shift, cmpI_mul _ _ _ (Nat.pow_pos (by decide))]
  have ho : FloatKind.f64.format.order x y = some (compare (Ieee.signed s m (i - min i j).toNat) (Ieee.signed t n (j - min i j).toNat)) := by
    unfold Ieee.Format.order; rw [hx, hy]; rfl
  rcases Int.lt_trichotomy (Ieee.signed s m (i - min i j).toNat) (Ieee.signed t n (j - min i j).toNat) with h | h | h
  · have hc : compare (Ieee.signed s m (i - min i j).toNat) (Ieee.signed t n (j - min i j).toNat) = .lt := Std.compare_eq_lt.2 h
    have r : cmpI (Ieee.signed s m (i - min i j).toNat) (Ieee.signed t n (j - min i j).toNat) = -1 := by unfold cmpI; rw [if_neg (by omega), if_pos h]
    rw [r]; unfold cmpFl; rw [ho, hc]; rfl
  · have hc : compare (Ieee.signed s m (i - min i j).toNat) (Ieee.signed t n (j - min i j).toNat) = .eq := Std.compare_eq_iff_eq.2 h
    have r : cmpI (Ieee.signed s m (i - min i j).toNat) (Ieee.signed t n (j - min i j).toNat) = 0 := by unfold cmpI; rw [if_neg (by omega), if_neg (by omega)]
    rw [r]; unfold cmpFl; rw [ho, hc]; rfl
  · have hc : compare (Ieee.signed s m (i - min i j).toNat) (Ieee.signed t n (j - min i j).toNat) = .gt := Std.compare_eq_gt.2 h
    have r : cmpI (Ieee.signed s m (i - min i j).toNat) (Ieee.signed t n (j - min i j).toNat) = 1 := by unfold cmpI; rw [if_pos h]
    rw [r]; unfold cmpFl; rw [ho, hc]; rfl
theorem cmpFl_side {x y : Nat} (hx : (FloatKind.f64.format.read x).isNaN = false) (hy : (FloatKind.f64.format.read y).isNaN = false) {b : Int} (hi : b ≤ placeOf (FloatKind.f64.format.read x)) (hj : b ≤ placeOf (FloatKind.f64.format.read y)) :
    cmpFl x y = if cmpI (sideOf (FloatKind.f64.format.read x)) (sideOf (FloatKind.f64.format.read y)) ≠ 0 then cmpI (sideOf (FloatKind.f64.format.read x)) (sideOf (FloatKind.f64.format.read y)) else cmpI (numAt b (FloatKind.f64.format.read x)) (numAt b (FloatKind.f64.format.read y)) := by
  cases ex : FloatKind.f64.format.read x with
  | nan s t => rw [ex] at hx; cases hx
  | infinity s => cases ey : FloatKind.f64.format.read y with
    | nan s t => rw [ey] at hy; cases hy
    | infinity t =>
      have ho : FloatKind.f64.format.order x y = some (compare t.toNat s.toNat) := by unfold Ieee.Format.order; rw [ex, ey]; rfl
      unfold cmpFl; rw [ho]
      cases s <;> cases t <;> simp only [sideOf, numAt] <;> decide
    | number t n j =>
      have ho : FloatKind.f64.format.order x y = some (if s then .lt else .gt) := by unfold Ieee.Format.order; rw [ex, ey]; rfl
      unfold cmpFl; rw [ho]
      cases s <;> simp [sideOf, cmpI]
  | number s m i => cases ey : FloatKind.f64.format.read y with
    | nan s t => rw [ey] at hy; cases hy
    | infinity t =>
      have ho : FloatKind.f64.format.order x y = some (if t then .gt else .lt) := by unfold Ieee.Format.order; rw [ex, ey]; rfl
      unfold cmpFl; rw [ho]
      cases t <;> simp [sideOf, cmpI]
    | number t n j =>
      rw [ex] at hi; rw [ey] at hj
      rw [cmpFl_num ex ey (b := b) hi hj]
      simp [sideOf, numAt, cmpI_self]
theorem cmpFl_ord : Ord3 (fun x : Nat => (FloatKind.f64.format.read x).isNaN = false) cmpFl := by
  have key : ∀ b : Int, Ord3 (fun x : Nat => (FloatKind.f64.format.read x).isNaN = false ∧ b ≤ placeOf (FloatKind.f64.format.read x)) cmpFl := fun b => by
    refine Ord3.congr (Ord3.lex (((cmpI_ord.comap fun x : Nat => sideOf (FloatKind.f64.format.read x))).mono fun _ _ => trivial) (d := fun x y => cmpI (numAt b (FloatKind.f64.format.read x)) (numAt b (FloatKind.f64.format.read y))) (fun x y _ _ _ => cmpI_ord.anti _ _ trivial trivial) fun x y z _ _ _ _ _ => cmpI_ord.trans _ _ _ trivial trivial trivial) fun x y hx hy => ?_
    exact cmpFl_side hx.1 hy.1 hx.2 hy.2
  refine ⟨fun x y hx hy => (key (min (placeOf (FloatKind.f64.format.read x)) (placeOf (FloatKind.f64.format.read y)))).anti x y ⟨hx, by omega⟩ ⟨hy, by omega⟩, fun x y z hx hy hz => ?_⟩
  exact (key (min (placeOf (FloatKind.f64.format.read x)) (min (placeOf (FloatKind.f64.format.read y)) (placeOf (FloatKind.f64.format.read z))))).trans x y z ⟨hx, by omega⟩ ⟨hy, by omega⟩ ⟨hz, by omega⟩
theorem log2_bounds {n : Nat} (h : n ≠ 0) : 2 ^ n.log2 ≤ n ∧ n < 2 ^ (n.log2 + 1) := ⟨Nat.log2_self_le h, Nat.lt_log2_self⟩
theorem cut_zero (neg : Bool) (n : Nat) : Ieee.Toward.even.cut neg n 0 = n := by
  unfold Ieee.Toward.cut
  simp [Nat.mod_one]
theorem read_rung {neg : Bool} {r k : Nat} (hk : k < 4503599627370496) (q : Nat) (hq : 1 ≤ q) (hq2 : q < 2047) (hr : r = q * 4503599627370496 + k) : Ieee.double.read (Ieee.double.word neg r) = .number neg (4503599627370496 + k) (-1074 + ((q - 1 : Nat) : Int)) := by
  have hinf : Ieee.double.infRung = 9218868437227405312 := by decide +kernel
  have hsw : Ieee.double.signWeight = 9223372036854775808 := by decide +kernel
  have hbi : Ieee.double.binade = 4503599627370496 := by decide +kernel
  have hle : Ieee.double.leastPlace = -1074 := by decide +kernel
  have hlt : r < 9218868437227405312 := by omega
  have hm : Ieee.double.word neg r % Ieee.double.signWeight = r := by
    rw [hsw]; unfold Ieee.Format.word; rw [hsw]; split <;> omega
  have hneg : (Ieee.double.word neg r / Ieee.double.signWeight % 2 == 1) = neg := by
    rw [hsw]; unfold Ieee.Format.word; rw [hsw]
    cases neg
    · simp only [Bool.false_eq_true, if_false]
      have : r / 9223372036854775808 = 0 := Nat.div_eq_of_lt (by omega)
      rw [this]; rfl
    · simp only [if_true]
      have : (9223372036854775808 + r) / 9223372036854775808 = 1 := by omega
      rw [this]; rfl
  unfold Ieee.Format.read
  simp only [hm, hneg, hbi, hinf, hle]
  have e1 : r % 4503599627370496 = k := by omega
  have e2 : r / 4503599627370496 = q := by omega
  rw [if_neg (by omega), if_pos hlt, e1, e2]
theorem read_small (neg : Bool) (n : Nat) (hn : n ≤ 9007199254740992) : ∃ m i, Ieee.double.read (Ieee.double.nearest neg n 0) = .number neg m i ∧ i ≤ 1 ∧ ∀ b : Int, b ≤ i → b ≤ 0 → Ieee.signed neg m (i - b).toNat = Ieee.signed neg n (0 - b).toNat := by
  have hbi : Ieee.double.binade = 4503599627370496 := by decide +kernel
  have hle : Ieee.double.leastPlace = -1074 := by decide +kernel
  have hinf : Ieee.double.infRung = 9218868437227405312 := by decide +kernel
  have hfb : Ieee.double.fractionBits = 52 := rfl
  by_cases h0 : n = 0
  · subst h0
    refine ⟨0, -1074, ?_, by omega, fun b _ _ => by cases neg <;> simp [Ieee.signed]⟩
    unfold Ieee.Format.nearest
    rw [if_pos rfl]
    cases neg <;> decide +kernel
  · by_cases h1 : n = 9007199254740992
    · subst h1
      refine ⟨4503599627370496, 1, ?_, by omega, fun b h1 h2 => ?_⟩
      · cases neg <;> decide +kernel
      · have e : (1 - b).toNat = (0 - b).toNat + 1 := by omega
        rw [e, signed_shift]
        have e2 : Ieee.signed neg 9007199254740992 (0 - b).toNat = Ieee.signed neg 4503599627370496 (0 - b).toNat * 2 := by
          unfold Ieee.signed
          have : (9007199254740992 : Nat) <<< (0 - b).toNat = (4503599627370496 <<< (0 - b).toNat) * 2 := by rw [Nat.shiftLeft_eq, Nat.shiftLeft_eq]; omega
          rw [this]
          cases neg <;> simp <;> omega
        rw [e2]; simp
    · obtain ⟨b1, b2⟩ := log2_bounds h0
      have hL : n.log2 ≤ 52 := by
        apply Classical.byContradiction
        intro h
        have : 2 ^ 53 ≤ 2 ^ n.log2 := Nat.pow_le_pow_right (by decide) (by omega)
        omega
      obtain ⟨L, hLd⟩ : ∃ L, L = n.log2 := ⟨_, rfl⟩
      rw [← hLd] at b1 b2 hL
      have last : max ((0 : Int) + (n.log2 : Int) - (Ieee.double.fractionBits : Int)) Ieee.double.leastPlace = (L : Int) - 52 := by rw [hle, hfb, ← hLd]; omega
      have kd : n <<< (52 - L) = n * 2 ^ (52 - L) := Nat.shiftLeft_eq _ _
      have k1 : 4503599627370496 ≤ n * 2 ^ (52 - L) := by
        have h1 : 2 ^ L * 2 ^ (52 - L) ≤ n * 2 ^ (52 - L) := Nat.mul_le_mul_right _ b1
        rw [← Nat.pow_add, show L + (52 - L) = 52 by omega] at h1
        exact h1
      have k2 : n * 2 ^ (52 - L) < 9007199254740992 := by
        have h1 : n * 2 ^ (52 - L) < 2 ^ (L + 1) * 2 ^ (52 - L) := Nat.mul_lt_mul_of_pos_right b2 (Nat.pow_pos (by decide))
        rw [← Nat.pow_add, show L + 1 + (52 - L) = 53 by omega] at h1
        exact h1
      refine ⟨n * 2 ^ (52 - L), (L : Int) - 52, ?_, by omega, fun b h1 h2 => ?_⟩
      · unfold Ieee.Format.nearest
        rw [if_neg h0]
        simp only [last]
        have e1 : ((0 : Int) - ((L : Int) - 52)).toNat = 52 - L := by omega
        have e2 : (((L : Int) - 52) - 0).toNat = 0 := by omega
        rw [e1, e2, cut_zero, kd, hbi, hle, hinf]
        have e3 : (((L : Int) - 52) - -1074).toNat = L + 1022 := by omega
        rw [e3, Nat.min_eq_left (by omega)]
        obtain ⟨K, hK⟩ : ∃ K, K = n * 2 ^ (52 - L) := ⟨_, rfl⟩
        rw [← hK] at k1 k2 ⊢
        have h := read_rung (neg := neg) (r := (L + 1022) * 4503599627370496 + K) (k := K - 4503599627370496) (by omega) (L + 1023) (by omega) (by omega) (by omega)
        have e4 : 4503599627370496 + (K - 4503599627370496) = K := by omega
        have e5 : (-1074 : Int) + ((L + 1023 - 1 : Nat) : Int) = (L : Int) - 52 := by omega
        rw [e4, e5] at h
        exact h
      · have e : ((0 : Int) - b).toNat = ((L : Int) - 52 - b).toNat + (52 - L) := by omega
        rw [e]
        unfold Ieee.signed
        have : n <<< (((L : Int) - 52 - b).toNat + (52 - L)) = (n * 2 ^ (52 - L)) <<< ((L : Int) - 52 - b).toNat := by
          rw [Nat.shiftLeft_eq, Nat.shiftLeft_eq, Nat.pow_add, Nat.mul_assoc, Nat.mul_comm (2 ^ _)]
        rw [this]
theorem read_toFl (n : Int) (h : -9007199254740992 ≤ n ∧ n ≤ 9007199254740992) : ∃ s m i, FloatKind.f64.format.read (toFl n) = .number s m i ∧ i ≤ 1 ∧ ∀ b : Int, b ≤ i → b ≤ 0 → Ieee.signed s m (i - b).toNat = n * ((2 ^ (0 - b).toNat : Nat) : Int) := by
  obtain ⟨m, i, h1, h2, h3⟩ := read_small (decide (n < 0)) n.natAbs (by omega)
  refine ⟨decide (n < 0), m, i, ?_, h2, fun b hb hb0 => ?_⟩
  · rw [← h1]; rfl
  · rw [h3 b hb hb0]
    unfold Ieee.signed
    rw [Nat.shiftLeft_eq]
    by_cases hn : n < 0
    · simp only [hn, decide_true, if_true]
      rw [Int.natCast_mul, ← Int.neg_mul]
      congr 1; omega
    · simp only [hn, decide_false, Bool.false_eq_true, if_false]
      rw [Int.natCast_mul]
      congr 1; omega
theorem cmpFl_ints (n k : Int) (hn : -9007199254740992 ≤ n ∧ n ≤ 9007199254740992) (hk : -9007199254740992 ≤ k ∧ k ≤ 9007199254740992) : cmpFl (toFl n) (toFl k) = cmpI n k := by
  obtain ⟨s, m, i, h1, h2, h3⟩ := read_toFl n hn
  obtain ⟨t, q, j, g1, g2, g3⟩ := read_toFl k hk
  rw [cmpFl_num h1 g1 (b := min (min i j) 0) (by omega) (by omega), h3 _ (by omega) (by omega), g3 _ (by omega) (by omega)]
  exact cmpI_mul _ _ _ (Nat.pow_pos (by decide))
end Go.Smd
end
