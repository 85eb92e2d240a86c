/- Part 24 of the proof: Cw. -/
import Derived.Test.YtphldfnnjoehpaaGreatQC23
set_option linter.unusedVariables false
section
set_option linter.unusedSimpArgs false
set_option maxRecDepth 100000
set_option maxHeartbeats 8000000
namespace Go.Smd
open Go.RowKit Go.Proofs
def cmpGF (p q : ByteArray × GV) : Int := if cmpS p.1 q.1 ≠ 0 then cmpS p.1 q.1 else cmpP (clean p.2) (clean q.2)
theorem sCompareKeys_x (k : Int) (s : ByteArray) (keys : List ByteArray) (l : List GV) (a b : Int) (c : Nat) (d : ByteArray) (e : List ByteArray) (f : List GV) (n : Int) (k' : Int) (s' : ByteArray) (keys' : List ByteArray) (l' : List GV) (a' b' : Int) (c' : Nat) (d' : ByteArray) (e' : List ByteArray) (f' : List GV) (n' : Int) (hk : keys.length * 16 ≤ 140737488351232) (hl : l.length * 88 ≤ 140737488351232) (hk' : keys'.length * 16 ≤ 140737488351232) (hl' : l'.length * 88 ≤ 140737488351232) :
    ACalls Tryz.prog 16 [evX k s keys l a b c d e f n, evX k' s' keys' l' a' b' c' d' e' f' n'] (fun r => r = aI (cmpRow cmpGF (keys.zip l) (keys'.zip l'))) := by
  refine acalls_ex [(4, ([10], [(0, []), (1, []), (2, []), (3, []), (4, []), (5, []), (6, []), (7, []), (8, []), (9, []), (10, []), (11, [])])), (7, ([10], [(0, []), (1, []), (2, []), (3, []), (4, []), (5, []), (6, []), (7, []), (8, []), (9, []), (10, []), (11, [])]))] Tryz.func16 (by kernel_rfl) rfl Tryz.ntmps16 Tryz.results16 (Nat.le_of_ble_eq_true (by kernel_rfl)) ?_; intro hok w0 S0
  clear hok
  have b1 : keys.length ≤ 9223372036854775807 := by omega
  have b2 : l.length ≤ 9223372036854775807 := by omega
  have b3 : keys'.length ≤ 9223372036854775807 := by omega
  have b4 : l'.length ≤ 9223372036854775807 := by omega
  obtain ⟨m, hm⟩ : ∃ m : Nat, m = min keys.length l.length := ⟨_, rfl⟩
  have hmin : min (keys.length : Int) (l.length : Int) = (m : Int) := by omega
  obtain ⟨m', hm'⟩ : ∃ m' : Nat, m' = min keys'.length l'.length := ⟨_, rfl⟩
  have hmin' : min (keys'.length : Int) (l'.length : Int) = (m' : Int) := by omega
  have z1 : (keys.zip l).length = m := by simp [hm]
  have z2 : (keys'.zip l').length = m' := by simp [hm']
  have hcc := compareInts_v (m : Int) m'
  (repeat' (first
                                                            | (with_reducible refine br_d (fun _ => ?_) (fun _ => ?_))
                                                            | (with_reducible refine br_i (fun _ => ?_) (fun _ => ?_))
                                                            | ((with_reducible apply nd_next); (case hx => simp -dsimp; first | done | with_reducible rfl); (case hid => simp -dsimp; first | done | with_reducible rfl | exact ⟨rfl, rfl, rfl⟩ | exact ⟨rfl, rfl⟩); (case' h1 => intro _ _ _); (case' h0 => intro _))
                                                            | ((with_reducible apply nd_entry); (case hx => simp -dsimp; first | done | with_reducible rfl); (case hid => simp -dsimp; first | done | with_reducible rfl | exact ⟨rfl, rfl, rfl⟩ | exact ⟨rfl, rfl⟩))
                                                            | ((with_reducible apply nd_range); (case hx => simp -dsimp; with_reducible rfl); (case hT => simp -dsimp); (case hnd => assumption); (case hz => simp -dsimp))
                                                            | (with_reducible refine dn_i follows_any (by kernel_rfl) ?_)
                                                            | (with_reducible exact done_eq rfl)
                                                            | (simp -dsimp))); (all_goals try with_reducible refine done_eq ?_)
  refine ex_loop (fun i : Nat => ⟨[(2, .c (.own 2 0)), (3, .c (.own 3 0)), (5, aI i)], [(3, .cells [.d (dI k'), .d (dS s'), .d (dStrs keys'), .d (dGVs l'), .d (dI a'), .d (dI b'), .d (dF c'), .d (dS d'), .d (dStrs e'), .d (dGVs f'), .d (dI n')] 39), (2, .cells [.d (dI k), .d (dS s), .d (dStrs keys), .d (dGVs l), .d (dI a), .d (dI b), .d (dF c), .d (dS d), .d (dStrs e), .d (dGVs f), .d (dI n)] 39)]⟩) (fun i => i ≤ m ∧ i ≤ m' ∧ cmpRow cmpGF (keys.zip l) (keys'.zip l') = cmpRow cmpGF ((keys.zip l).drop i) ((keys'.zip l').drop i)) (fun i => m - i) 0 ?_ ⟨Nat.zero_le _, Nat.zero_le _, rfl⟩ ?_
  · exact Weak.same (by simp -dsimp) (by simp -dsimp) (by first | rfl | (simp [closedSt, Av.ids, Ow.ids, Cl.ids, Go.Smd.keys]; done))
  · rintro i ⟨hi, hj, heq⟩ K hK
    have hw : IntKind.wrap .i64 ((i : Int) + 1) = ((i + 1 : Nat) : Int) := by rw [wrap_i64] <;> omega
    have hend : ¬ (i < m ∧ i < m') → cmpRow cmpGF (keys.zip l) (keys'.zip l') = cmpI (m : Int) m' := fun h => by
      have := heq.trans (cmpRow_stop (by omega) (by omega) fun h' => h (by omega))
      rwa [z1, z2] at this
    by_cases h1 : i < keys.length
    · by_cases h2 : i < l.length
      · by_cases h3 : i < keys'.length
        · by_cases h4 : i < l'.length
          · have hc := heq.trans (cmpRow_at (by omega) (by omega))
            have e1 : (keys.zip l)[i]'(by omega) = (keys[i], l[i]) := by simp
            have e2 : (keys'.zip l')[i]'(by omega) = (keys'[i], l'[i]) := by simp
            rw [e1, e2] at hc
            have hs := compareStrings_v keys[i] keys'[i]
            have hv := sCompareValues_a l[i] l'[i]
            by_cases hy : cmpS keys[i] keys'[i] = 0
            · have hf : cmpGF (keys[i], l[i]) (keys'[i], l'[i]) = cmpP (clean l[i]) (clean l'[i]) := by unfold cmpGF; rw [if_neg (by simpa using hy)]
              rw [hf] at hc
              rw [hy] at hs
              by_cases hz : cmpP (clean l[i]) (clean l'[i]) = 0
              · rw [if_neg (by simpa using hz)] at hc
                rw [hz] at hv
                (repeat' (first
                                                            | (with_reducible refine br_d (fun _ => ?_) (fun _ => ?_))
                                                            | (with_reducible refine br_i (fun _ => ?_) (fun _ => ?_))
                                                            | (with_reducible refine nd_v (hs) (by first | rfl | (simp -dsimp [hw, b1, b2, b3, b4, h1, h2, h3, h4, rowS]; done)) ?_)
                                                            | (with_reducible refine nw_v (hs) rfl (by first | rfl | (simp -dsimp [hw, b1, b2, b3, b4, h1, h2, h3, h4, rowS]; done)) (by first | rfl | (simp -dsimp [hw, b1, b2, b3, b4, h1, h2, h3, h4, rowS]; done)) ?_)
                                                            | (with_reducible refine nd_v (hv) (by first | rfl | (simp -dsimp [hw, b1, b2, b3, b4, h1, h2, h3, h4, rowS]; done)) ?_)
                                                            | (with_reducible refine nw_v (hv) rfl (by first | rfl | (simp -dsimp [hw, b1, b2, b3, b4, h1, h2, h3, h4, rowS]; done)) (by first | rfl | (simp -dsimp [hw, b1, b2, b3, b4, h1, h2, h3, h4, rowS]; done)) ?_)
                                                            | ((with_reducible apply nd_next); (case hx => simp -dsimp [hw, b1, b2, b3, b4, h1, h2, h3, h4, rowS]; first | done | with_reducible rfl); (case hid => simp -dsimp [hw, b1, b2, b3, b4, h1, h2, h3, h4, rowS]; first | done | with_reducible rfl | exact ⟨rfl, rfl, rfl⟩ | exact ⟨rfl, rfl⟩); (case' h1 => intro _ _ _); (case' h0 => intro _))
                                                            | ((with_reducible apply nd_entry); (case hx => simp -dsimp [hw, b1, b2, b3, b4, h1, h2, h3, h4, rowS]; first | done | with_reducible rfl); (case hid => simp -dsimp [hw, b1, b2, b3, b4, h1, h2, h3, h4, rowS]; first | done | with_reducible rfl | exact ⟨rfl, rfl, rfl⟩ | exact ⟨rfl, rfl⟩))
                                                            | ((with_reducible apply nd_range); (case hx => simp -dsimp [hw, b1, b2, b3, b4, h1, h2, h3, h4, rowS]; with_reducible rfl); (case hT => simp -dsimp [hw, b1, b2, b3, b4, h1, h2, h3, h4, rowS]); (case hnd => assumption); (case hz => simp -dsimp [hw, b1, b2, b3, b4, h1, h2, h3, h4, rowS]))
                                                            | (with_reducible refine dn_i follows_any (by kernel_rfl) ?_)
                                                            | (with_reducible exact done_eq rfl)
                                                            | (simp -dsimp [hw, b1, b2, b3, b4, h1, h2, h3, h4, rowS]))); (all_goals try with_reducible refine done_eq ?_)
                refine hK _ (i + 1) ?_ ⟨by omega, by omega, hc⟩ (by omega)
                exact Weak.same (by simp -dsimp) (by simp -dsimp) (by first | rfl | (simp [closedSt, Av.ids, Ow.ids, Cl.ids, Go.Smd.keys]; done))
              · rw [if_pos hz] at hc
                (repeat' (first
                                                            | (with_reducible refine br_d (fun _ => ?_) (fun _ => ?_))
                                                            | (with_reducible refine br_i (fun _ => ?_) (fun _ => ?_))
                                                            | (with_reducible refine nd_v (hs) (by first | rfl | (simp -dsimp [hw, b1, b2, b3, b4, h1, h2, h3, h4, hz, rowS]; done)) ?_)
                                                            | (with_reducible refine nw_v (hs) rfl (by first | rfl | (simp -dsimp [hw, b1, b2, b3, b4, h1, h2, h3, h4, hz, rowS]; done)) (by first | rfl | (simp -dsimp [hw, b1, b2, b3, b4, h1, h2, h3, h4, hz, rowS]; done)) ?_)
                                                            | (with_reducible refine nd_v (hv) (by first | rfl | (simp -dsimp [hw, b1, b2, b3, b4, h1, h2, h3, h4, hz, rowS]; done)) ?_)
                                                            | (with_reducible refine nw_v (hv) rfl (by first | rfl | (simp -dsimp [hw, b1, b2, b3, b4, h1, h2, h3, h4, hz, rowS]; done)) (by first | rfl | (simp -dsimp [hw, b1, b2, b3, b4, h1, h2, h3, h4, hz, rowS]; done)) ?_)
                                                            | ((with_reducible apply nd_next); (case hx => simp -dsimp [hw, b1, b2, b3, b4, h1, h2, h3, h4, hz, rowS]; first | done | with_reducible rfl); (case hid => simp -dsimp [hw, b1, b2, b3, b4, h1, h2, h3, h4, hz, rowS]; first | done | with_reducible rfl | exact ⟨rfl, rfl, rfl⟩ | exact ⟨rfl, rfl⟩); (case' h1 => intro _ _ _); (case' h0 => intro _))
                                                            | ((with_reducible apply nd_entry); (case hx => simp -dsimp [hw, b1, b2, b3, b4, h1, h2, h3, h4, hz, rowS]; first | done | with_reducible rfl); (case hid => simp -dsimp [hw, b1, b2, b3, b4, h1, h2, h3, h4, hz, rowS]; first | done | with_reducible rfl | exact ⟨rfl, rfl, rfl⟩ | exact ⟨rfl, rfl⟩))
                                                            | ((with_reducible apply nd_range); (case hx => simp -dsimp [hw, b1, b2, b3, b4, h1, h2, h3, h4, hz, rowS]; with_reducible rfl); (case hT => simp -dsimp [hw, b1, b2, b3, b4, h1, h2, h3, h4, hz, rowS]); (case hnd => assumption); (case hz => simp -dsimp [hw, b1, b2, b3, b4, h1, h2, h3, h4, hz, rowS]))
                                                            | (with_reducible refine dn_i follows_any (by kernel_rfl) ?_)
                                                            | (with_reducible exact done_eq rfl)
                                                            | (simp -dsimp [hw, b1, b2, b3, b4, h1, h2, h3, h4, hz, rowS]))); (all_goals try with_reducible refine done_eq ?_)
                rw [hc]
            · have hf : cmpGF (keys[i], l[i]) (keys'[i], l'[i]) = cmpS keys[i] keys'[i] := by unfold cmpGF; rw [if_pos hy]
              rw [hf, if_pos hy] at hc
              (repeat' (first
                                                            | (with_reducible refine br_d (fun _ => ?_) (fun _ => ?_))
                                                            | (with_reducible refine br_i (fun _ => ?_) (fun _ => ?_))
                                                            | (with_reducible refine nd_v (hs) (by first | rfl | (simp -dsimp [hw, b1, b2, b3, b4, h1, h2, h3, h4, hy, rowS]; done)) ?_)
                                                            | (with_reducible refine nw_v (hs) rfl (by first | rfl | (simp -dsimp [hw, b1, b2, b3, b4, h1, h2, h3, h4, hy, rowS]; done)) (by first | rfl | (simp -dsimp [hw, b1, b2, b3, b4, h1, h2, h3, h4, hy, rowS]; done)) ?_)
                                                            | ((with_reducible apply nd_next); (case hx => simp -dsimp [hw, b1, b2, b3, b4, h1, h2, h3, h4, hy, rowS]; first | done | with_reducible rfl); (case hid => simp -dsimp [hw, b1, b2, b3, b4, h1, h2, h3, h4, hy, rowS]; first | done | with_reducible rfl | exact ⟨rfl, rfl, rfl⟩ | exact ⟨rfl, rfl⟩); (case' h1 => intro _ _ _); (case' h0 => intro _))
                                                            | ((with_reducible apply nd_entry); (case hx => simp -dsimp [hw, b1, b2, b3, b4, h1, h2, h3, h4, hy, rowS]; first | done | with_reducible rfl); (case hid => simp -dsimp [hw, b1, b2, b3, b4, h1, h2, h3, h4, hy, rowS]; first | done | with_reducible rfl | exact ⟨rfl, rfl, rfl⟩ | exact ⟨rfl, rfl⟩))
                                                            | ((with_reducible apply nd_range); (case hx => simp -dsimp [hw, b1, b2, b3, b4, h1, h2, h3, h4, hy, rowS]; with_reducible rfl); (case hT => simp -dsimp [hw, b1, b2, b3, b4, h1, h2, h3, h4, hy, rowS]); (case hnd => assumption); (case hz => simp -dsimp [hw, b1, b2, b3, b4, h1, h2, h3, h4, hy, rowS]))
                                                            | (with_reducible refine dn_i follows_any (by kernel_rfl) ?_)
                                                            | (with_reducible exact done_eq rfl)
                                                            | (simp -dsimp [hw, b1, b2, b3, b4, h1, h2, h3, h4, hy, rowS]))); (all_goals try with_reducible refine done_eq ?_)
              rw [hc]
          · have hc := hend (by omega)
            (repeat' (first
                                                            | (with_reducible refine br_d (fun _ => ?_) (fun _ => ?_))
                                                            | (with_reducible refine br_i (fun _ => ?_) (fun _ => ?_))
                                                            | (with_reducible refine nd_v (hcc) (by first | rfl | (simp -dsimp [b1, b2, b3, b4, h1, h2, h3, h4, hmin, hmin']; done)) ?_)
                                                            | (with_reducible refine nw_v (hcc) rfl (by first | rfl | (simp -dsimp [b1, b2, b3, b4, h1, h2, h3, h4, hmin, hmin']; done)) (by first | rfl | (simp -dsimp [b1, b2, b3, b4, h1, h2, h3, h4, hmin, hmin']; done)) ?_)
                                                            | ((with_reducible apply nd_next); (case hx => simp -dsimp [b1, b2, b3, b4, h1, h2, h3, h4, hmin, hmin']; first | done | with_reducible rfl); (case hid => simp -dsimp [b1, b2, b3, b4, h1, h2, h3, h4, hmin, hmin']; first | done | with_reducible rfl | exact ⟨rfl, rfl, rfl⟩ | exact ⟨rfl, rfl⟩); (case' h1 => intro _ _ _); (case' h0 => intro _))
                                                            | ((with_reducible apply nd_entry); (case hx => simp -dsimp [b1, b2, b3, b4, h1, h2, h3, h4, hmin, hmin']; first | done | with_reducible rfl); (case hid => simp -dsimp [b1, b2, b3, b4, h1, h2, h3, h4, hmin, hmin']; first | done | with_reducible rfl | exact ⟨rfl, rfl, rfl⟩ | exact ⟨rfl, rfl⟩))
                                                            | ((with_reducible apply nd_range); (case hx => simp -dsimp [b1, b2, b3, b4, h1, h2, h3, h4, hmin, hmin']; with_reducible rfl); (case hT => simp -dsimp [b1, b2, b3, b4, h1, h2, h3, h4, hmin, hmin']); (case hnd => assumption); (case hz => simp -dsimp [b1, b2, b3, b4, h1, h2, h3, h4, hmin, hmin']))
                                                            | (with_reducible refine dn_i follows_any (by kernel_rfl) ?_)
                                                            | (with_reducible exact done_eq rfl)
                                                            | (simp -dsimp [b1, b2, b3, b4, h1, h2, h3, h4, hmin, hmin']))); (all_goals try with_reducible refine done_eq ?_)
            rw [hc]
        · have hc := hend (by omega)
          (repeat' (first
                                                            | (with_reducible refine br_d (fun _ => ?_) (fun _ => ?_))
                                                            | (with_reducible refine br_i (fun _ => ?_) (fun _ => ?_))
                                                            | (with_reducible refine nd_v (hcc) (by first | rfl | (simp -dsimp [b1, b2, b3, b4, h1, h2, h3, hmin, hmin']; done)) ?_)
                                                            | (with_reducible refine nw_v (hcc) rfl (by first | rfl | (simp -dsimp [b1, b2, b3, b4, h1, h2, h3, hmin, hmin']; done)) (by first | rfl | (simp -dsimp [b1, b2, b3, b4, h1, h2, h3, hmin, hmin']; done)) ?_)
                                                            | ((with_reducible apply nd_next); (case hx => simp -dsimp [b1, b2, b3, b4, h1, h2, h3, hmin, hmin']; first | done | with_reducible rfl); (case hid => simp -dsimp [b1, b2, b3, b4, h1, h2, h3, hmin, hmin']; first | done | with_reducible rfl | exact ⟨rfl, rfl, rfl⟩ | exact ⟨rfl, rfl⟩); (case' h1 => intro _ _ _); (case' h0 => intro _))
                                                            | ((with_reducible apply nd_entry); (case hx => simp -dsimp [b1, b2, b3, b4, h1, h2, h3, hmin, hmin']; first | done | with_reducible rfl); (case hid => simp -dsimp [b1, b2, b3, b4, h1, h2, h3, hmin, hmin']; first | done | with_reducible rfl | exact ⟨rfl, rfl, rfl⟩ | exact ⟨rfl, rfl⟩))
                                                            | ((with_reducible apply nd_range); (case hx => simp -dsimp [b1, b2, b3, b4, h1, h2, h3, hmin, hmin']; with_reducible rfl); (case hT => simp -dsimp [b1, b2, b3, b4, h1, h2, h3, hmin, hmin']); (case hnd => assumption); (case hz => simp -dsimp [b1, b2, b3, b4, h1, h2, h3, hmin, hmin']))
                                                            | (with_reducible refine dn_i follows_any (by kernel_rfl) ?_)
                                                            | (with_reducible exact done_eq rfl)
                                                            | (simp -dsimp [b1, b2, b3, b4, h1, h2, h3, hmin, hmin']))); (all_goals try with_reducible refine done_eq ?_)
          rw [hc]
      · have hc := hend (by omega)
        (repeat' (first
                                                            | (with_reducible refine br_d (fun _ => ?_) (fun _ => ?_))
                                                            | (with_reducible refine br_i (fun _ => ?_) (fun _ => ?_))
                                                            | (with_reducible refine nd_v (hcc) (by first | rfl | (simp -dsimp [b1, b2, b3, b4, h1, h2, hmin, hmin']; done)) ?_)
                                                            | (with_reducible refine nw_v (hcc) rfl (by first | rfl | (simp -dsimp [b1, b2, b3, b4, h1, h2, hmin, hmin']; done)) (by first | rfl | (simp -dsimp [b1, b2, b3, b4, h1, h2, hmin, hmin']; done)) ?_)
                                                            | ((with_reducible apply nd_next); (case hx => simp -dsimp [b1, b2, b3, b4, h1, h2, hmin, hmin']; first | done | with_reducible rfl); (case hid => simp -dsimp [b1, b2, b3, b4, h1, h2, hmin, hmin']; first | done | with_reducible rfl | exact ⟨rfl, rfl, rfl⟩ | exact ⟨rfl, rfl⟩); (case' h1 => intro _ _ _); (case' h0 => intro _))
                                                            | ((with_reducible apply nd_entry); (case hx => simp -dsimp [b1, b2, b3, b4, h1, h2, hmin, hmin']; first | done | with_reducible rfl); (case hid => simp -dsimp [b1, b2, b3, b4, h1, h2, hmin, hmin']; first | done | with_reducible rfl | exact ⟨rfl, rfl, rfl⟩ | exact ⟨rfl, rfl⟩))
                                                            | ((with_reducible apply nd_range); (case hx => simp -dsimp [b1, b2, b3, b4, h1, h2, hmin, hmin']; with_reducible rfl); (case hT => simp -dsimp [b1, b2, b3, b4, h1, h2, hmin, hmin']); (case hnd => assumption); (case hz => simp -dsimp [b1, b2, b3, b4, h1, h2, hmin, hmin']))
                                                            | (with_reducible refine dn_i follows_any (by kernel_rfl) ?_)
                                                            | (with_reducible exact done_eq rfl)
                                                            | (simp -dsimp [b1, b2, b3, b4, h1, h2, hmin, hmin']))); (all_goals try with_reducible refine done_eq ?_)
        rw [hc]
    · have hc := hend (by omega)
      (repeat' (first
                                                            | (with_reducible refine br_d (fun _ => ?_) (fun _ => ?_))
                                                            | (with_reducible refine br_i (fun _ => ?_) (fun _ => ?_))
                                                            | (with_reducible refine nd_v (hcc) (by first | rfl | (simp -dsimp [b1, b2, b3, b4, h1, hmin, hmin']; done)) ?_)
                                                            | (with_reducible refine nw_v (hcc) rfl (by first | rfl | (simp -dsimp [b1, b2, b3, b4, h1, hmin, hmin']; done)) (by first | rfl | (simp -dsimp [b1, b2, b3, b4, h1, hmin, hmin']; done)) ?_)
                                                            | ((with_reducible apply nd_next); (case hx => simp -dsimp [b1, b2, b3, b4, h1, hmin, hmin']; first | done | with_reducible rfl); (case hid => simp -dsimp [b1, b2, b3, b4, h1, hmin, hmin']; first | done | with_reducible rfl | exact ⟨rfl, rfl, rfl⟩ | exact ⟨rfl, rfl⟩); (case' h1 => intro _ _ _); (case' h0 => intro _))
                                                            | ((with_reducible apply nd_entry); (case hx => simp -dsimp [b1, b2, b3, b4, h1, hmin, hmin']; first | done | with_reducible rfl); (case hid => simp -dsimp [b1, b2, b3, b4, h1, hmin, hmin']; first | done | with_reducible rfl | exact ⟨rfl, rfl, rfl⟩ | exact ⟨rfl, rfl⟩))
                                                            | ((with_reducible apply nd_range); (case hx => simp -dsimp [b1, b2, b3, b4, h1, hmin, hmin']; with_reducible rfl); (case hT => simp -dsimp [b1, b2, b3, b4, h1, hmin, hmin']); (case hnd => assumption); (case hz => simp -dsimp [b1, b2, b3, b4, h1, hmin, hmin']))
                                                            | (with_reducible refine dn_i follows_any (by kernel_rfl) ?_)
                                                            | (with_reducible exact done_eq rfl)
                                                            | (simp -dsimp [b1, b2, b3, b4, h1, hmin, hmin']))); (all_goals try with_reducible refine done_eq ?_)
      rw [hc]
def cmpEl (e e' : EV) : Int :=
  if cmpI (rkE e.k) (rkE e'.k) ≠ 0 then cmpI (rkE e.k) (rkE e'.k)
  else if rkE e.k = 1 then cmpRow cmpGF (e.keys.zip e.l) (e'.keys.zip e'.l) else if rkE e.k = 2 then cmpP (clean e.v) (clean e'.v) else if rkE e.k = 3 then cmpI e.n e'.n else cmpS e.s e'.s
theorem sCompareElems_a (e e' : EV) (h : e.keys.length * 16 ≤ 140737488351232 ∧ e.l.length * 88 ≤ 140737488351232) (h' : e'.keys.length * 16 ≤ 140737488351232 ∧ e'.l.length * 88 ≤ 140737488351232) :
    ACalls Tryz.prog 10 [evA e, evA e'] (fun r => r = aI (cmpEl e e')) := by
  obtain ⟨k, s, keys, l, ⟨a, b, c, d, e, f⟩, n⟩ := e
  obtain ⟨k', s', keys', l', ⟨a', b', c', d', e', f'⟩, n'⟩ := e'
  dsimp only at h h'
  rw [evA_x, evA_x]
  simp only [cmpEl]
  have c1 := elemRank_x k s keys l a b c d e f n
  have c2 := elemRank_x k' s' keys' l' a' b' c' d' e' f' n'
  obtain ⟨R, hR⟩ : ∃ R, R = rkE k := ⟨_, rfl⟩
  rw [← hR] at c1 ⊢
  have c3 := compareInts_v R (rkE k')
  have c4 := sCompareKeys_x k s keys l a b c d e f n k' s' keys' l' a' b' c' d' e' f' n' h.1 h.2 h'.1 h'.2
  have c5 := sCompareValues_a (.mk a b c d e f) (.mk a' b' c' d' e' f')
  rw [gvA_x, gvA_x] at c5
  have c6 := compareInts_v n n'
  have c7 := compareStrings_v s s'
  by_cases hz : cmpI R (rkE k') = 0
  · rw [hz] at c3
    rw [if_neg (by simpa using hz)]
    refine acalls_ex [(1, ([3, 4], [(0, []), (2, []), (1, []), (3, []), (4, []), (5, [])]))] Tryz.func10 (by kernel_rfl) rfl Tryz.ntmps10 Tryz.results10 (Nat.le_of_ble_eq_true (by kernel_rfl)) ?_; intro hok w0 S0
    clear hok
    (repeat' (first
                                                            | (with_reducible refine br_d (fun _ => ?_) (fun _ => ?_))
                                                            | (with_reducible refine br_i (fun _ => ?_) (fun _ => ?_))
                                                            | (with_reducible refine nd_v (c1) (by first | rfl | (simp -dsimp; done)) ?_)
                                                            | (with_reducible refine nw_v (c1) rfl (by first | rfl | (simp -dsimp; done)) (by first | rfl | (simp -dsimp; done)) ?_)
                                                            | (with_reducible refine nd_v (c2) (by first | rfl | (simp -dsimp; done)) ?_)
                                                            | (with_reducible refine nw_v (c2) rfl (by first | rfl | (simp -dsimp; done)) (by first | rfl | (simp -dsimp; done)) ?_)
                                                            | (with_reducible refine nd_v (c3) (by first | rfl | (simp -dsimp; done)) ?_)
                                                            | (with_reducible refine nw_v (c3) rfl (by first | rfl | (simp -dsimp; done)) (by first | rfl | (simp -dsimp; done)) ?_)
                                                            | (with_reducible refine nd_v (c4) (by first | rfl | (simp -dsimp; done)) ?_)
                                                            | (with_reducible refine nw_v (c4) rfl (by first | rfl | (simp -dsimp; done)) (by first | rfl | (simp -dsimp; done)) ?_)
                                                            | (with_reducible refine nd_v (c5) (by first | rfl | (simp -dsimp; done)) ?_)
                                                            | (with_reducible refine nw_v (c5) rfl (by first | rfl | (simp -dsimp; done)) (by first | rfl | (simp -dsimp; done)) ?_)
                                                            | (with_reducible refine nd_v (c6) (by first | rfl | (simp -dsimp; done)) ?_)
                                                            | (with_reducible refine nw_v (c6) rfl (by first | rfl | (simp -dsimp; done)) (by first | rfl | (simp -dsimp; done)) ?_)
                                                            | (with_reducible refine nd_v (c7) (by first | rfl | (simp -dsimp; done)) ?_)
                                                            | (with_reducible refine nw_v (c7) rfl (by first | rfl | (simp -dsimp; done)) (by first | rfl | (simp -dsimp; done)) ?_)
                                                            | ((with_reducible apply nd_next); (case hx => simp -dsimp; first | done | with_reducible rfl); (case hid => simp -dsimp; first | done | with_reducible rfl | exact ⟨rfl, rfl, rfl⟩ | exact ⟨rfl, rfl⟩); (case' h1 => intro _ _ _); (case' h0 => intro _))
                                                            | ((with_reducible apply nd_entry); (case hx => simp -dsimp; first | done | with_reducible rfl); (case hid => simp -dsimp; first | done | with_reducible rfl | exact ⟨rfl, rfl, rfl⟩ | exact ⟨rfl, rfl⟩))
                                                            | ((with_reducible apply nd_range); (case hx => simp -dsimp; with_reducible rfl); (case hT => simp -dsimp); (case hnd => assumption); (case hz => simp -dsimp))
                                                            | (with_reducible refine dn_i follows_any (by kernel_rfl) ?_)
                                                            | (with_reducible exact done_eq rfl)
                                                            | (simp -dsimp))); (all_goals try with_reducible refine done_eq ?_)
    all_goals simp_all
  · rw [if_pos hz]
    refine acalls_ex [(1, ([3, 4], [(0, []), (2, []), (1, []), (3, []), (4, []), (5, [])]))] Tryz.func10 (by kernel_rfl) rfl Tryz.ntmps10 Tryz.results10 (Nat.le_of_ble_eq_true (by kernel_rfl)) ?_; intro hok w0 S0
    clear hok
    (repeat' (first
                                                            | (with_reducible refine br_d (fun _ => ?_) (fun _ => ?_))
                                                            | (with_reducible refine br_i (fun _ => ?_) (fun _ => ?_))
                                                            | (with_reducible refine nd_v (c1) (by first | rfl | (simp -dsimp [hz]; done)) ?_)
                                                            | (with_reducible refine nw_v (c1) rfl (by first | rfl | (simp -dsimp [hz]; done)) (by first | rfl | (simp -dsimp [hz]; done)) ?_)
                                                            | (with_reducible refine nd_v (c2) (by first | rfl | (simp -dsimp [hz]; done)) ?_)
                                                            | (with_reducible refine nw_v (c2) rfl (by first | rfl | (simp -dsimp [hz]; done)) (by first | rfl | (simp -dsimp [hz]; done)) ?_)
                                                            | (with_reducible refine nd_v (c3) (by first | rfl | (simp -dsimp [hz]; done)) ?_)
                                                            | (with_reducible refine nw_v (c3) rfl (by first | rfl | (simp -dsimp [hz]; done)) (by first | rfl | (simp -dsimp [hz]; done)) ?_)
                                                            | ((with_reducible apply nd_next); (case hx => simp -dsimp [hz]; first | done | with_reducible rfl); (case hid => simp -dsimp [hz]; first | done | with_reducible rfl | exact ⟨rfl, rfl, rfl⟩ | exact ⟨rfl, rfl⟩); (case' h1 => intro _ _ _); (case' h0 => intro _))
                                                            | ((with_reducible apply nd_entry); (case hx => simp -dsimp [hz]; first | done | with_reducible rfl); (case hid => simp -dsimp [hz]; first | done | with_reducible rfl | exact ⟨rfl, rfl, rfl⟩ | exact ⟨rfl, rfl⟩))
                                                            | ((with_reducible apply nd_range); (case hx => simp -dsimp [hz]; with_reducible rfl); (case hT => simp -dsimp [hz]); (case hnd => assumption); (case hz => simp -dsimp [hz]))
                                                            | (with_reducible refine dn_i follows_any (by kernel_rfl) ?_)
                                                            | (with_reducible exact done_eq rfl)
                                                            | (simp -dsimp [hz]))); (all_goals try with_reducible refine done_eq ?_)
abbrev dPath (p : List EV) : D := .sl 39 (p.map evD)
theorem path_ok {p : List EV} (h : okD Tryz.prog (dPath p)) : p.length * 168 ≤ 140737488351232 ∧ ∀ e ∈ p, e.keys.length * 16 ≤ 140737488351232 ∧ (∀ k ∈ e.keys, k.size ≤ 140737488351232) ∧ e.l.length * 88 ≤ 140737488351232 ∧ FitsE e := by
  obtain ⟨h1, h2⟩ := okD_sl h
  simp at h1
  exact ⟨by omega, fun e he => ev_ok (okD_row h (List.mem_map.2 ⟨e, he, rfl⟩))⟩
structure EVs (e : EV) : Prop where
  hk : e.keys.length * 16 ≤ 140737488351232
  hl : e.l.length * 88 ≤ 140737488351232
theorem sComparePaths_a (p q : List EV) (hl : p.length * 168 ≤ 140737488351232) (hm : q.length * 168 ≤ 140737488351232) (hp : ∀ e ∈ p, EVs e) (hq : ∀ e ∈ q, EVs e) :
    ACalls Tryz.prog 6 [.c (.d (dPath p)), .c (.d (dPath q))] (fun r => r = aI (cmpRow cmpEl p q)) := by
  refine acalls_ex [(4, ([8], [(0, []), (1, []), (2, []), (3, []), (4, []), (5, []), (6, []), (7, []), (8, []), (9, [])]))] Tryz.func6 (by kernel_rfl) rfl Tryz.ntmps6 Tryz.results6 (Nat.le_of_ble_eq_true (by kernel_rfl)) ?_; intro hok w0 S0
  clear hok
  have b1 : p.length ≤ 9223372036854775807 := by omega
  have b2 : q.length ≤ 9223372036854775807 := by omega
  (repeat' (first
                                                            | (with_reducible refine br_d (fun _ => ?_) (fun _ => ?_))
                                                            | (with_reducible refine br_i (fun _ => ?_) (fun _ => ?_))
                                                            | ((with_reducible apply nd_next); (case hx => simp -dsimp; first | done | with_reducible rfl); (case hid => simp -dsimp; first | done | with_reducible rfl | exact ⟨rfl, rfl, rfl⟩ | exact ⟨rfl, rfl⟩); (case' h1 => intro _ _ _); (case' h0 => intro _))
                                                            | ((with_reducible apply nd_entry); (case hx => simp -dsimp; first | done | with_reducible rfl); (case hid => simp -dsimp; first | done | with_reducible rfl | exact ⟨rfl, rfl, rfl⟩ | exact ⟨rfl, rfl⟩))
                                                            | ((with_reducible apply nd_range); (case hx => simp -dsimp; with_reducible rfl); (case hT => simp -dsimp); (case hnd => assumption); (case hz => simp -dsimp))
                                                            | (with_reducible refine dn_i follows_any (by kernel_rfl) ?_)
                                                            | (with_reducible exact done_eq rfl)
                                                            | (simp -dsimp))); (all_goals try with_reducible refine done_eq ?_)
  refine ex_loop (fun i : Nat => ⟨[(0, .c (.d (dPath p))), (1, .c (.d (dPath q))), (5, aI i)], []⟩) (fun i => i ≤ p.length ∧ i ≤ q.length ∧ cmpRow cmpEl p q = cmpRow cmpEl (p.drop i) (q.drop i)) (fun i => p.length - i) 0 ?_ ⟨Nat.zero_le _, Nat.zero_le _, rfl⟩ ?_
  · exact Weak.same (by simp -dsimp) (by simp -dsimp) (by first | rfl | (simp [closedSt, Av.ids, Ow.ids, Cl.ids, Go.Smd.keys]; done))
  · rintro i ⟨hi, hj, heq⟩ K hK
    have hw : IntKind.wrap .i64 ((i : Int) + 1) = ((i + 1 : Nat) : Int) := by rw [wrap_i64] <;> omega
    have hcc := compareInts_v (p.length : Int) q.length
    by_cases h1 : i < p.length
    · by_cases h2 : i < q.length
      · have hc := heq.trans (cmpRow_at h1 h2)
        have ep := hp _ (List.getElem_mem h1)
        have eq := hq _ (List.getElem_mem h2)
        have hv := sCompareElems_a p[i] q[i] ⟨ep.hk, ep.hl⟩ ⟨eq.hk, eq.hl⟩
        by_cases hz : cmpEl p[i] q[i] = 0
        · rw [if_neg (by simpa using hz)] at hc
          rw [hz] at hv
          (repeat' (first
                                                            | (with_reducible refine br_d (fun _ => ?_) (fun _ => ?_))
                                                            | (with_reducible refine br_i (fun _ => ?_) (fun _ => ?_))
                                                            | (with_reducible refine nd_v (hv) (by first | rfl | (simp -dsimp [hw, b1, b2, h1, h2]; done)) ?_)
                                                            | (with_reducible refine nw_v (hv) rfl (by first | rfl | (simp -dsimp [hw, b1, b2, h1, h2]; done)) (by first | rfl | (simp -dsimp [hw, b1, b2, h1, h2]; done)) ?_)
                                                            | ((with_reducible apply nd_next); (case hx => simp -dsimp [hw, b1, b2, h1, h2]; first | done | with_reducible rfl); (case hid => simp -dsimp [hw, b1, b2, h1, h2]; first | done | with_reducible rfl | exact ⟨rfl, rfl, rfl⟩ | exact ⟨rfl, rfl⟩); (case' h1 => intro _ _ _); (case' h0 => intro _))
                                                            | ((with_reducible apply nd_entry); (case hx => simp -dsimp [hw, b1, b2, h1, h2]; first | done | with_reducible rfl); (case hid => simp -dsimp [hw, b1, b2, h1, h2]; first | done | with_reducible rfl | exact ⟨rfl, rfl, rfl⟩ | exact ⟨rfl, rfl⟩))
                                                            | ((with_reducible apply nd_range); (case hx => simp -dsimp [hw, b1, b2, h1, h2]; with_reducible rfl); (case hT => simp -dsimp [hw, b1, b2, h1, h2]); (case hnd => assumption); (case hz => simp -dsimp [hw, b1, b2, h1, h2]))
                                                            | (with_reducible refine dn_i follows_any (by kernel_rfl) ?_)
                                                            | (with_reducible exact done_eq rfl)
                                                            | (simp -dsimp [hw, b1, b2, h1, h2]))); (all_goals try with_reducible refine done_eq ?_)
          refine hK _ (i + 1) ?_ ⟨by omega, by omega, hc⟩ (by omega)
          exact Weak.same (by simp -dsimp) (by simp -dsimp) (by first | rfl | (simp [closedSt, Av.ids, Ow.ids, Cl.ids, Go.Smd.keys]; done))
        · rw [if_pos hz] at hc
          (repeat' (first
                                                            | (with_reducible refine br_d (fun _ => ?_) (fun _ => ?_))
                                                            | (with_reducible refine br_i (fun _ => ?_) (fun _ => ?_))
                                                            | (with_reducible refine nd_v (hv) (by first | rfl | (simp -dsimp [hw, b1, b2, h1, h2, hz]; done)) ?_)
                                                            | (with_reducible refine nw_v (hv) rfl (by first | rfl | (simp -dsimp [hw, b1, b2, h1, h2, hz]; done)) (by first | rfl | (simp -dsimp [hw, b1, b2, h1, h2, hz]; done)) ?_)
                                                            | ((with_reducible apply nd_next); (case hx => simp -dsimp [hw, b1, b2, h1, h2, hz]; first | done | with_reducible rfl); (case hid => simp -dsimp [hw, b1, b2, h1, h2, hz]; first | done | with_reducible rfl | exact ⟨rfl, rfl, rfl⟩ | exact ⟨rfl, rfl⟩); (case' h1 => intro _ _ _); (case' h0 => intro _))
                                                            | ((with_reducible apply nd_entry); (case hx => simp -dsimp [hw, b1, b2, h1, h2, hz]; first | done | with_reducible rfl); (case hid => simp -dsimp [hw, b1, b2, h1, h2, hz]; first | done | with_reducible rfl | exact ⟨rfl, rfl, rfl⟩ | exact ⟨rfl, rfl⟩))
                                                            | ((with_reducible apply nd_range); (case hx => simp -dsimp [hw, b1, b2, h1, h2, hz]; with_reducible rfl); (case hT => simp -dsimp [hw, b1, b2, h1, h2, hz]); (case hnd => assumption); (case hz => simp -dsimp [hw, b1, b2, h1, h2, hz]))
                                                            | (with_reducible refine dn_i follows_any (by kernel_rfl) ?_)
                                                            | (with_reducible exact done_eq rfl)
                                                            | (simp -dsimp [hw, b1, b2, h1, h2, hz]))); (all_goals try with_reducible refine done_eq ?_)
          rw [hc]
      · have hc := heq.trans (cmpRow_stop hi hj fun h => h2 h.2)
        (repeat' (first
                                                            | (with_reducible refine br_d (fun _ => ?_) (fun _ => ?_))
                                                            | (with_reducible refine br_i (fun _ => ?_) (fun _ => ?_))
                                                            | (with_reducible refine nd_v (hcc) (by first | rfl | (simp -dsimp [b1, b2, h1, h2]; done)) ?_)
                                                            | (with_reducible refine nw_v (hcc) rfl (by first | rfl | (simp -dsimp [b1, b2, h1, h2]; done)) (by first | rfl | (simp -dsimp [b1, b2, h1, h2]; done)) ?_)
                                                            | ((with_reducible apply nd_next); (case hx => simp -dsimp [b1, b2, h1, h2]; first | done | with_reducible rfl); (case hid => simp -dsimp [b1, b2, h1, h2]; first | done | with_reducible rfl | exact ⟨rfl, rfl, rfl⟩ | exact ⟨rfl, rfl⟩); (case' h1 => intro _ _ _); (case' h0 => intro _))
                                                            | ((with_reducible apply nd_entry); (case hx => simp -dsimp [b1, b2, h1, h2]; first | done | with_reducible rfl); (case hid => simp -dsimp [b1, b2, h1, h2]; first | done | with_reducible rfl | exact ⟨rfl, rfl, rfl⟩ | exact ⟨rfl, rfl⟩))
                                                            | ((with_reducible apply nd_range); (case hx => simp -dsimp [b1, b2, h1, h2]; with_reducible rfl); (case hT => simp -dsimp [b1, b2, h1, h2]); (case hnd => assumption); (case hz => simp -dsimp [b1, b2, h1, h2]))
                                                            | (with_reducible refine dn_i follows_any (by kernel_rfl) ?_)
                                                            | (with_reducible exact done_eq rfl)
                                                            | (simp -dsimp [b1, b2, h1, h2]))); (all_goals try with_reducible refine done_eq ?_)
        rw [hc]
    · have hc := heq.trans (cmpRow_stop hi hj fun h => h1 h.1)
      (repeat' (first
                                                            | (with_reducible refine br_d (fun _ => ?_) (fun _ => ?_))
                                                            | (with_reducible refine br_i (fun _ => ?_) (fun _ => ?_))
                                                            | (with_reducible refine nd_v (hcc) (by first | rfl | (simp -dsimp [b1, b2, h1]; done)) ?_)
                                                            | (with_reducible refine nw_v (hcc) rfl (by first | rfl | (simp -dsimp [b1, b2, h1]; done)) (by first | rfl | (simp -dsimp [b1, b2, h1]; done)) ?_)
                                                            | ((with_reducible apply nd_next); (case hx => simp -dsimp [b1, b2, h1]; first | done | with_reducible rfl); (case hid => simp -dsimp [b1, b2, h1]; first | done | with_reducible rfl | exact ⟨rfl, rfl, rfl⟩ | exact ⟨rfl, rfl⟩); (case' h1 => intro _ _ _); (case' h0 => intro _))
                                                            | ((with_reducible apply nd_entry); (case hx => simp -dsimp [b1, b2, h1]; first | done | with_reducible rfl); (case hid => simp -dsimp [b1, b2, h1]; first | done | with_reducible rfl | exact ⟨rfl, rfl, rfl⟩ | exact ⟨rfl, rfl⟩))
                                                            | ((with_reducible apply nd_range); (case hx => simp -dsimp [b1, b2, h1]; with_reducible rfl); (case hT => simp -dsimp [b1, b2, h1]); (case hnd => assumption); (case hz => simp -dsimp [b1, b2, h1]))
                                                            | (with_reducible refine dn_i follows_any (by kernel_rfl) ?_)
                                                            | (with_reducible exact done_eq rfl)
                                                            | (simp -dsimp [b1, b2, h1]))); (all_goals try with_reducible refine done_eq ?_)
      rw [hc]
theorem cmpFd_GF {p q : ByteArray × GV} (hp : Fits (treeOf p.2)) (hq : Fits (treeOf q.2)) : cmpFd (p.1, treeOf p.2) (q.1, treeOf q.2) = cmpGF p q := by
  unfold cmpFd cmpGF
  rw [cmpV_spec _ _ hp hq]
theorem cmpLE_cmpEl (e e' : EV) (h : FitsE e) (h' : FitsE e') : cmpLE (toLE e) (toLE e') = cmpEl e e' := by
  have h1 : cmpRow cmpFd (zipF e.keys e.l) (zipF e'.keys e'.l) = cmpRow cmpGF (e.keys.zip e.l) (e'.keys.zip e'.l) := by
    rw [zipF_eq, zipF_eq]
    exact cmpRow_map fun x hx y hy => cmpFd_GF (h.zip x hx) (h'.zip y hy)
  have h2 := cmpV_spec e.v e'.v h.val h'.val
  unfold toLE cmpEl rkE
  by_cases k1 : e.k = 1
  · by_cases k1' : e'.k = 1
    · simp [k1, k1', cmpLE, h1, cmpI]
    · by_cases k2' : e'.k = 2
      · simp [k1, k2', cmpLE, cmpI]
      · by_cases k3' : e'.k = 3 <;> simp [k1, k1', k2', k3', cmpLE, cmpI]
  · by_cases k2 : e.k = 2
    · by_cases k1' : e'.k = 1
      · simp [k2, k1', cmpLE, cmpI]
      · by_cases k2' : e'.k = 2
        · simp [k2, k2', cmpLE, h2, cmpI]
        · by_cases k3' : e'.k = 3 <;> simp [k2, k1', k2', k3', cmpLE, cmpI]
    · by_cases k3 : e.k = 3
      · by_cases k1' : e'.k = 1
        · simp [k3, k1', cmpLE, cmpI]
        · by_cases k2' : e'.k = 2
          · simp [k3, k2', cmpLE, cmpI]
          · by_cases k3' : e'.k = 3 <;> simp [k3, k1', k2', k3', cmpLE, cmpI]
      · by_cases k1' : e'.k = 1
        · simp [k1, k2, k3, k1', cmpLE, cmpI]
        · by_cases k2' : e'.k = 2
          · simp [k1, k2, k3, k2', cmpLE, cmpI]
          · by_cases k3' : e'.k = 3 <;> simp [k1, k2, k3, k1', k2', k3', cmpLE, cmpI]
theorem toElem_a (e : EV) (hk : e.keys.length * 16 ≤ 140737488351232) (hl : e.l.length * 88 ≤ 140737488351232) : ACalls Tryz.prog 13 [evA e] (fun r => r = leA (toLE e)) := by
  obtain ⟨k, s, keys, l, ⟨a, b, c, d, p, f⟩, n⟩ := e
  rw [evA_x]
  exact toElem_x _ _ _ _ _ _ _ _ _ _ _ hk hl
theorem toPath_a (p : List EV) (hl : p.length * 168 ≤ 140737488351232) (hp : ∀ e ∈ p, EVs e) : ACalls Tryz.prog 8 [.c (.d (dPath p))] (fun r => r = .c (.d (dLPath (p.map toLE)))) := by
  refine acalls_ex [] Tryz.func8 (by kernel_rfl) rfl Tryz.ntmps8 Tryz.results8 (Nat.le_of_ble_eq_true (by kernel_rfl)) ?_; intro hok w0 S0
  clear hok
  have b1 : p.length ≤ 9223372036854775807 := by omega
  (repeat' (first
                                                            | (with_reducible refine br_d (fun _ => ?_) (fun _ => ?_))
                                                            | (with_reducible refine br_i (fun _ => ?_) (fun _ => ?_))
                                                            | ((with_reducible apply nd_next); (case hx => simp -dsimp [b1]; first | done | with_reducible rfl); (case hid => simp -dsimp [b1]; first | done | with_reducible rfl | exact ⟨rfl, rfl, rfl⟩ | exact ⟨rfl, rfl⟩); (case' h1 => intro _ _ _); (case' h0 => intro _))
                                                            | ((with_reducible apply nd_entry); (case hx => simp -dsimp [b1]; first | done | with_reducible rfl); (case hid => simp -dsimp [b1]; first | done | with_reducible rfl | exact ⟨rfl, rfl, rfl⟩ | exact ⟨rfl, rfl⟩))
                                                            | ((with_reducible apply nd_range); (case hx => simp -dsimp [b1]; with_reducible rfl); (case hT => simp -dsimp [b1]); (case hnd => assumption); (case hz => simp -dsimp [b1]))
                                                            | (with_reducible refine dn_i follows_any (by kernel_rfl) ?_)
                                                            | (with_reducible exact done_eq rfl)
                                                            | (simp -dsimp [b1]))); (all_goals try with_reducible refine done_eq ?_)
  refine ex_loop (fun i : Nat => ⟨[(3, .c (.gs 6 i)), (7, .c (.d (dPath p))), (8, aI p.length), (9, aI i)], [(6, .arr i 47 ((p.map (leD ∘ toLE)).take i))]⟩) (fun i => i ≤ p.length) (fun i => p.length - i) 0 ?_ (Nat.zero_le _) ?_
  · exact Weak.same (by simp -dsimp) (by simp -dsimp) (by first | rfl | (simp [closedSt, Av.ids, Ow.ids, Cl.ids, Go.Smd.keys]; done))
  · rintro i hi K hK
    by_cases hlt : i < p.length
    · have hw : IntKind.wrap .i64 ((i : Int) + 1) = ((i + 1 : Nat) : Int) := by rw [wrap_i64] <;> omega
      have hb : (min i p.length + 1) * 32 ≤ 140737488351232 := by omega
      have h1 : (p.map (leD ∘ toLE)).take (i + 1) = (p.map (leD ∘ toLE)).take i ++ [leD (toLE p[i])] := by
        rw [List.take_succ_eq_append_getElem (by simpa using hlt)]; simp
      have he := hp _ (List.getElem_mem hlt)
      have hc := toElem_a p[i] he.hk he.hl
      (repeat' (first
                                                            | (with_reducible refine br_d (fun _ => ?_) (fun _ => ?_))
                                                            | (with_reducible refine br_i (fun _ => ?_) (fun _ => ?_))
                                                            | (with_reducible refine nd_v (hc) (by first | rfl | (simp -dsimp [b1, hlt, hw, hb, toDs]; done)) ?_)
                                                            | (with_reducible refine nw_v (hc) rfl (by first | rfl | (simp -dsimp [b1, hlt, hw, hb, toDs]; done)) (by first | rfl | (simp -dsimp [b1, hlt, hw, hb, toDs]; done)) ?_)
                                                            | ((with_reducible apply nd_next); (case hx => simp -dsimp [b1, hlt, hw, hb, toDs]; first | done | with_reducible rfl); (case hid => simp -dsimp [b1, hlt, hw, hb, toDs]; first | done | with_reducible rfl | exact ⟨rfl, rfl, rfl⟩ | exact ⟨rfl, rfl⟩); (case' h1 => intro _ _ _); (case' h0 => intro _))
                                                            | ((with_reducible apply nd_entry); (case hx => simp -dsimp [b1, hlt, hw, hb, toDs]; first | done | with_reducible rfl); (case hid => simp -dsimp [b1, hlt, hw, hb, toDs]; first | done | with_reducible rfl | exact ⟨rfl, rfl, rfl⟩ | exact ⟨rfl, rfl⟩))
                                                            | ((with_reducible apply nd_range); (case hx => simp -dsimp [b1, hlt, hw, hb, toDs]; with_reducible rfl); (case hT => simp -dsimp [b1, hlt, hw, hb, toDs]); (case hnd => assumption); (case hz => simp -dsimp [b1, hlt, hw, hb, toDs]))
                                                            | (with_reducible refine dn_i follows_any (by kernel_rfl) ?_)
                                                            | (with_reducible exact done_eq rfl)
                                                            | (simp -dsimp [b1, hlt, hw, hb, toDs]))); (all_goals try with_reducible refine done_eq ?_)
      refine hK _ (i + 1) ?_ (by omega) (by omega)
      rw [h1]
      exact Weak.same (by simp -dsimp) (by simp -dsimp) (by first | rfl | (simp [closedSt, Av.ids, Ow.ids, Cl.ids, Go.Smd.keys]; done))
    · (repeat' (first
                                                            | (with_reducible refine br_d (fun _ => ?_) (fun _ => ?_))
                                                            | (with_reducible refine br_i (fun _ => ?_) (fun _ => ?_))
                                                            | ((with_reducible apply nd_next); (case hx => simp -dsimp [hlt]; first | done | with_reducible rfl); (case hid => simp -dsimp [hlt]; first | done | with_reducible rfl | exact ⟨rfl, rfl, rfl⟩ | exact ⟨rfl, rfl⟩); (case' h1 => intro _ _ _); (case' h0 => intro _))
                                                            | ((with_reducible apply nd_entry); (case hx => simp -dsimp [hlt]; first | done | with_reducible rfl); (case hid => simp -dsimp [hlt]; first | done | with_reducible rfl | exact ⟨rfl, rfl, rfl⟩ | exact ⟨rfl, rfl⟩))
                                                            | ((with_reducible apply nd_range); (case hx => simp -dsimp [hlt]; with_reducible rfl); (case hT => simp -dsimp [hlt]); (case hnd => assumption); (case hz => simp -dsimp [hlt]))
                                                            | (with_reducible refine dn_i follows_any (by kernel_rfl) ?_)
                                                            | (with_reducible exact done_eq rfl)
                                                            | (simp -dsimp [hlt]))); (all_goals try with_reducible refine done_eq ?_)
      rw [List.take_of_length_le (by simp; omega)]
      show _ = Av.c (.d (.sl _ ((p.map toLE).map leD)))
      rw [List.map_map]
theorem orderlyElem_w (e : EV) (h : EVs e) : ACalls Tryz.prog 12 [evA e] (fun r => ∃ b, r = aV (.bool b)) := by
  obtain ⟨k, s, keys, l, ⟨a, b, c, d, p, f⟩, n⟩ := e
  rw [evA_x]
  exact orderlyElem_x _ _ _ _ _ _ _ _ _ _ _ h.hk h.hl
abbrev dPaths (L : List (List EV)) : D := .sl 22 (L.map fun p => [dPath p])
theorem orderlyPaths_w (L : List (List EV)) (hl : L.length ≤ 4000000000000) (hL : ∀ p ∈ L, p.length * 168 ≤ 140737488351232 ∧ ∀ e ∈ p, EVs e) : ACalls Tryz.prog 7 [.c (.d (dPaths L))] (fun r => ∃ b, r = aV (.bool b)) := by
  refine acalls_ex [] Tryz.func7 (by kernel_rfl) rfl Tryz.ntmps7 Tryz.results7 (Nat.le_of_ble_eq_true (by kernel_rfl)) ?_; intro hok w0 S0
  clear hok
  have b1 : L.length ≤ 9223372036854775807 := by omega
  (repeat' (first
                                                            | (with_reducible refine br_d (fun _ => ?_) (fun _ => ?_))
                                                            | (with_reducible refine br_i (fun _ => ?_) (fun _ => ?_))
                                                            | ((with_reducible apply nd_next); (case hx => simp -dsimp [b1]; first | done | with_reducible rfl); (case hid => simp -dsimp [b1]; first | done | with_reducible rfl | exact ⟨rfl, rfl, rfl⟩ | exact ⟨rfl, rfl⟩); (case' h1 => intro _ _ _); (case' h0 => intro _))
                                                            | ((with_reducible apply nd_entry); (case hx => simp -dsimp [b1]; first | done | with_reducible rfl); (case hid => simp -dsimp [b1]; first | done | with_reducible rfl | exact ⟨rfl, rfl, rfl⟩ | exact ⟨rfl, rfl⟩))
                                                            | ((with_reducible apply nd_range); (case hx => simp -dsimp [b1]; with_reducible rfl); (case hT => simp -dsimp [b1]); (case hnd => assumption); (case hz => simp -dsimp [b1]))
                                                            | (with_reducible refine dn_i follows_any (by kernel_rfl) ?_)
                                                            | (with_reducible exact done_eq rfl)
                                                            | (simp -dsimp [b1]))); (all_goals try with_reducible refine done_eq ?_)
  refine ex_loop (fun i : Nat => ⟨[(7, .c (.d (dPaths L))), (8, aI L.length), (9, aI i)], []⟩) (fun i => i ≤ L.length) (fun i => L.length - i) 0 ?_ (Nat.zero_le _) ?_
  · exact Weak.same (by simp -dsimp) (by simp -dsimp) (by first | rfl | (simp [closedSt, Av.ids, Ow.ids, Cl.ids, Go.Smd.keys]; done))
  · rintro i hi K hK
    by_cases hlt : i < L.length
    · have hw : IntKind.wrap .i64 ((i : Int) + 1) = ((i + 1 : Nat) : Int) := by rw [wrap_i64] <;> omega
      obtain ⟨hp1, hp2⟩ := hL _ (List.getElem_mem hlt)
      have b2 : L[i].length ≤ 9223372036854775807 := by omega
      (repeat' (first
                                                            | (with_reducible refine br_d (fun _ => ?_) (fun _ => ?_))
                                                            | (with_reducible refine br_i (fun _ => ?_) (fun _ => ?_))
                                                            | ((with_reducible apply nd_next); (case hx => simp -dsimp [b1, hlt, b2]; first | done | with_reducible rfl); (case hid => simp -dsimp [b1, hlt, b2]; first | done | with_reducible rfl | exact ⟨rfl, rfl, rfl⟩ | exact ⟨rfl, rfl⟩); (case' h1 => intro _ _ _); (case' h0 => intro _))
                                                            | ((with_reducible apply nd_entry); (case hx => simp -dsimp [b1, hlt, b2]; first | done | with_reducible rfl); (case hid => simp -dsimp [b1, hlt, b2]; first | done | with_reducible rfl | exact ⟨rfl, rfl, rfl⟩ | exact ⟨rfl, rfl⟩))
                                                            | ((with_reducible apply nd_range); (case hx => simp -dsimp [b1, hlt, b2]; with_reducible rfl); (case hT => simp -dsimp [b1, hlt, b2]); (case hnd => assumption); (case hz => simp -dsimp [b1, hlt, b2]))
                                                            | (with_reducible refine dn_i follows_any (by kernel_rfl) ?_)
                                                            | (with_reducible exact done_eq rfl)
                                                            | (simp -dsimp [b1, hlt, b2]))); (all_goals try with_reducible refine done_eq ?_)
      refine ex_loop (fun j : Nat => ⟨[(7, .c (.d (dPaths L))), (8, aI L.length), (9, aI i), (13, .c (.d (dPath L[i]))), (14, aI L[i].length), (15, aI j)], []⟩) (fun j => j ≤ L[i].length) (fun j => L[i].length - j) 0 ?_ (Nat.zero_le _) ?_
      · exact Weak.same (by simp -dsimp) (by simp -dsimp) (by first | rfl | (simp [closedSt, Av.ids, Ow.ids, Cl.ids, Go.Smd.keys]; done))
      · rintro j hj K2 hK2
        by_cases hlt2 : j < L[i].length
        · have hw2 : IntKind.wrap .i64 ((j : Int) + 1) = ((j + 1 : Nat) : Int) := by rw [wrap_i64] <;> omega
          have hc := orderlyElem_w _ (hp2 _ (List.getElem_mem hlt2))
          (repeat' (first
                                                            | (with_reducible refine br_d (fun _ => ?_) (fun _ => ?_))
                                                            | (with_reducible refine br_i (fun _ => ?_) (fun _ => ?_))
                                                            | ((with_reducible refine nd_c (hc) (by first | rfl | (simp -dsimp [b2, hlt2, hw2]; done)) ?_); rintro _ ⟨x, rfl⟩ _)
                                                            | ((with_reducible refine nw_c (hc) rfl (by first | rfl | (simp -dsimp [b2, hlt2, hw2]; done)) (by first | rfl | (simp -dsimp [b2, hlt2, hw2]; done)) ?_); rintro _ ⟨x, rfl⟩ _)
                                                            | ((with_reducible apply nd_next); (case hx => simp -dsimp [b2, hlt2, hw2]; first | done | with_reducible rfl); (case hid => simp -dsimp [b2, hlt2, hw2]; first | done | with_reducible rfl | exact ⟨rfl, rfl, rfl⟩ | exact ⟨rfl, rfl⟩); (case' h1 => intro _ _ _); (case' h0 => intro _))
                                                            | ((with_reducible apply nd_entry); (case hx => simp -dsimp [b2, hlt2, hw2]; first | done | with_reducible rfl); (case hid => simp -dsimp [b2, hlt2, hw2]; first | done | with_reducible rfl | exact ⟨rfl, rfl, rfl⟩ | exact ⟨rfl, rfl⟩))
                                                            | ((with_reducible apply nd_range); (case hx => simp -dsimp [b2, hlt2, hw2]; with_reducible rfl); (case hT => simp -dsimp [b2, hlt2, hw2]); (case hnd => assumption); (case hz => simp -dsimp [b2, hlt2, hw2]))
                                                            | (with_reducible refine dn_i follows_any (by kernel_rfl) ?_)
                                                            | (with_reducible exact done_eq rfl)
                                                            | (simp -dsimp [b2, hlt2, hw2]))); (all_goals try with_reducible refine done_eq ?_)
          · exact ⟨_, rfl⟩
          · refine hK2 _ (j + 1) ?_ (by omega) (by omega)
            exact Weak.same (by simp -dsimp) (by simp -dsimp) (by first | rfl | (simp [closedSt, Av.ids, Ow.ids, Cl.ids, Go.Smd.keys]; done))
        · (repeat' (first
                                                            | (with_reducible refine br_d (fun _ => ?_) (fun _ => ?_))
                                                            | (with_reducible refine br_i (fun _ => ?_) (fun _ => ?_))
                                                            | ((with_reducible apply nd_next); (case hx => simp -dsimp [hlt2, hw]; first | done | with_reducible rfl); (case hid => simp -dsimp [hlt2, hw]; first | done | with_reducible rfl | exact ⟨rfl, rfl, rfl⟩ | exact ⟨rfl, rfl⟩); (case' h1 => intro _ _ _); (case' h0 => intro _))
                                                            | ((with_reducible apply nd_entry); (case hx => simp -dsimp [hlt2, hw]; first | done | with_reducible rfl); (case hid => simp -dsimp [hlt2, hw]; first | done | with_reducible rfl | exact ⟨rfl, rfl, rfl⟩ | exact ⟨rfl, rfl⟩))
                                                            | ((with_reducible apply nd_range); (case hx => simp -dsimp [hlt2, hw]; with_reducible rfl); (case hT => simp -dsimp [hlt2, hw]); (case hnd => assumption); (case hz => simp -dsimp [hlt2, hw]))
                                                            | (with_reducible refine dn_i follows_any (by kernel_rfl) ?_)
                                                            | (with_reducible exact done_eq rfl)
                                                            | (simp -dsimp [hlt2, hw]))); (all_goals try with_reducible refine done_eq ?_)
          refine hK _ (i + 1) ?_ (by omega) (by omega)
          exact Weak.same (by simp -dsimp) (by simp -dsimp) (by first | rfl | (simp [closedSt, Av.ids, Ow.ids, Cl.ids, Go.Smd.keys]; done))
    · (repeat' (first
                                                            | (with_reducible refine br_d (fun _ => ?_) (fun _ => ?_))
                                                            | (with_reducible refine br_i (fun _ => ?_) (fun _ => ?_))
                                                            | ((with_reducible apply nd_next); (case hx => simp -dsimp [hlt]; first | done | with_reducible rfl); (case hid => simp -dsimp [hlt]; first | done | with_reducible rfl | exact ⟨rfl, rfl, rfl⟩ | exact ⟨rfl, rfl⟩); (case' h1 => intro _ _ _); (case' h0 => intro _))
                                                            | ((with_reducible apply nd_entry); (case hx => simp -dsimp [hlt]; first | done | with_reducible rfl); (case hid => simp -dsimp [hlt]; first | done | with_reducible rfl | exact ⟨rfl, rfl, rfl⟩ | exact ⟨rfl, rfl⟩))
                                                            | ((with_reducible apply nd_range); (case hx => simp -dsimp [hlt]; with_reducible rfl); (case hT => simp -dsimp [hlt]); (case hnd => assumption); (case hz => simp -dsimp [hlt]))
                                                            | (with_reducible refine dn_i follows_any (by kernel_rfl) ?_)
                                                            | (with_reducible exact done_eq rfl)
                                                            | (simp -dsimp [hlt]))); (all_goals try with_reducible refine done_eq ?_)
      exact ⟨_, rfl⟩
theorem tame_w (p : List EV) (hl : p.length * 168 ≤ 140737488351232) (hp : ∀ e ∈ p, EVs e) : ACalls Tryz.prog 4 [.c (.d (dPath p))] (fun r => ∃ b, r = aV (.bool b)) := by
  refine acalls_ex [] Tryz.func4 (by kernel_rfl) rfl Tryz.ntmps4 Tryz.results4 (Nat.le_of_ble_eq_true (by kernel_rfl)) ?_; intro hok w0 S0
  clear hok
  have h := orderlyPaths_w [p] (by simp) (by simpa using ⟨hl, hp⟩)
  simp only [dPaths, List.map_cons, List.map_nil] at h
  (repeat' (first
                                                            | (with_reducible refine br_d (fun _ => ?_) (fun _ => ?_))
                                                            | (with_reducible refine br_i (fun _ => ?_) (fun _ => ?_))
                                                            | ((with_reducible refine nd_c (h) (by first | rfl | (simp -dsimp [toDs]; done)) ?_); rintro _ ⟨x, rfl⟩ _)
                                                            | ((with_reducible refine nw_c (h) rfl (by first | rfl | (simp -dsimp [toDs]; done)) (by first | rfl | (simp -dsimp [toDs]; done)) ?_); rintro _ ⟨x, rfl⟩ _)
                                                            | ((with_reducible apply nd_next); (case hx => simp -dsimp [toDs]; first | done | with_reducible rfl); (case hid => simp -dsimp [toDs]; first | done | with_reducible rfl | exact ⟨rfl, rfl, rfl⟩ | exact ⟨rfl, rfl⟩); (case' h1 => intro _ _ _); (case' h0 => intro _))
                                                            | ((with_reducible apply nd_entry); (case hx => simp -dsimp [toDs]; first | done | with_reducible rfl); (case hid => simp -dsimp [toDs]; first | done | with_reducible rfl | exact ⟨rfl, rfl, rfl⟩ | exact ⟨rfl, rfl⟩))
                                                            | ((with_reducible apply nd_range); (case hx => simp -dsimp [toDs]; with_reducible rfl); (case hT => simp -dsimp [toDs]); (case hnd => assumption); (case hz => simp -dsimp [toDs]))
                                                            | (with_reducible refine dn_i follows_any (by kernel_rfl) ?_)
                                                            | (with_reducible exact done_eq rfl)
                                                            | (simp -dsimp [toDs]))); (all_goals try with_reducible refine done_eq ?_)
  exact ⟨_, rfl⟩
theorem comparePaths_a (p q : List EV) (hl : p.length * 168 ≤ 140737488351232) (hm : q.length * 168 ≤ 140737488351232) (hp : ∀ e ∈ p, EVs e ∧ FitsE e) (hq : ∀ e ∈ q, EVs e ∧ FitsE e) :
    ACalls Tryz.prog 5 [.c (.d (dPath p)), .c (.d (dPath q))] (fun r => r = aI (cmpRow cmpLE (p.map toLE) (q.map toLE))) := by
  refine acalls_ex [] Tryz.func5 (by kernel_rfl) rfl Tryz.ntmps5 Tryz.results5 (Nat.le_of_ble_eq_true (by kernel_rfl)) ?_; intro hok w0 S0
  clear hok
  have h1 := toPath_a p hl fun e he => (hp e he).1
  have h2 := toPath_a q hm fun e he => (hq e he).1
  have h3 := pathCompare_a (p.map toLE) (q.map toLE) (by simp; omega) (by simp; omega) (fun x hx => by obtain ⟨e, he, rfl⟩ := List.mem_map.1 hx; exact (hp e he).2.le) (fun x hx => by obtain ⟨e, he, rfl⟩ := List.mem_map.1 hx; exact (hq e he).2.le)
  (repeat' (first
                                                            | (with_reducible refine br_d (fun _ => ?_) (fun _ => ?_))
                                                            | (with_reducible refine br_i (fun _ => ?_) (fun _ => ?_))
                                                            | (with_reducible refine nd_v (h1) (by first | rfl | (simp -dsimp; done)) ?_)
                                                            | (with_reducible refine nw_v (h1) rfl (by first | rfl | (simp -dsimp; done)) (by first | rfl | (simp -dsimp; done)) ?_)
                                                            | (with_reducible refine nd_v (h2) (by first | rfl | (simp -dsimp; done)) ?_)
                                                            | (with_reducible refine nw_v (h2) rfl (by first | rfl | (simp -dsimp; done)) (by first | rfl | (simp -dsimp; done)) ?_)
                                                            | (with_reducible refine nd_v (h3) (by first | rfl | (simp -dsimp; done)) ?_)
                                                            | (with_reducible refine nw_v (h3) rfl (by first | rfl | (simp -dsimp; done)) (by first | rfl | (simp -dsimp; done)) ?_)
                                                            | ((with_reducible apply nd_next); (case hx => simp -dsimp; first | done | with_reducible rfl); (case hid => simp -dsimp; first | done | with_reducible rfl | exact ⟨rfl, rfl, rfl⟩ | exact ⟨rfl, rfl⟩); (case' h1 => intro _ _ _); (case' h0 => intro _))
                                                            | ((with_reducible apply nd_entry); (case hx => simp -dsimp; first | done | with_reducible rfl); (case hid => simp -dsimp; first | done | with_reducible rfl | exact ⟨rfl, rfl, rfl⟩ | exact ⟨rfl, rfl⟩))
                                                            | ((with_reducible apply nd_range); (case hx => simp -dsimp; with_reducible rfl); (case hT => simp -dsimp); (case hnd => assumption); (case hz => simp -dsimp))
                                                            | (with_reducible refine dn_i follows_any (by kernel_rfl) ?_)
                                                            | (with_reducible exact done_eq rfl)
                                                            | (simp -dsimp))); (all_goals try with_reducible refine done_eq ?_)
theorem fnComparePaths_a (p q : List EV) : ACalls Tryz.prog 3 [.c (.d (dPath p)), .c (.d (dPath q))] (fun r => r = aV (.bool true)) := by
  refine acalls_ex [] Tryz.func3 (by kernel_rfl) rfl Tryz.ntmps3 Tryz.results3 (Nat.le_of_ble_eq_true (by kernel_rfl)) ?_; intro hok w0 S0
  obtain ⟨hl, hp⟩ := path_ok (okA_c (hok (.c (.d (dPath p))) (by simp)))
  obtain ⟨hm, hq⟩ := path_ok (okA_c (hok (.c (.d (dPath q))) (by simp)))
  clear hok
  have hp2 : ∀ e ∈ p, EVs e ∧ FitsE e := fun e he => ⟨⟨(hp e he).1, (hp e he).2.2.1⟩, (hp e he).2.2.2⟩
  have hq2 : ∀ e ∈ q, EVs e ∧ FitsE e := fun e he => ⟨⟨(hq e he).1, (hq e he).2.2.1⟩, (hq e he).2.2.2⟩
  have b1 : p.length ≤ 9223372036854775807 := by omega
  have b2 : q.length ≤ 9223372036854775807 := by omega
  have h1 := tame_w p hl fun e he => (hp2 e he).1
  have h2 := tame_w q hm fun e he => (hq2 e he).1
  have h3 := comparePaths_a p q hl hm hp2 hq2
  have h4 := sComparePaths_a p q hl hm (fun e he => (hp2 e he).1) fun e he => (hq2 e he).1
  have h5 : cmpRow cmpLE (p.map toLE) (q.map toLE) = cmpRow cmpEl p q := cmpRow_map fun x hx y hy => cmpLE_cmpEl x y (hp2 x hx).2 (hq2 y hy).2
  rw [h5] at h3
  (repeat' (first
                                                            | (with_reducible refine br_d (fun _ => ?_) (fun _ => ?_))
                                                            | (with_reducible refine br_i (fun _ => ?_) (fun _ => ?_))
                                                            | ((with_reducible refine nd_c (h1) (by first | rfl | (simp -dsimp [b1, b2]; done)) ?_); rintro _ ⟨x1, rfl⟩ _)
                                                            | ((with_reducible refine nw_c (h1) rfl (by first | rfl | (simp -dsimp [b1, b2]; done)) (by first | rfl | (simp -dsimp [b1, b2]; done)) ?_); rintro _ ⟨x1, rfl⟩ _)
                                                            | ((with_reducible refine nd_c (h2) (by first | rfl | (simp -dsimp [b1, b2]; done)) ?_); rintro _ ⟨x2, rfl⟩ _)
                                                            | ((with_reducible refine nw_c (h2) rfl (by first | rfl | (simp -dsimp [b1, b2]; done)) (by first | rfl | (simp -dsimp [b1, b2]; done)) ?_); rintro _ ⟨x2, rfl⟩ _)
                                                            | (with_reducible refine nd_v (h3) (by first | rfl | (simp -dsimp [b1, b2]; done)) ?_)
                                                            | (with_reducible refine nw_v (h3) rfl (by first | rfl | (simp -dsimp [b1, b2]; done)) (by first | rfl | (simp -dsimp [b1, b2]; done)) ?_)
                                                            | (with_reducible refine nd_v (h4) (by first | rfl | (simp -dsimp [b1, b2]; done)) ?_)
                                                            | (with_reducible refine nw_v (h4) rfl (by first | rfl | (simp -dsimp [b1, b2]; done)) (by first | rfl | (simp -dsimp [b1, b2]; done)) ?_)
                                                            | ((with_reducible apply nd_next); (case hx => simp -dsimp [b1, b2]; first | done | with_reducible rfl); (case hid => simp -dsimp [b1, b2]; first | done | with_reducible rfl | exact ⟨rfl, rfl, rfl⟩ | exact ⟨rfl, rfl⟩); (case' h1 => intro _ _ _); (case' h0 => intro _))
                                                            | ((with_reducible apply nd_entry); (case hx => simp -dsimp [b1, b2]; first | done | with_reducible rfl); (case hid => simp -dsimp [b1, b2]; first | done | with_reducible rfl | exact ⟨rfl, rfl, rfl⟩ | exact ⟨rfl, rfl⟩))
                                                            | ((with_reducible apply nd_range); (case hx => simp -dsimp [b1, b2]; with_reducible rfl); (case hT => simp -dsimp [b1, b2]); (case hnd => assumption); (case hz => simp -dsimp [b1, b2]))
                                                            | (with_reducible refine dn_i follows_any (by kernel_rfl) ?_)
                                                            | (with_reducible exact done_eq rfl)
                                                            | (simp -dsimp [b1, b2]))); (all_goals try with_reducible refine done_eq ?_)
end Go.Smd
end
