/- Part 22 of the proof: Cs. -/
import Derived.Test.YtannholebjdckaaGreatQS21
set_option linter.unusedVariables false
section
set_option linter.unusedSimpArgs false
set_option maxRecDepth 100000
set_option maxHeartbeats 8000000
namespace Go.Smd
open Go.RowKit Go.Proofs
def cmpS (s t : ByteArray) : Int := Lib.compareBytes s.data.toList t.data.toList
def rkV (k : Int) : Int := if k = 2 ∨ k = 3 then 0 else if k = 4 then 1 else if k = 1 then 2 else if k = 5 then 3 else if k = 6 then 4 else 5
mutual
def cmpP : GV → GV → Int
  | .mk k n f s ks l, .mk k' n' f' s' ks' l' =>
    if cmpI (rkV k) (rkV k') ≠ 0 then cmpI (rkV k) (rkV k')
    else if rkV k = 0 then (if k = 2 ∧ k' = 2 then cmpI n n' else cmpFl (asF k n f) (asF k' n' f'))
    else if rkV k = 1 then cmpS s s'
    else if rkV k = 2 then cmpI n n'
    else if rkV k = 3 then cmpPs l l'
    else if rkV k = 4 then cmpPm ks l ks' l'
    else 0
def cmpPs : List GV → List GV → Int
  | x :: l, y :: m => if cmpP x y ≠ 0 then cmpP x y else cmpPs l m
  | [], [] => 0
  | [], _ :: _ => -1
  | _ :: _, [] => 1
def cmpPm : List ByteArray → List GV → List ByteArray → List GV → Int
  | k :: ks, x :: l, k' :: ks', y :: l' => if cmpS k k' ≠ 0 then cmpS k k' else if cmpP x y ≠ 0 then cmpP x y else cmpPm ks l ks' l'
  | ks, _, ks', _ => cmpI ks.length ks'.length
end
theorem cmpI_self (a : Int) : cmpI a a = 0 := by unfold cmpI; simp
theorem cmpI_add (a b c : Int) : cmpI (a + c) (b + c) = cmpI a b := by
  unfold cmpI
  by_cases h1 : b < a
  · rw [if_pos h1, if_pos (by omega)]
  · by_cases h2 : a < b
    · rw [if_neg h1, if_pos h2, if_neg (by omega), if_pos (by omega)]
    · rw [if_neg h1, if_neg h2, if_neg (by omega), if_neg (by omega)]
theorem cmpI_sub {a b : Nat} (c : Nat) (ha : c ≤ a) (hb : c ≤ b) : cmpI (a : Int) b = cmpI ((a - c : Nat) : Int) ((b - c : Nat) : Int) := by
  rw [← cmpI_add ((a - c : Nat) : Int) ((b - c : Nat) : Int) c]
  congr 1 <;> omega
theorem compareInts_v (a b : Int) : ACalls Tryz.prog 113 [aI a, aI b] (fun r => r = aI (cmpI a b)) := by
  refine acalls_ex [] Tryz.func113 (by kernel_rfl) rfl Tryz.ntmps113 Tryz.results113 (Nat.le_of_ble_eq_true (by kernel_rfl)) ?_; intro hok w0 S0
  clear hok
  (repeat' (first | (with_reducible refine br_d (fun _ => ?_) (fun _ => ?_)) | (with_reducible refine br_i (fun _ => ?_) (fun _ => ?_)) | (with_reducible refine dn_i follows_any (by kernel_rfl) ?_) | (with_reducible exact done_eq rfl) | (simp -dsimp))); (all_goals try with_reducible refine done_eq ?_)
  · rename_i h
    unfold cmpI; rw [if_neg (by omega), if_pos h]
  · rename_i h1 h2
    unfold cmpI; rw [if_pos (by omega)]
  · rename_i h1 h2
    unfold cmpI; rw [if_neg (by omega), if_neg (by omega)]
theorem compareFloats_v (a b : Nat) : ACalls Tryz.prog 186 [aV (.float .f64 a), aV (.float .f64 b)] (fun r => r = aI (cmpFl a b)) := by
  refine acalls_ex [] Tryz.func186 (by kernel_rfl) rfl Tryz.ntmps186 Tryz.results186 (Nat.le_of_ble_eq_true (by kernel_rfl)) ?_; intro hok w0 S0
  clear hok
  (repeat' (first | (with_reducible refine br_d (fun _ => ?_) (fun _ => ?_)) | (with_reducible refine br_i (fun _ => ?_) (fun _ => ?_)) | (with_reducible refine dn_i follows_any (by kernel_rfl) ?_) | (with_reducible exact done_eq rfl) | (simp -dsimp))); (all_goals try with_reducible refine done_eq ?_)
  · rename_i h
    have h : FloatKind.f64.format.order a b = some .lt := by simpa using h
    unfold cmpFl; rw [h]; rfl
  · rename_i h1 h2
    unfold cmpFl; rw [if_pos (by simpa using h2)]
  · rename_i h1 h2
    unfold cmpFl; rw [if_neg (by simpa using h2), if_neg (by simpa using h1)]
theorem kindRank_x (k n : Int) (f : Nat) (s : ByteArray) (ks : List ByteArray) (l : List GV) : ACalls Tryz.prog 185 [gvX k n f s ks l] (fun r => r = aI (rkV k)) := by
  refine acalls_ex [] Tryz.func185 (by kernel_rfl) rfl Tryz.ntmps185 Tryz.results185 (Nat.le_of_ble_eq_true (by kernel_rfl)) ?_; intro hok w0 S0
  clear hok
  (repeat' (first | (with_reducible refine br_d (fun _ => ?_) (fun _ => ?_)) | (with_reducible refine br_i (fun _ => ?_) (fun _ => ?_)) | (with_reducible refine dn_i follows_any (by kernel_rfl) ?_) | (with_reducible exact done_eq rfl) | (simp -dsimp))); (all_goals try with_reducible refine done_eq ?_)
  all_goals simp_all [rkV]
theorem bytes_at (s : ByteArray) (i : Nat) (h : i < s.size) : s.data.toList.drop i = s[i] :: s.data.toList.drop (i + 1) := by
  rw [List.drop_eq_getElem_cons (by simpa using h)]
  rfl
theorem cmpBytes_cons (a b : UInt8) (l m : List UInt8) : Lib.compareBytes (a :: l) (b :: m) = if a = b then Lib.compareBytes l m else cmpI (a.toNat : Int) b.toNat := by
  simp only [Lib.compareBytes]
  unfold cmpI
  by_cases h : a < b
  · have h' : a.toNat < b.toNat := UInt8.lt_iff_toNat_lt.1 h
    have hne : a ≠ b := fun e => by subst e; omega
    rw [if_pos h, if_neg hne, if_neg (by omega), if_pos (by omega)]
  · by_cases h2 : b < a
    · have h' : b.toNat < a.toNat := UInt8.lt_iff_toNat_lt.1 h2
      have hne : a ≠ b := fun e => by subst e; omega
      rw [if_neg h, if_pos h2, if_neg hne, if_pos (by omega)]
    · have he : a = b := by
        rw [UInt8.lt_iff_toNat_lt] at h h2
        exact UInt8.toNat_inj.1 (by omega)
      rw [if_neg h, if_neg h2, if_pos he]
theorem cmpBytes_nil (l m : List UInt8) (h : l = [] ∨ m = []) : Lib.compareBytes l m = cmpI (l.length : Int) m.length := by
  cases l with
  | nil => cases m with
    | nil => rfl
    | cons y m => simp only [Lib.compareBytes, cmpI]; rw [if_neg (by first | (simp; done) | (simp; omega)), if_pos (by first | (simp; done) | (simp; omega))]
  | cons x l => cases m with
    | nil => simp only [Lib.compareBytes, cmpI]; rw [if_pos (by first | (simp; done) | (simp; omega))]
    | cons y m => simp at h
theorem compareStrings_v (s t : ByteArray) : ACalls Tryz.prog 112 [aS s, aS t] (fun r => r = aI (cmpS s t)) := by
  refine acalls_ex [(4, ([], [(0, []), (1, []), (2, []), (3, []), (4, []), (5, []), (6, [])])), (5, ([8], [(0, []), (1, []), (2, []), (3, []), (4, []), (5, []), (6, []), (7, []), (8, []), (9, [])]))] Tryz.func112 (by kernel_rfl) rfl Tryz.ntmps112 Tryz.results112 (Nat.le_of_ble_eq_true (by kernel_rfl)) ?_; intro hok w0 S0
  have b1 := okD_str (okA_c (hok (aS s) (by simp)))
  have b2 := okD_str (okA_c (hok (aS t) (by simp)))
  clear hok
  (repeat' (first | (with_reducible refine br_d (fun _ => ?_) (fun _ => ?_)) | (with_reducible refine br_i (fun _ => ?_) (fun _ => ?_)) | (with_reducible refine dn_i follows_any (by kernel_rfl) ?_) | (with_reducible exact done_eq rfl) | (simp -dsimp))); (all_goals try with_reducible refine done_eq ?_)
  refine ex_loop (fun i : Nat => ⟨[(0, aS s), (1, aS t), (5, aI i)], []⟩) (fun i => i ≤ s.size ∧ i ≤ t.size ∧ cmpS s t = Lib.compareBytes (s.data.toList.drop i) (t.data.toList.drop i)) (fun i => s.size - i) 0 ?_ ⟨Nat.zero_le _, Nat.zero_le _, rfl⟩ ?_
  · exact Weak.same (by simp -dsimp) (by simp -dsimp) (by first | rfl | (simp [closedSt, Av.ids, Ow.ids, Cl.ids, Go.Smd.keys]; done))
  · rintro i ⟨hi, hj, heq⟩ K hK
    have hw : IntKind.wrap .i64 ((i : Int) + 1) = ((i + 1 : Nat) : Int) := by rw [wrap_i64] <;> omega
    have hend : ¬ (i < s.size ∧ i < t.size) → cmpS s t = cmpI (s.size : Int) t.size := fun h => by
      have l1 : (s.data.toList.drop i).length = s.size - i := by rw [List.length_drop, Array.length_toList]; rfl
      have l2 : (t.data.toList.drop i).length = t.size - i := by rw [List.length_drop, Array.length_toList]; rfl
      rw [heq, cmpBytes_nil _ _ (by
        by_cases h1 : i < s.size
        · exact .inr (List.eq_nil_of_length_eq_zero (by omega))
        · exact .inl (List.eq_nil_of_length_eq_zero (by omega))), l1, l2, ← cmpI_sub i hi hj]
    by_cases h1 : i < s.size
    · by_cases h2 : i < t.size
      · have hc : cmpS s t = if s[i] = t[i] then Lib.compareBytes (s.data.toList.drop (i + 1)) (t.data.toList.drop (i + 1)) else cmpI (s[i].toNat : Int) t[i].toNat := by
          rw [heq, bytes_at s i h1, bytes_at t i h2, cmpBytes_cons]
        have hcc := compareInts_v (s[i].toNat : Int) t[i].toNat
        by_cases he : s[i] = t[i]
        · rw [if_pos he] at hc
          (repeat' (first | (with_reducible refine br_d (fun _ => ?_) (fun _ => ?_)) | (with_reducible refine br_i (fun _ => ?_) (fun _ => ?_)) | (with_reducible refine nd_v (hcc) (by first | rfl | (simp -dsimp [hw, h1, h2, he, conv_u8]; done)) ?_) | (with_reducible refine nw_v (hcc) rfl (by first | rfl | (simp -dsimp [hw, h1, h2, he, conv_u8]; done)) (by first | rfl | (simp -dsimp [hw, h1, h2, he, conv_u8]; done)) ?_) | (with_reducible refine dn_i follows_any (by kernel_rfl) ?_) | (with_reducible exact done_eq rfl) | (simp -dsimp [hw, h1, h2, he, conv_u8]))); (all_goals try with_reducible refine done_eq ?_)
          refine hK _ (i + 1) ?_ ⟨by omega, by omega, hc⟩ (by omega)
          exact Weak.same (by simp -dsimp) (by simp -dsimp) (by first | rfl | (simp [closedSt, Av.ids, Ow.ids, Cl.ids, Go.Smd.keys]; done))
        · rw [if_neg he] at hc
          have he2 : ¬ ((s[i].toNat : Int) = t[i].toNat) := fun e => he (UInt8.toNat_inj.1 (by omega))
          (repeat' (first | (with_reducible refine br_d (fun _ => ?_) (fun _ => ?_)) | (with_reducible refine br_i (fun _ => ?_) (fun _ => ?_)) | (with_reducible refine nd_v (hcc) (by first | rfl | (simp -dsimp [hw, h1, h2, he, he2, conv_u8]; done)) ?_) | (with_reducible refine nw_v (hcc) rfl (by first | rfl | (simp -dsimp [hw, h1, h2, he, he2, conv_u8]; done)) (by first | rfl | (simp -dsimp [hw, h1, h2, he, he2, conv_u8]; done)) ?_) | (with_reducible refine dn_i follows_any (by kernel_rfl) ?_) | (with_reducible exact done_eq rfl) | (simp -dsimp [hw, h1, h2, he, he2, conv_u8]))); (all_goals try with_reducible refine done_eq ?_)
          rw [hc]
      · have hcc := compareInts_v (s.size : Int) t.size
        have hc := hend (fun h => h2 h.2)
        (repeat' (first | (with_reducible refine br_d (fun _ => ?_) (fun _ => ?_)) | (with_reducible refine br_i (fun _ => ?_) (fun _ => ?_)) | (with_reducible refine nd_v (hcc) (by first | rfl | (simp -dsimp [hw, h1, h2]; done)) ?_) | (with_reducible refine nw_v (hcc) rfl (by first | rfl | (simp -dsimp [hw, h1, h2]; done)) (by first | rfl | (simp -dsimp [hw, h1, h2]; done)) ?_) | (with_reducible refine dn_i follows_any (by kernel_rfl) ?_) | (with_reducible exact done_eq rfl) | (simp -dsimp [hw, h1, h2]))); (all_goals try with_reducible refine done_eq ?_)
        rw [hc]
    · have hcc := compareInts_v (s.size : Int) t.size
      have hc := hend (fun h => h1 h.1)
      (repeat' (first | (with_reducible refine br_d (fun _ => ?_) (fun _ => ?_)) | (with_reducible refine br_i (fun _ => ?_) (fun _ => ?_)) | (with_reducible refine nd_v (hcc) (by first | rfl | (simp -dsimp [hw, h1]; done)) ?_) | (with_reducible refine nw_v (hcc) rfl (by first | rfl | (simp -dsimp [hw, h1]; done)) (by first | rfl | (simp -dsimp [hw, h1]; done)) ?_) | (with_reducible refine dn_i follows_any (by kernel_rfl) ?_) | (with_reducible exact done_eq rfl) | (simp -dsimp [hw, h1]))); (all_goals try with_reducible refine done_eq ?_)
      rw [hc]
end Go.Smd
end
