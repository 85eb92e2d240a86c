/- Part 23 of the proof: Cv Cw. -/
import Derived.Test.YtannholebjdckaaQK22
set_option linter.unusedVariables false
section
set_option linter.unusedSimpArgs false
set_option maxRecDepth 100000
set_option maxHeartbeats 8000000
namespace Go.Smd
open Go.RowKit Go.Proofs
def cmpRow {α : Type} (c : α → α → Int) : List α → List α → Int
  | x :: l, y :: m => if c x y ≠ 0 then c x y else cmpRow c l m
  | [], [] => 0
  | [], _ :: _ => -1
  | _ :: _, [] => 1
theorem cmpRow_end {α : Type} {c : α → α → Int} {l m : List α} (h : l = [] ∨ m = []) : cmpRow c l m = cmpI (l.length : Int) m.length := by
  cases l with
  | nil => cases m with
    | nil => simp [cmpRow, cmpI]
    | cons y m => simp only [cmpRow, cmpI]; rw [if_neg (by first | (simp; done) | (simp; omega)), if_pos (by first | (simp; done) | (simp; omega))]
  | cons x l => cases m with
    | nil => simp only [cmpRow, cmpI]; rw [if_pos (by first | (simp; done) | (simp; omega))]
    | cons y m => simp at h
theorem cmpRow_at {α : Type} {c : α → α → Int} {l m : List α} {i : Nat} (h1 : i < l.length) (h2 : i < m.length) : cmpRow c (l.drop i) (m.drop i) = if c l[i] m[i] ≠ 0 then c l[i] m[i] else cmpRow c (l.drop (i + 1)) (m.drop (i + 1)) := by
  rw [List.drop_eq_getElem_cons h1, List.drop_eq_getElem_cons h2]; simp only [cmpRow]
theorem cmpRow_stop {α : Type} {c : α → α → Int} {l m : List α} {i : Nat} (hi : i ≤ l.length) (hj : i ≤ m.length) (h : ¬ (i < l.length ∧ i < m.length)) : cmpRow c (l.drop i) (m.drop i) = cmpI (l.length : Int) m.length := by
  rw [cmpRow_end (by
    by_cases h1 : i < l.length
    · exact .inr (List.drop_eq_nil_of_le (by omega))
    · exact .inl (List.drop_eq_nil_of_le (by omega))), List.length_drop, List.length_drop, ← cmpI_sub i hi hj]
theorem cmpRow_map {α β : Type} {c : α → α → Int} {d : β → β → Int} {f : α → β} : ∀ {l m : List α}, (∀ x ∈ l, ∀ y ∈ m, d (f x) (f y) = c x y) → cmpRow d (l.map f) (m.map f) = cmpRow c l m
  | [], [], _ => rfl
  | [], _ :: _, _ => rfl
  | _ :: _, [], _ => rfl
  | x :: l, y :: m, h => by
    simp only [List.map_cons, cmpRow]
    rw [cmpRow_map (l := l) (m := m) fun a ha b hb => h a (List.mem_cons_of_mem _ ha) b (List.mem_cons_of_mem _ hb), h x (List.mem_cons_self ..) y (List.mem_cons_self ..)]
noncomputable def cmpFd (p q : ByteArray × Tree) : Int := if cmpS p.1 q.1 ≠ 0 then cmpS p.1 q.1 else cmpV p.2 q.2
theorem strCompare_s (a b : ByteArray) : ACalls Try.prog 43 [aS a, aS b] (fun r => r = aI (cmpS a b)) := strCompare_a a b
theorem fieldsCompare_a (l m : Fds) (hl : ∀ p ∈ l, Fits p.2) (hm : ∀ p ∈ m, Fits p.2) :
    ACalls Try.prog 32 [.c (.d (dFds l)), .c (.d (dFds m))] (fun r => r = aI (cmpRow cmpFd l m)) := by
  refine acalls_ex [(8, ([10], [(0, []), (1, []), (2, []), (3, []), (4, []), (5, []), (6, []), (7, []), (8, []), (9, []), (10, []), (11, [])])), (11, ([10], [(0, []), (1, []), (2, []), (3, []), (4, []), (5, []), (6, []), (7, []), (8, []), (9, []), (10, []), (11, [])]))] Try.func32 (by kernel_rfl) rfl Try.ntmps32 Try.results32 (Nat.le_of_ble_eq_true (by kernel_rfl)) ?_; intro hok w0 S0
  have a1 : l.length * 32 ≤ 140737488351232 := by have := (okD_sl (hok (.c (.d (dFds l))) (by simp))).1; simpa using this
  have a2 : m.length * 32 ≤ 140737488351232 := by have := (okD_sl (hok (.c (.d (dFds m))) (by simp))).1; simpa using this
  clear hok
  have b1 : l.length ≤ 9223372036854775807 := by omega
  have b2 : m.length ≤ 9223372036854775807 := by omega
  (repeat' (first
                                                            | (with_reducible refine br_d (fun _ => ?_) (fun _ => ?_))
                                                            | (with_reducible refine br_i (fun _ => ?_) (fun _ => ?_))
                                                            | ((with_reducible apply nd_next); (case hx => simp -dsimp; first | done | with_reducible rfl); (case hid => simp -dsimp; first | done | with_reducible rfl | exact ⟨rfl, rfl, rfl⟩ | exact ⟨rfl, rfl⟩); (case' h1 => intro _ _ _); (case' h0 => intro _))
                                                            | ((with_reducible apply nd_entry); (case hx => simp -dsimp; first | done | with_reducible rfl); (case hid => simp -dsimp; first | done | with_reducible rfl | exact ⟨rfl, rfl, rfl⟩ | exact ⟨rfl, rfl⟩))
                                                            | ((with_reducible apply nd_range); (case hx => simp -dsimp; with_reducible rfl); (case hT => simp -dsimp); (case hnd => assumption); (case hz => simp -dsimp))
                                                            | (with_reducible refine dn_i follows_any (by kernel_rfl) ?_)
                                                            | (with_reducible exact done_eq rfl)
                                                            | (simp -dsimp))); (all_goals try with_reducible refine done_eq ?_)
  refine ex_loop (fun i : Nat => ⟨[(0, .c (.d (dFds l))), (1, .c (.d (dFds m))), (5, aI i)], []⟩) (fun i => i ≤ l.length ∧ i ≤ m.length ∧ cmpRow cmpFd l m = cmpRow cmpFd (l.drop i) (m.drop i)) (fun i => l.length - i) 0 ?_ ⟨Nat.zero_le _, Nat.zero_le _, rfl⟩ ?_
  · exact Weak.same (by simp -dsimp) (by simp -dsimp) (by first | rfl | (simp [closedSt, Av.ids, Ow.ids, Cl.ids, Go.Smd.keys]; done))
  · rintro i ⟨hi, hj, heq⟩ K hK
    have hw : IntKind.wrap .i64 ((i : Int) + 1) = ((i + 1 : Nat) : Int) := by rw [wrap_i64] <;> omega
    by_cases h1 : i < l.length
    · have h3 : ¬ (l.length : Int) ≤ i := by omega
      by_cases h2 : i < m.length
      · have h4 : ¬ (m.length : Int) ≤ i := by omega
        have hc := heq.trans (cmpRow_at h1 h2)
        have hs := strCompare_s l[i].1 m[i].1
        have hv := vCompare_a l[i].2 m[i].2 (hl _ (List.getElem_mem h1)) (hm _ (List.getElem_mem h2))
        by_cases hy : cmpS l[i].1 m[i].1 = 0
        · have hf : cmpFd l[i] m[i] = cmpV l[i].2 m[i].2 := by unfold cmpFd; rw [if_neg (by simpa using hy)]
          rw [hf] at hc
          rw [hy] at hs
          by_cases hz : cmpV l[i].2 m[i].2 = 0
          · rw [if_neg (by simpa using hz)] at hc
            rw [hz] at hv
            (repeat' (first
                                                            | (with_reducible refine br_d (fun _ => ?_) (fun _ => ?_))
                                                            | (with_reducible refine br_i (fun _ => ?_) (fun _ => ?_))
                                                            | (with_reducible refine nd_v (hs) (by first | rfl | (simp -dsimp [hw, b1, b2, h1, h2, h3, h4, fdRow]; done)) ?_)
                                                            | (with_reducible refine nw_v (hs) rfl (by first | rfl | (simp -dsimp [hw, b1, b2, h1, h2, h3, h4, fdRow]; done)) (by first | rfl | (simp -dsimp [hw, b1, b2, h1, h2, h3, h4, fdRow]; done)) ?_)
                                                            | (with_reducible refine nd_v (hv) (by first | rfl | (simp -dsimp [hw, b1, b2, h1, h2, h3, h4, fdRow]; done)) ?_)
                                                            | (with_reducible refine nw_v (hv) rfl (by first | rfl | (simp -dsimp [hw, b1, b2, h1, h2, h3, h4, fdRow]; done)) (by first | rfl | (simp -dsimp [hw, b1, b2, h1, h2, h3, h4, fdRow]; done)) ?_)
                                                            | ((with_reducible apply nd_next); (case hx => simp -dsimp [hw, b1, b2, h1, h2, h3, h4, fdRow]; first | done | with_reducible rfl); (case hid => simp -dsimp [hw, b1, b2, h1, h2, h3, h4, fdRow]; first | done | with_reducible rfl | exact ⟨rfl, rfl, rfl⟩ | exact ⟨rfl, rfl⟩); (case' h1 => intro _ _ _); (case' h0 => intro _))
                                                            | ((with_reducible apply nd_entry); (case hx => simp -dsimp [hw, b1, b2, h1, h2, h3, h4, fdRow]; first | done | with_reducible rfl); (case hid => simp -dsimp [hw, b1, b2, h1, h2, h3, h4, fdRow]; first | done | with_reducible rfl | exact ⟨rfl, rfl, rfl⟩ | exact ⟨rfl, rfl⟩))
                                                            | ((with_reducible apply nd_range); (case hx => simp -dsimp [hw, b1, b2, h1, h2, h3, h4, fdRow]; with_reducible rfl); (case hT => simp -dsimp [hw, b1, b2, h1, h2, h3, h4, fdRow]); (case hnd => assumption); (case hz => simp -dsimp [hw, b1, b2, h1, h2, h3, h4, fdRow]))
                                                            | (with_reducible refine dn_i follows_any (by kernel_rfl) ?_)
                                                            | (with_reducible exact done_eq rfl)
                                                            | (simp -dsimp [hw, b1, b2, h1, h2, h3, h4, fdRow]))); (all_goals try with_reducible refine done_eq ?_)
            refine hK _ (i + 1) ?_ ⟨by omega, by omega, hc⟩ (by omega)
            exact Weak.same (by simp -dsimp) (by simp -dsimp) (by first | rfl | (simp [closedSt, Av.ids, Ow.ids, Cl.ids, Go.Smd.keys]; done))
          · rw [if_pos hz] at hc
            (repeat' (first
                                                            | (with_reducible refine br_d (fun _ => ?_) (fun _ => ?_))
                                                            | (with_reducible refine br_i (fun _ => ?_) (fun _ => ?_))
                                                            | (with_reducible refine nd_v (hs) (by first | rfl | (simp -dsimp [hw, b1, b2, h1, h2, h3, h4, hz, fdRow]; done)) ?_)
                                                            | (with_reducible refine nw_v (hs) rfl (by first | rfl | (simp -dsimp [hw, b1, b2, h1, h2, h3, h4, hz, fdRow]; done)) (by first | rfl | (simp -dsimp [hw, b1, b2, h1, h2, h3, h4, hz, fdRow]; done)) ?_)
                                                            | (with_reducible refine nd_v (hv) (by first | rfl | (simp -dsimp [hw, b1, b2, h1, h2, h3, h4, hz, fdRow]; done)) ?_)
                                                            | (with_reducible refine nw_v (hv) rfl (by first | rfl | (simp -dsimp [hw, b1, b2, h1, h2, h3, h4, hz, fdRow]; done)) (by first | rfl | (simp -dsimp [hw, b1, b2, h1, h2, h3, h4, hz, fdRow]; done)) ?_)
                                                            | ((with_reducible apply nd_next); (case hx => simp -dsimp [hw, b1, b2, h1, h2, h3, h4, hz, fdRow]; first | done | with_reducible rfl); (case hid => simp -dsimp [hw, b1, b2, h1, h2, h3, h4, hz, fdRow]; first | done | with_reducible rfl | exact ⟨rfl, rfl, rfl⟩ | exact ⟨rfl, rfl⟩); (case' h1 => intro _ _ _); (case' h0 => intro _))
                                                            | ((with_reducible apply nd_entry); (case hx => simp -dsimp [hw, b1, b2, h1, h2, h3, h4, hz, fdRow]; first | done | with_reducible rfl); (case hid => simp -dsimp [hw, b1, b2, h1, h2, h3, h4, hz, fdRow]; first | done | with_reducible rfl | exact ⟨rfl, rfl, rfl⟩ | exact ⟨rfl, rfl⟩))
                                                            | ((with_reducible apply nd_range); (case hx => simp -dsimp [hw, b1, b2, h1, h2, h3, h4, hz, fdRow]; with_reducible rfl); (case hT => simp -dsimp [hw, b1, b2, h1, h2, h3, h4, hz, fdRow]); (case hnd => assumption); (case hz => simp -dsimp [hw, b1, b2, h1, h2, h3, h4, hz, fdRow]))
                                                            | (with_reducible refine dn_i follows_any (by kernel_rfl) ?_)
                                                            | (with_reducible exact done_eq rfl)
                                                            | (simp -dsimp [hw, b1, b2, h1, h2, h3, h4, hz, fdRow]))); (all_goals try with_reducible refine done_eq ?_)
            rw [hc]
        · have hf : cmpFd l[i] m[i] = cmpS l[i].1 m[i].1 := by unfold cmpFd; rw [if_pos hy]
          rw [hf, if_pos hy] at hc
          (repeat' (first
                                                            | (with_reducible refine br_d (fun _ => ?_) (fun _ => ?_))
                                                            | (with_reducible refine br_i (fun _ => ?_) (fun _ => ?_))
                                                            | (with_reducible refine nd_v (hs) (by first | rfl | (simp -dsimp [hw, b1, b2, h1, h2, h3, h4, hy, fdRow]; done)) ?_)
                                                            | (with_reducible refine nw_v (hs) rfl (by first | rfl | (simp -dsimp [hw, b1, b2, h1, h2, h3, h4, hy, fdRow]; done)) (by first | rfl | (simp -dsimp [hw, b1, b2, h1, h2, h3, h4, hy, fdRow]; done)) ?_)
                                                            | ((with_reducible apply nd_next); (case hx => simp -dsimp [hw, b1, b2, h1, h2, h3, h4, hy, fdRow]; first | done | with_reducible rfl); (case hid => simp -dsimp [hw, b1, b2, h1, h2, h3, h4, hy, fdRow]; first | done | with_reducible rfl | exact ⟨rfl, rfl, rfl⟩ | exact ⟨rfl, rfl⟩); (case' h1 => intro _ _ _); (case' h0 => intro _))
                                                            | ((with_reducible apply nd_entry); (case hx => simp -dsimp [hw, b1, b2, h1, h2, h3, h4, hy, fdRow]; first | done | with_reducible rfl); (case hid => simp -dsimp [hw, b1, b2, h1, h2, h3, h4, hy, fdRow]; first | done | with_reducible rfl | exact ⟨rfl, rfl, rfl⟩ | exact ⟨rfl, rfl⟩))
                                                            | ((with_reducible apply nd_range); (case hx => simp -dsimp [hw, b1, b2, h1, h2, h3, h4, hy, fdRow]; with_reducible rfl); (case hT => simp -dsimp [hw, b1, b2, h1, h2, h3, h4, hy, fdRow]); (case hnd => assumption); (case hz => simp -dsimp [hw, b1, b2, h1, h2, h3, h4, hy, fdRow]))
                                                            | (with_reducible refine dn_i follows_any (by kernel_rfl) ?_)
                                                            | (with_reducible exact done_eq rfl)
                                                            | (simp -dsimp [hw, b1, b2, h1, h2, h3, h4, hy, fdRow]))); (all_goals try with_reducible refine done_eq ?_)
          rw [hc]
      · have h4 : (m.length : Int) ≤ i := by omega
        have hc := heq.trans (cmpRow_stop hi hj fun h => h2 h.2)
        (repeat' (first
                                                            | (with_reducible refine br_d (fun _ => ?_) (fun _ => ?_))
                                                            | (with_reducible refine br_i (fun _ => ?_) (fun _ => ?_))
                                                            | ((with_reducible apply nd_next); (case hx => simp -dsimp [hw, b1, b2, h1, h2, h3, h4]; first | done | with_reducible rfl); (case hid => simp -dsimp [hw, b1, b2, h1, h2, h3, h4]; first | done | with_reducible rfl | exact ⟨rfl, rfl, rfl⟩ | exact ⟨rfl, rfl⟩); (case' h1 => intro _ _ _); (case' h0 => intro _))
                                                            | ((with_reducible apply nd_entry); (case hx => simp -dsimp [hw, b1, b2, h1, h2, h3, h4]; first | done | with_reducible rfl); (case hid => simp -dsimp [hw, b1, b2, h1, h2, h3, h4]; first | done | with_reducible rfl | exact ⟨rfl, rfl, rfl⟩ | exact ⟨rfl, rfl⟩))
                                                            | ((with_reducible apply nd_range); (case hx => simp -dsimp [hw, b1, b2, h1, h2, h3, h4]; with_reducible rfl); (case hT => simp -dsimp [hw, b1, b2, h1, h2, h3, h4]); (case hnd => assumption); (case hz => simp -dsimp [hw, b1, b2, h1, h2, h3, h4]))
                                                            | (with_reducible refine dn_i follows_any (by kernel_rfl) ?_)
                                                            | (with_reducible exact done_eq rfl)
                                                            | (simp -dsimp [hw, b1, b2, h1, h2, h3, h4]))); (all_goals try with_reducible refine done_eq ?_)
        rw [hc]; unfold cmpI; rw [if_pos (by omega)]
    · have h3 : (l.length : Int) ≤ i := by omega
      have hc := heq.trans (cmpRow_stop hi hj fun h => h1 h.1)
      by_cases h2 : i < m.length
      · have h4 : ¬ (m.length : Int) ≤ i := by omega
        (repeat' (first
                                                            | (with_reducible refine br_d (fun _ => ?_) (fun _ => ?_))
                                                            | (with_reducible refine br_i (fun _ => ?_) (fun _ => ?_))
                                                            | ((with_reducible apply nd_next); (case hx => simp -dsimp [hw, b1, b2, h1, h2, h3, h4]; first | done | with_reducible rfl); (case hid => simp -dsimp [hw, b1, b2, h1, h2, h3, h4]; first | done | with_reducible rfl | exact ⟨rfl, rfl, rfl⟩ | exact ⟨rfl, rfl⟩); (case' h1 => intro _ _ _); (case' h0 => intro _))
                                                            | ((with_reducible apply nd_entry); (case hx => simp -dsimp [hw, b1, b2, h1, h2, h3, h4]; first | done | with_reducible rfl); (case hid => simp -dsimp [hw, b1, b2, h1, h2, h3, h4]; first | done | with_reducible rfl | exact ⟨rfl, rfl, rfl⟩ | exact ⟨rfl, rfl⟩))
                                                            | ((with_reducible apply nd_range); (case hx => simp -dsimp [hw, b1, b2, h1, h2, h3, h4]; with_reducible rfl); (case hT => simp -dsimp [hw, b1, b2, h1, h2, h3, h4]); (case hnd => assumption); (case hz => simp -dsimp [hw, b1, b2, h1, h2, h3, h4]))
                                                            | (with_reducible refine dn_i follows_any (by kernel_rfl) ?_)
                                                            | (with_reducible exact done_eq rfl)
                                                            | (simp -dsimp [hw, b1, b2, h1, h2, h3, h4]))); (all_goals try with_reducible refine done_eq ?_)
        rw [hc]; unfold cmpI; rw [if_neg (by omega), if_pos (by omega)]
      · have h4 : (m.length : Int) ≤ i := by omega
        (repeat' (first
                                                            | (with_reducible refine br_d (fun _ => ?_) (fun _ => ?_))
                                                            | (with_reducible refine br_i (fun _ => ?_) (fun _ => ?_))
                                                            | ((with_reducible apply nd_next); (case hx => simp -dsimp [hw, b1, b2, h1, h2, h3, h4]; first | done | with_reducible rfl); (case hid => simp -dsimp [hw, b1, b2, h1, h2, h3, h4]; first | done | with_reducible rfl | exact ⟨rfl, rfl, rfl⟩ | exact ⟨rfl, rfl⟩); (case' h1 => intro _ _ _); (case' h0 => intro _))
                                                            | ((with_reducible apply nd_entry); (case hx => simp -dsimp [hw, b1, b2, h1, h2, h3, h4]; first | done | with_reducible rfl); (case hid => simp -dsimp [hw, b1, b2, h1, h2, h3, h4]; first | done | with_reducible rfl | exact ⟨rfl, rfl, rfl⟩ | exact ⟨rfl, rfl⟩))
                                                            | ((with_reducible apply nd_range); (case hx => simp -dsimp [hw, b1, b2, h1, h2, h3, h4]; with_reducible rfl); (case hT => simp -dsimp [hw, b1, b2, h1, h2, h3, h4]); (case hnd => assumption); (case hz => simp -dsimp [hw, b1, b2, h1, h2, h3, h4]))
                                                            | (with_reducible refine dn_i follows_any (by kernel_rfl) ?_)
                                                            | (with_reducible exact done_eq rfl)
                                                            | (simp -dsimp [hw, b1, b2, h1, h2, h3, h4]))); (all_goals try with_reducible refine done_eq ?_)
        rw [hc]; unfold cmpI; rw [if_neg (by omega), if_neg (by omega)]
end Go.Smd
end
section
set_option linter.unusedSimpArgs false
set_option maxRecDepth 100000
set_option maxHeartbeats 8000000
namespace Go.Smd
open Go.RowKit Go.Proofs
def cmpGF (p q : ByteArray × GV) : Int := if cmpS p.1 q.1 ≠ 0 then cmpS p.1 q.1 else cmpP (clean p.2) (clean q.2)
theorem sCompareKeys_x (k : Int) (s : ByteArray) (keys : List ByteArray) (l : List GV) (a b : Int) (c : Nat) (d : ByteArray) (e : List ByteArray) (f : List GV) (n : Int) (k' : Int) (s' : ByteArray) (keys' : List ByteArray) (l' : List GV) (a' b' : Int) (c' : Nat) (d' : ByteArray) (e' : List ByteArray) (f' : List GV) (n' : Int) (hk : keys.length * 16 ≤ 140737488351232) (hl : l.length * 88 ≤ 140737488351232) (hk' : keys'.length * 16 ≤ 140737488351232) (hl' : l'.length * 88 ≤ 140737488351232) :
    ACalls Try.prog 11 [evX k s keys l a b c d e f n, evX k' s' keys' l' a' b' c' d' e' f' n'] (fun r => r = aI (cmpRow cmpGF (keys.zip l) (keys'.zip l'))) := by
  refine acalls_ex [(4, ([10], [(0, []), (1, []), (2, []), (3, []), (4, []), (5, []), (6, []), (7, []), (8, []), (9, []), (10, []), (11, [])])), (7, ([10], [(0, []), (1, []), (2, []), (3, []), (4, []), (5, []), (6, []), (7, []), (8, []), (9, []), (10, []), (11, [])]))] Try.func11 (by kernel_rfl) rfl Try.ntmps11 Try.results11 (Nat.le_of_ble_eq_true (by kernel_rfl)) ?_; intro hok w0 S0
  clear hok
  have b1 : keys.length ≤ 9223372036854775807 := by omega
  have b2 : l.length ≤ 9223372036854775807 := by omega
  have b3 : keys'.length ≤ 9223372036854775807 := by omega
  have b4 : l'.length ≤ 9223372036854775807 := by omega
  obtain ⟨m, hm⟩ : ∃ m : Nat, m = min keys.length l.length := ⟨_, rfl⟩
  have hmin : min (keys.length : Int) (l.length : Int) = (m : Int) := by omega
  obtain ⟨m', hm'⟩ : ∃ m' : Nat, m' = min keys'.length l'.length := ⟨_, rfl⟩
  have hmin' : min (keys'.length : Int) (l'.length : Int) = (m' : Int) := by omega
  have z1 : (keys.zip l).length = m := by simp [hm]
  have z2 : (keys'.zip l').length = m' := by simp [hm']
  have hcc := compareInts_v (m : Int) m'
  (repeat' (first
                                                            | (with_reducible refine br_d (fun _ => ?_) (fun _ => ?_))
                                                            | (with_reducible refine br_i (fun _ => ?_) (fun _ => ?_))
                                                            | ((with_reducible apply nd_next); (case hx => simp -dsimp; first | done | with_reducible rfl); (case hid => simp -dsimp; first | done | with_reducible rfl | exact ⟨rfl, rfl, rfl⟩ | exact ⟨rfl, rfl⟩); (case' h1 => intro _ _ _); (case' h0 => intro _))
                                                            | ((with_reducible apply nd_entry); (case hx => simp -dsimp; first | done | with_reducible rfl); (case hid => simp -dsimp; first | done | with_reducible rfl | exact ⟨rfl, rfl, rfl⟩ | exact ⟨rfl, rfl⟩))
                                                            | ((with_reducible apply nd_range); (case hx => simp -dsimp; with_reducible rfl); (case hT => simp -dsimp); (case hnd => assumption); (case hz => simp -dsimp))
                                                            | (with_reducible refine dn_i follows_any (by kernel_rfl) ?_)
                                                            | (with_reducible exact done_eq rfl)
                                                            | (simp -dsimp))); (all_goals try with_reducible refine done_eq ?_)
  refine ex_loop (fun i : Nat => ⟨[(2, .c (.own 2 0)), (3, .c (.own 3 0)), (5, aI i)], [(3, .cells [.d (dI k'), .d (dS s'), .d (dStrs keys'), .d (dGVs l'), .d (dI a'), .d (dI b'), .d (dF c'), .d (dS d'), .d (dStrs e'), .d (dGVs f'), .d (dI n')] 31), (2, .cells [.d (dI k), .d (dS s), .d (dStrs keys), .d (dGVs l), .d (dI a), .d (dI b), .d (dF c), .d (dS d), .d (dStrs e), .d (dGVs f), .d (dI n)] 31)]⟩) (fun i => i ≤ m ∧ i ≤ m' ∧ cmpRow cmpGF (keys.zip l) (keys'.zip l') = cmpRow cmpGF ((keys.zip l).drop i) ((keys'.zip l').drop i)) (fun i => m - i) 0 ?_ ⟨Nat.zero_le _, Nat.zero_le _, rfl⟩ ?_
  · exact Weak.same (by simp -dsimp) (by simp -dsimp) (by first | rfl | (simp [closedSt, Av.ids, Ow.ids, Cl.ids, Go.Smd.keys]; done))
  · rintro i ⟨hi, hj, heq⟩ K hK
    have hw : IntKind.wrap .i64 ((i : Int) + 1) = ((i + 1 : Nat) : Int) := by rw [wrap_i64] <;> omega
    have hend : ¬ (i < m ∧ i < m') → cmpRow cmpGF (keys.zip l) (keys'.zip l') = cmpI (m : Int) m' := fun h => by
      have := heq.trans (cmpRow_stop (by omega) (by omega) fun h' => h (by omega))
      rwa [z1, z2] at this
    by_cases h1 : i < keys.length
    · by_cases h2 : i < l.length
      · by_cases h3 : i < keys'.length
        · by_cases h4 : i < l'.length
          · have hc := heq.trans (cmpRow_at (by omega) (by omega))
            have e1 : (keys.zip l)[i]'(by omega) = (keys[i], l[i]) := by simp
            have e2 : (keys'.zip l')[i]'(by omega) = (keys'[i], l'[i]) := by simp
            rw [e1, e2] at hc
            have hs := compareStrings_v keys[i] keys'[i]
            have hv := sCompareValues_a l[i] l'[i]
            by_cases hy : cmpS keys[i] keys'[i] = 0
            · have hf : cmpGF (keys[i], l[i]) (keys'[i], l'[i]) = cmpP (clean l[i]) (clean l'[i]) := by unfold cmpGF; rw [if_neg (by simpa using hy)]
              rw [hf] at hc
              rw [hy] at hs
              by_cases hz : cmpP (clean l[i]) (clean l'[i]) = 0
              · rw [if_neg (by simpa using hz)] at hc
                rw [hz] at hv
                (repeat' (first
                                                            | (with_reducible refine br_d (fun _ => ?_) (fun _ => ?_))
                                                            | (with_reducible refine br_i (fun _ => ?_) (fun _ => ?_))
                                                            | (with_reducible refine nd_v (hs) (by first | rfl | (simp -dsimp [hw, b1, b2, b3, b4, h1, h2, h3, h4, rowS]; done)) ?_)
                                                            | (with_reducible refine nw_v (hs) rfl (by first | rfl | (simp -dsimp [hw, b1, b2, b3, b4, h1, h2, h3, h4, rowS]; done)) (by first | rfl | (simp -dsimp [hw, b1, b2, b3, b4, h1, h2, h3, h4, rowS]; done)) ?_)
                                                            | (with_reducible refine nd_v (hv) (by first | rfl | (simp -dsimp [hw, b1, b2, b3, b4, h1, h2, h3, h4, rowS]; done)) ?_)
                                                            | (with_reducible refine nw_v (hv) rfl (by first | rfl | (simp -dsimp [hw, b1, b2, b3, b4, h1, h2, h3, h4, rowS]; done)) (by first | rfl | (simp -dsimp [hw, b1, b2, b3, b4, h1, h2, h3, h4, rowS]; done)) ?_)
                                                            | ((with_reducible apply nd_next); (case hx => simp -dsimp [hw, b1, b2, b3, b4, h1, h2, h3, h4, rowS]; first | done | with_reducible rfl); (case hid => simp -dsimp [hw, b1, b2, b3, b4, h1, h2, h3, h4, rowS]; first | done | with_reducible rfl | exact ⟨rfl, rfl, rfl⟩ | exact ⟨rfl, rfl⟩); (case' h1 => intro _ _ _); (case' h0 => intro _))
                                                            | ((with_reducible apply nd_entry); (case hx => simp -dsimp [hw, b1, b2, b3, b4, h1, h2, h3, h4, rowS]; first | done | with_reducible rfl); (case hid => simp -dsimp [hw, b1, b2, b3, b4, h1, h2, h3, h4, rowS]; first | done | with_reducible rfl | exact ⟨rfl, rfl, rfl⟩ | exact ⟨rfl, rfl⟩))
                                                            | ((with_reducible apply nd_range); (case hx => simp -dsimp [hw, b1, b2, b3, b4, h1, h2, h3, h4, rowS]; with_reducible rfl); (case hT => simp -dsimp [hw, b1, b2, b3, b4, h1, h2, h3, h4, rowS]); (case hnd => assumption); (case hz => simp -dsimp [hw, b1, b2, b3, b4, h1, h2, h3, h4, rowS]))
                                                            | (with_reducible refine dn_i follows_any (by kernel_rfl) ?_)
                                                            | (with_reducible exact done_eq rfl)
                                                            | (simp -dsimp [hw, b1, b2, b3, b4, h1, h2, h3, h4, rowS]))); (all_goals try with_reducible refine done_eq ?_)
                refine hK _ (i + 1) ?_ ⟨by omega, by omega, hc⟩ (by omega)
                exact Weak.same (by simp -dsimp) (by simp -dsimp) (by first | rfl | (simp [closedSt, Av.ids, Ow.ids, Cl.ids, Go.Smd.keys]; done))
              · rw [if_pos hz] at hc
                (repeat' (first
                                                            | (with_reducible refine br_d (fun _ => ?_) (fun _ => ?_))
                                                            | (with_reducible refine br_i (fun _ => ?_) (fun _ => ?_))
                                                            | (with_reducible refine nd_v (hs) (by first | rfl | (simp -dsimp [hw, b1, b2, b3, b4, h1, h2, h3, h4, hz, rowS]; done)) ?_)
                                                            | (with_reducible refine nw_v (hs) rfl (by first | rfl | (simp -dsimp [hw, b1, b2, b3, b4, h1, h2, h3, h4, hz, rowS]; done)) (by first | rfl | (simp -dsimp [hw, b1, b2, b3, b4, h1, h2, h3, h4, hz, rowS]; done)) ?_)
                                                            | (with_reducible refine nd_v (hv) (by first | rfl | (simp -dsimp [hw, b1, b2, b3, b4, h1, h2, h3, h4, hz, rowS]; done)) ?_)
                                                            | (with_reducible refine nw_v (hv) rfl (by first | rfl | (simp -dsimp [hw, b1, b2, b3, b4, h1, h2, h3, h4, hz, rowS]; done)) (by first | rfl | (simp -dsimp [hw, b1, b2, b3, b4, h1, h2, h3, h4, hz, rowS]; done)) ?_)
                                                            | ((with_reducible apply nd_next); (case hx => simp -dsimp [hw, b1, b2, b3, b4, h1, h2, h3, h4, hz, rowS]; first | done | with_reducible rfl); (case hid => simp -dsimp [hw, b1, b2, b3, b4, h1, h2, h3, h4, hz, rowS]; first | done | with_reducible rfl | exact ⟨rfl, rfl, rfl⟩ | exact ⟨rfl, rfl⟩); (case' h1 => intro _ _ _); (case' h0 => intro _))
                                                            | ((with_reducible apply nd_entry); (case hx => simp -dsimp [hw, b1, b2, b3, b4, h1, h2, h3, h4, hz, rowS]; first | done | with_reducible rfl); (case hid => simp -dsimp [hw, b1, b2, b3, b4, h1, h2, h3, h4, hz, rowS]; first | done | with_reducible rfl | exact ⟨rfl, rfl, rfl⟩ | exact ⟨rfl, rfl⟩))
                                                            | ((with_reducible apply nd_range); (case hx => simp -dsimp [hw, b1, b2, b3, b4, h1, h2, h3, h4, hz, rowS]; with_reducible rfl); (case hT => simp -dsimp [hw, b1, b2, b3, b4, h1, h2, h3, h4, hz, rowS]); (case hnd => assumption); (case hz => simp -dsimp [hw, b1, b2, b3, b4, h1, h2, h3, h4, hz, rowS]))
                                                            | (with_reducible refine dn_i follows_any (by kernel_rfl) ?_)
                                                            | (with_reducible exact done_eq rfl)
                                                            | (simp -dsimp [hw, b1, b2, b3, b4, h1, h2, h3, h4, hz, rowS]))); (all_goals try with_reducible refine done_eq ?_)
                rw [hc]
            · have hf : cmpGF (keys[i], l[i]) (keys'[i], l'[i]) = cmpS keys[i] keys'[i] := by unfold cmpGF; rw [if_pos hy]
              rw [hf, if_pos hy] at hc
              (repeat' (first
                                                            | (with_reducible refine br_d (fun _ => ?_) (fun _ => ?_))
                                                            | (with_reducible refine br_i (fun _ => ?_) (fun _ => ?_))
                                                            | (with_reducible refine nd_v (hs) (by first | rfl | (simp -dsimp [hw, b1, b2, b3, b4, h1, h2, h3, h4, hy, rowS]; done)) ?_)
                                                            | (with_reducible refine nw_v (hs) rfl (by first | rfl | (simp -dsimp [hw, b1, b2, b3, b4, h1, h2, h3, h4, hy, rowS]; done)) (by first | rfl | (simp -dsimp [hw, b1, b2, b3, b4, h1, h2, h3, h4, hy, rowS]; done)) ?_)
                                                            | ((with_reducible apply nd_next); (case hx => simp -dsimp [hw, b1, b2, b3, b4, h1, h2, h3, h4, hy, rowS]; first | done | with_reducible rfl); (case hid => simp -dsimp [hw, b1, b2, b3, b4, h1, h2, h3, h4, hy, rowS]; first | done | with_reducible rfl | exact ⟨rfl, rfl, rfl⟩ | exact ⟨rfl, rfl⟩); (case' h1 => intro _ _ _); (case' h0 => intro _))
                                                            | ((with_reducible apply nd_entry); (case hx => simp -dsimp [hw, b1, b2, b3, b4, h1, h2, h3, h4, hy, rowS]; first | done | with_reducible rfl); (case hid => simp -dsimp [hw, b1, b2, b3, b4, h1, h2, h3, h4, hy, rowS]; first | done | with_reducible rfl | exact ⟨rfl, rfl, rfl⟩ | exact ⟨rfl, rfl⟩))
                                                            | ((with_reducible apply nd_range); (case hx => simp -dsimp [hw, b1, b2, b3, b4, h1, h2, h3, h4, hy, rowS]; with_reducible rfl); (case hT => simp -dsimp [hw, b1, b2, b3, b4, h1, h2, h3, h4, hy, rowS]); (case hnd => assumption); (case hz => simp -dsimp [hw, b1, b2, b3, b4, h1, h2, h3, h4, hy, rowS]))
                                                            | (with_reducible refine dn_i follows_any (by kernel_rfl) ?_)
                                                            | (with_reducible exact done_eq rfl)
                                                            | (simp -dsimp [hw, b1, b2, b3, b4, h1, h2, h3, h4, hy, rowS]))); (all_goals try with_reducible refine done_eq ?_)
              rw [hc]
          · have hc := hend (by omega)
            (repeat' (first
                                                            | (with_reducible refine br_d (fun _ => ?_) (fun _ => ?_))
                                                            | (with_reducible refine br_i (fun _ => ?_) (fun _ => ?_))
                                                            | (with_reducible refine nd_v (hcc) (by first | rfl | (simp -dsimp [b1, b2, b3, b4, h1, h2, h3, h4, hmin, hmin']; done)) ?_)
                                                            | (with_reducible refine nw_v (hcc) rfl (by first | rfl | (simp -dsimp [b1, b2, b3, b4, h1, h2, h3, h4, hmin, hmin']; done)) (by first | rfl | (simp -dsimp [b1, b2, b3, b4, h1, h2, h3, h4, hmin, hmin']; done)) ?_)
                                                            | ((with_reducible apply nd_next); (case hx => simp -dsimp [b1, b2, b3, b4, h1, h2, h3, h4, hmin, hmin']; first | done | with_reducible rfl); (case hid => simp -dsimp [b1, b2, b3, b4, h1, h2, h3, h4, hmin, hmin']; first | done | with_reducible rfl | exact ⟨rfl, rfl, rfl⟩ | exact ⟨rfl, rfl⟩); (case' h1 => intro _ _ _); (case' h0 => intro _))
                                                            | ((with_reducible apply nd_entry); (case hx => simp -dsimp [b1, b2, b3, b4, h1, h2, h3, h4, hmin, hmin']; first | done | with_reducible rfl); (case hid => simp -dsimp [b1, b2, b3, b4, h1, h2, h3, h4, hmin, hmin']; first | done | with_reducible rfl | exact ⟨rfl, rfl, rfl⟩ | exact ⟨rfl, rfl⟩))
                                                            | ((with_reducible apply nd_range); (case hx => simp -dsimp [b1, b2, b3, b4, h1, h2, h3, h4, hmin, hmin']; with_reducible rfl); (case hT => simp -dsimp [b1, b2, b3, b4, h1, h2, h3, h4, hmin, hmin']); (case hnd => assumption); (case hz => simp -dsimp [b1, b2, b3, b4, h1, h2, h3, h4, hmin, hmin']))
                                                            | (with_reducible refine dn_i follows_any (by kernel_rfl) ?_)
                                                            | (with_reducible exact done_eq rfl)
                                                            | (simp -dsimp [b1, b2, b3, b4, h1, h2, h3, h4, hmin, hmin']))); (all_goals try with_reducible refine done_eq ?_)
            rw [hc]
        · have hc := hend (by omega)
          (repeat' (first
                                                            | (with_reducible refine br_d (fun _ => ?_) (fun _ => ?_))
                                                            | (with_reducible refine br_i (fun _ => ?_) (fun _ => ?_))
                                                            | (with_reducible refine nd_v (hcc) (by first | rfl | (simp -dsimp [b1, b2, b3, b4, h1, h2, h3, hmin, hmin']; done)) ?_)
                                                            | (with_reducible refine nw_v (hcc) rfl (by first | rfl | (simp -dsimp [b1, b2, b3, b4, h1, h2, h3, hmin, hmin']; done)) (by first | rfl | (simp -dsimp [b1, b2, b3, b4, h1, h2, h3, hmin, hmin']; done)) ?_)
                                                            | ((with_reducible apply nd_next); (case hx => simp -dsimp [b1, b2, b3, b4, h1, h2, h3, hmin, hmin']; first | done | with_reducible rfl); (case hid => simp -dsimp [b1, b2, b3, b4, h1, h2, h3, hmin, hmin']; first | done | with_reducible rfl | exact ⟨rfl, rfl, rfl⟩ | exact ⟨rfl, rfl⟩); (case' h1 => intro _ _ _); (case' h0 => intro _))
                                                            | ((with_reducible apply nd_entry); (case hx => simp -dsimp [b1, b2, b3, b4, h1, h2, h3, hmin, hmin']; first | done | with_reducible rfl); (case hid => simp -dsimp [b1, b2, b3, b4, h1, h2, h3, hmin, hmin']; first | done | with_reducible rfl | exact ⟨rfl, rfl, rfl⟩ | exact ⟨rfl, rfl⟩))
                                                            | ((with_reducible apply nd_range); (case hx => simp -dsimp [b1, b2, b3, b4, h1, h2, h3, hmin, hmin']; with_reducible rfl); (case hT => simp -dsimp [b1, b2, b3, b4, h1, h2, h3, hmin, hmin']); (case hnd => assumption); (case hz => simp -dsimp [b1, b2, b3, b4, h1, h2, h3, hmin, hmin']))
                                                            | (with_reducible refine dn_i follows_any (by kernel_rfl) ?_)
                                                            | (with_reducible exact done_eq rfl)
                                                            | (simp -dsimp [b1, b2, b3, b4, h1, h2, h3, hmin, hmin']))); (all_goals try with_reducible refine done_eq ?_)
          rw [hc]
      · have hc := hend (by omega)
        (repeat' (first
                                                            | (with_reducible refine br_d (fun _ => ?_) (fun _ => ?_))
                                                            | (with_reducible refine br_i (fun _ => ?_) (fun _ => ?_))
                                                            | (with_reducible refine nd_v (hcc) (by first | rfl | (simp -dsimp [b1, b2, b3, b4, h1, h2, hmin, hmin']; done)) ?_)
                                                            | (with_reducible refine nw_v (hcc) rfl (by first | rfl | (simp -dsimp [b1, b2, b3, b4, h1, h2, hmin, hmin']; done)) (by first | rfl | (simp -dsimp [b1, b2, b3, b4, h1, h2, hmin, hmin']; done)) ?_)
                                                            | ((with_reducible apply nd_next); (case hx => simp -dsimp [b1, b2, b3, b4, h1, h2, hmin, hmin']; first | done | with_reducible rfl); (case hid => simp -dsimp [b1, b2, b3, b4, h1, h2, hmin, hmin']; first | done | with_reducible rfl | exact ⟨rfl, rfl, rfl⟩ | exact ⟨rfl, rfl⟩); (case' h1 => intro _ _ _); (case' h0 => intro _))
                                                            | ((with_reducible apply nd_entry); (case hx => simp -dsimp [b1, b2, b3, b4, h1, h2, hmin, hmin']; first | done | with_reducible rfl); (case hid => simp -dsimp [b1, b2, b3, b4, h1, h2, hmin, hmin']; first | done | with_reducible rfl | exact ⟨rfl, rfl, rfl⟩ | exact ⟨rfl, rfl⟩))
                                                            | ((with_reducible apply nd_range); (case hx => simp -dsimp [b1, b2, b3, b4, h1, h2, hmin, hmin']; with_reducible rfl); (case hT => simp -dsimp [b1, b2, b3, b4, h1, h2, hmin, hmin']); (case hnd => assumption); (case hz => simp -dsimp [b1, b2, b3, b4, h1, h2, hmin, hmin']))
                                                            | (with_reducible refine dn_i follows_any (by kernel_rfl) ?_)
                                                            | (with_reducible exact done_eq rfl)
                                                            | (simp -dsimp [b1, b2, b3, b4, h1, h2, hmin, hmin']))); (all_goals try with_reducible refine done_eq ?_)
        rw [hc]
    · have hc := hend (by omega)
      (repeat' (first
                                                            | (with_reducible refine br_d (fun _ => ?_) (fun _ => ?_))
                                                            | (with_reducible refine br_i (fun _ => ?_) (fun _ => ?_))
                                                            | (with_reducible refine nd_v (hcc) (by first | rfl | (simp -dsimp [b1, b2, b3, b4, h1, hmin, hmin']; done)) ?_)
                                                            | (with_reducible refine nw_v (hcc) rfl (by first | rfl | (simp -dsimp [b1, b2, b3, b4, h1, hmin, hmin']; done)) (by first | rfl | (simp -dsimp [b1, b2, b3, b4, h1, hmin, hmin']; done)) ?_)
                                                            | ((with_reducible apply nd_next); (case hx => simp -dsimp [b1, b2, b3, b4, h1, hmin, hmin']; first | done | with_reducible rfl); (case hid => simp -dsimp [b1, b2, b3, b4, h1, hmin, hmin']; first | done | with_reducible rfl | exact ⟨rfl, rfl, rfl⟩ | exact ⟨rfl, rfl⟩); (case' h1 => intro _ _ _); (case' h0 => intro _))
                                                            | ((with_reducible apply nd_entry); (case hx => simp -dsimp [b1, b2, b3, b4, h1, hmin, hmin']; first | done | with_reducible rfl); (case hid => simp -dsimp [b1, b2, b3, b4, h1, hmin, hmin']; first | done | with_reducible rfl | exact ⟨rfl, rfl, rfl⟩ | exact ⟨rfl, rfl⟩))
                                                            | ((with_reducible apply nd_range); (case hx => simp -dsimp [b1, b2, b3, b4, h1, hmin, hmin']; with_reducible rfl); (case hT => simp -dsimp [b1, b2, b3, b4, h1, hmin, hmin']); (case hnd => assumption); (case hz => simp -dsimp [b1, b2, b3, b4, h1, hmin, hmin']))
                                                            | (with_reducible refine dn_i follows_any (by kernel_rfl) ?_)
                                                            | (with_reducible exact done_eq rfl)
                                                            | (simp -dsimp [b1, b2, b3, b4, h1, hmin, hmin']))); (all_goals try with_reducible refine done_eq ?_)
      rw [hc]
theorem cmpFd_GF {p q : ByteArray × GV} (hp : Fits (treeOf p.2)) (hq : Fits (treeOf q.2)) : cmpFd (p.1, treeOf p.2) (q.1, treeOf q.2) = cmpGF p q := by
  unfold cmpFd cmpGF
  rw [cmpV_spec _ _ hp hq]
end Go.Smd
end
