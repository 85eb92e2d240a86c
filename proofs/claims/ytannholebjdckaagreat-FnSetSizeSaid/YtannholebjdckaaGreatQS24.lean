/- Part 24 of the proof: Pt Cv Az No. -/
import Derived.Test.YtannholebjdckaaGreatQS21
import Derived.Test.YtannholebjdckaaGreatQS23
import Derived.Test.YtannholebjdckaaGreatQS15
set_option linter.unusedVariables false
section
set_option linter.unusedSimpArgs false
set_option maxRecDepth 100000
set_option maxHeartbeats 8000000
namespace Go.Smd
open Go.RowKit Go.Proofs
abbrev dPath (p : List EV) : D := .sl 33 (p.map evD)
abbrev dLPath (p : List LE) : D := .sl 98 (p.map leD)
theorem path_ok {p : List EV} (h : okD Tryz.prog (dPath p)) : p.length * 168 ≤ 140737488351232 ∧ ∀ e ∈ p, e.keys.length * 16 ≤ 140737488351232 ∧ (∀ k ∈ e.keys, k.size ≤ 140737488351232) ∧ e.l.length * 88 ≤ 140737488351232 ∧ FitsE e := by
  obtain ⟨h1, h2⟩ := okD_sl h
  simp at h1
  exact ⟨by omega, fun e he => ev_ok (okD_row h (List.mem_map.2 ⟨e, he, rfl⟩))⟩
structure EVs (e : EV) : Prop where
  hk : e.keys.length * 16 ≤ 140737488351232
  hl : e.l.length * 88 ≤ 140737488351232
theorem toElem_a (e : EV) (hk : e.keys.length * 16 ≤ 140737488351232) (hl : e.l.length * 88 ≤ 140737488351232) : ACalls Tryz.prog 65 [evA e] (fun r => r = leA (toLE e)) := by
  obtain ⟨k, s, keys, l, ⟨a, b, c, d, p, f⟩, n⟩ := e
  rw [evA_x]
  exact toElem_x _ _ _ _ _ _ _ _ _ _ _ hk hl
theorem toPath_a (p : List EV) (hl : p.length * 168 ≤ 140737488351232) (hp : ∀ e ∈ p, EVs e) : ACalls Tryz.prog 105 [.c (.d (dPath p))] (fun r => r = .c (.d (dLPath (p.map toLE)))) := by
  refine acalls_ex [] Tryz.func105 (by kernel_rfl) rfl Tryz.ntmps105 Tryz.results105 (Nat.le_of_ble_eq_true (by kernel_rfl)) ?_; intro hok w0 S0
  clear hok
  have b1 : p.length ≤ 9223372036854775807 := by omega
  (repeat' (first | (with_reducible refine br_d (fun _ => ?_) (fun _ => ?_)) | (with_reducible refine br_i (fun _ => ?_) (fun _ => ?_)) | (with_reducible refine dn_i follows_any (by kernel_rfl) ?_) | (with_reducible exact done_eq rfl) | (simp -dsimp [b1]))); (all_goals try with_reducible refine done_eq ?_)
  refine ex_loop (fun i : Nat => ⟨[(3, .c (.gs 6 i)), (7, .c (.d (dPath p))), (8, aI p.length), (9, aI i)], [(6, .arr i 98 ((p.map (leD ∘ toLE)).take i))]⟩) (fun i => i ≤ p.length) (fun i => p.length - i) 0 ?_ (Nat.zero_le _) ?_
  · exact Weak.same (by simp -dsimp) (by simp -dsimp) (by first | rfl | (simp [closedSt, Av.ids, Ow.ids, Cl.ids, Go.Smd.keys]; done))
  · rintro i hi K hK
    by_cases hlt : i < p.length
    · have hw : IntKind.wrap .i64 ((i : Int) + 1) = ((i + 1 : Nat) : Int) := by rw [wrap_i64] <;> omega
      have hb : (min i p.length + 1) * 32 ≤ 140737488351232 := by omega
      have h1 : (p.map (leD ∘ toLE)).take (i + 1) = (p.map (leD ∘ toLE)).take i ++ [leD (toLE p[i])] := by
        rw [List.take_succ_eq_append_getElem (by simpa using hlt)]; simp
      have he := hp _ (List.getElem_mem hlt)
      have hc := toElem_a p[i] he.hk he.hl
      (repeat' (first | (with_reducible refine br_d (fun _ => ?_) (fun _ => ?_)) | (with_reducible refine br_i (fun _ => ?_) (fun _ => ?_)) | (with_reducible refine nd_v (hc) (by first | rfl | (simp -dsimp [b1, hlt, hw, hb, toDs]; done)) ?_) | (with_reducible refine nw_v (hc) rfl (by first | rfl | (simp -dsimp [b1, hlt, hw, hb, toDs]; done)) (by first | rfl | (simp -dsimp [b1, hlt, hw, hb, toDs]; done)) ?_) | (with_reducible refine dn_i follows_any (by kernel_rfl) ?_) | (with_reducible exact done_eq rfl) | (simp -dsimp [b1, hlt, hw, hb, toDs]))); (all_goals try with_reducible refine done_eq ?_)
      refine hK _ (i + 1) ?_ (by omega) (by omega)
      rw [h1]
      exact Weak.same (by simp -dsimp) (by simp -dsimp) (by first | rfl | (simp [closedSt, Av.ids, Ow.ids, Cl.ids, Go.Smd.keys]; done))
    · (repeat' (first | (with_reducible refine br_d (fun _ => ?_) (fun _ => ?_)) | (with_reducible refine br_i (fun _ => ?_) (fun _ => ?_)) | (with_reducible refine dn_i follows_any (by kernel_rfl) ?_) | (with_reducible exact done_eq rfl) | (simp -dsimp [hlt]))); (all_goals try with_reducible refine done_eq ?_)
      rw [List.take_of_length_le (by simp; omega)]
      show _ = Av.c (.d (.sl _ ((p.map toLE).map leD)))
      rw [List.map_map]
abbrev dPaths (L : List (List EV)) : D := .sl 26 (L.map fun p => [dPath p])
end Go.Smd
end
section
set_option linter.unusedSimpArgs false
set_option maxRecDepth 100000
set_option maxHeartbeats 8000000
namespace Go.Smd
open Go.RowKit Go.Proofs
def cmpRow {α : Type} (c : α → α → Int) : List α → List α → Int
  | x :: l, y :: m => if c x y ≠ 0 then c x y else cmpRow c l m
  | [], [] => 0
  | [], _ :: _ => -1
  | _ :: _, [] => 1
theorem cmpRow_end {α : Type} {c : α → α → Int} {l m : List α} (h : l = [] ∨ m = []) : cmpRow c l m = cmpI (l.length : Int) m.length := by
  cases l with
  | nil => cases m with
    | nil => simp [cmpRow, cmpI]
    | cons y m => simp only [cmpRow, cmpI]; rw [if_neg (by first | (simp; done) | (simp; omega)), if_pos (by first | (simp; done) | (simp; omega))]
  | cons x l => cases m with
    | nil => simp only [cmpRow, cmpI]; rw [if_pos (by first | (simp; done) | (simp; omega))]
    | cons y m => simp at h
theorem cmpRow_at {α : Type} {c : α → α → Int} {l m : List α} {i : Nat} (h1 : i < l.length) (h2 : i < m.length) : cmpRow c (l.drop i) (m.drop i) = if c l[i] m[i] ≠ 0 then c l[i] m[i] else cmpRow c (l.drop (i + 1)) (m.drop (i + 1)) := by
  rw [List.drop_eq_getElem_cons h1, List.drop_eq_getElem_cons h2]; simp only [cmpRow]
theorem cmpRow_stop {α : Type} {c : α → α → Int} {l m : List α} {i : Nat} (hi : i ≤ l.length) (hj : i ≤ m.length) (h : ¬ (i < l.length ∧ i < m.length)) : cmpRow c (l.drop i) (m.drop i) = cmpI (l.length : Int) m.length := by
  rw [cmpRow_end (by
    by_cases h1 : i < l.length
    · exact .inr (List.drop_eq_nil_of_le (by omega))
    · exact .inl (List.drop_eq_nil_of_le (by omega))), List.length_drop, List.length_drop, ← cmpI_sub i hi hj]
theorem cmpRow_map {α β : Type} {c : α → α → Int} {d : β → β → Int} {f : α → β} : ∀ {l m : List α}, (∀ x ∈ l, ∀ y ∈ m, d (f x) (f y) = c x y) → cmpRow d (l.map f) (m.map f) = cmpRow c l m
  | [], [], _ => rfl
  | [], _ :: _, _ => rfl
  | _ :: _, [], _ => rfl
  | x :: l, y :: m, h => by
    simp only [List.map_cons, cmpRow]
    rw [cmpRow_map (l := l) (m := m) fun a ha b hb => h a (List.mem_cons_of_mem _ ha) b (List.mem_cons_of_mem _ hb), h x (List.mem_cons_self ..) y (List.mem_cons_self ..)]
noncomputable def cmpFd (p q : ByteArray × Tree) : Int := if cmpS p.1 q.1 ≠ 0 then cmpS p.1 q.1 else cmpV p.2 q.2
theorem strCompare_s (a b : ByteArray) : ACalls Tryz.prog 177 [aS a, aS b] (fun r => r = aI (cmpS a b)) := strCompare_a a b
theorem fieldsCompare_a (l m : Fds) (hl : ∀ p ∈ l, Fits p.2) (hm : ∀ p ∈ m, Fits p.2) :
    ACalls Tryz.prog 178 [.c (.d (dFds l)), .c (.d (dFds m))] (fun r => r = aI (cmpRow cmpFd l m)) := by
  refine acalls_ex [(8, ([10], [(0, []), (1, []), (2, []), (3, []), (4, []), (5, []), (6, []), (7, []), (8, []), (9, []), (10, []), (11, [])])), (11, ([10], [(0, []), (1, []), (2, []), (3, []), (4, []), (5, []), (6, []), (7, []), (8, []), (9, []), (10, []), (11, [])]))] Tryz.func178 (by kernel_rfl) rfl Tryz.ntmps178 Tryz.results178 (Nat.le_of_ble_eq_true (by kernel_rfl)) ?_; intro hok w0 S0
  have a1 : l.length * 32 ≤ 140737488351232 := by have := (okD_sl (hok (.c (.d (dFds l))) (by simp))).1; simpa using this
  have a2 : m.length * 32 ≤ 140737488351232 := by have := (okD_sl (hok (.c (.d (dFds m))) (by simp))).1; simpa using this
  clear hok
  have b1 : l.length ≤ 9223372036854775807 := by omega
  have b2 : m.length ≤ 9223372036854775807 := by omega
  (repeat' (first | (with_reducible refine br_d (fun _ => ?_) (fun _ => ?_)) | (with_reducible refine br_i (fun _ => ?_) (fun _ => ?_)) | (with_reducible refine dn_i follows_any (by kernel_rfl) ?_) | (with_reducible exact done_eq rfl) | (simp -dsimp))); (all_goals try with_reducible refine done_eq ?_)
  refine ex_loop (fun i : Nat => ⟨[(0, .c (.d (dFds l))), (1, .c (.d (dFds m))), (5, aI i)], []⟩) (fun i => i ≤ l.length ∧ i ≤ m.length ∧ cmpRow cmpFd l m = cmpRow cmpFd (l.drop i) (m.drop i)) (fun i => l.length - i) 0 ?_ ⟨Nat.zero_le _, Nat.zero_le _, rfl⟩ ?_
  · exact Weak.same (by simp -dsimp) (by simp -dsimp) (by first | rfl | (simp [closedSt, Av.ids, Ow.ids, Cl.ids, Go.Smd.keys]; done))
  · rintro i ⟨hi, hj, heq⟩ K hK
    have hw : IntKind.wrap .i64 ((i : Int) + 1) = ((i + 1 : Nat) : Int) := by rw [wrap_i64] <;> omega
    by_cases h1 : i < l.length
    · have h3 : ¬ (l.length : Int) ≤ i := by omega
      by_cases h2 : i < m.length
      · have h4 : ¬ (m.length : Int) ≤ i := by omega
        have hc := heq.trans (cmpRow_at h1 h2)
        have hs := strCompare_s l[i].1 m[i].1
        have hv := vCompare_a l[i].2 m[i].2 (hl _ (List.getElem_mem h1)) (hm _ (List.getElem_mem h2))
        by_cases hy : cmpS l[i].1 m[i].1 = 0
        · have hf : cmpFd l[i] m[i] = cmpV l[i].2 m[i].2 := by unfold cmpFd; rw [if_neg (by simpa using hy)]
          rw [hf] at hc
          rw [hy] at hs
          by_cases hz : cmpV l[i].2 m[i].2 = 0
          · rw [if_neg (by simpa using hz)] at hc
            rw [hz] at hv
            (repeat' (first | (with_reducible refine br_d (fun _ => ?_) (fun _ => ?_)) | (with_reducible refine br_i (fun _ => ?_) (fun _ => ?_)) | (with_reducible refine nd_v (hs) (by first | rfl | (simp -dsimp [hw, b1, b2, h1, h2, h3, h4, fdRow]; done)) ?_) | (with_reducible refine nw_v (hs) rfl (by first | rfl | (simp -dsimp [hw, b1, b2, h1, h2, h3, h4, fdRow]; done)) (by first | rfl | (simp -dsimp [hw, b1, b2, h1, h2, h3, h4, fdRow]; done)) ?_) | (with_reducible refine nd_v (hv) (by first | rfl | (simp -dsimp [hw, b1, b2, h1, h2, h3, h4, fdRow]; done)) ?_) | (with_reducible refine nw_v (hv) rfl (by first | rfl | (simp -dsimp [hw, b1, b2, h1, h2, h3, h4, fdRow]; done)) (by first | rfl | (simp -dsimp [hw, b1, b2, h1, h2, h3, h4, fdRow]; done)) ?_) | (with_reducible refine dn_i follows_any (by kernel_rfl) ?_) | (with_reducible exact done_eq rfl) | (simp -dsimp [hw, b1, b2, h1, h2, h3, h4, fdRow]))); (all_goals try with_reducible refine done_eq ?_)
            refine hK _ (i + 1) ?_ ⟨by omega, by omega, hc⟩ (by omega)
            exact Weak.same (by simp -dsimp) (by simp -dsimp) (by first | rfl | (simp [closedSt, Av.ids, Ow.ids, Cl.ids, Go.Smd.keys]; done))
          · rw [if_pos hz] at hc
            (repeat' (first | (with_reducible refine br_d (fun _ => ?_) (fun _ => ?_)) | (with_reducible refine br_i (fun _ => ?_) (fun _ => ?_)) | (with_reducible refine nd_v (hs) (by first | rfl | (simp -dsimp [hw, b1, b2, h1, h2, h3, h4, hz, fdRow]; done)) ?_) | (with_reducible refine nw_v (hs) rfl (by first | rfl | (simp -dsimp [hw, b1, b2, h1, h2, h3, h4, hz, fdRow]; done)) (by first | rfl | (simp -dsimp [hw, b1, b2, h1, h2, h3, h4, hz, fdRow]; done)) ?_) | (with_reducible refine nd_v (hv) (by first | rfl | (simp -dsimp [hw, b1, b2, h1, h2, h3, h4, hz, fdRow]; done)) ?_) | (with_reducible refine nw_v (hv) rfl (by first | rfl | (simp -dsimp [hw, b1, b2, h1, h2, h3, h4, hz, fdRow]; done)) (by first | rfl | (simp -dsimp [hw, b1, b2, h1, h2, h3, h4, hz, fdRow]; done)) ?_) | (with_reducible refine dn_i follows_any (by kernel_rfl) ?_) | (with_reducible exact done_eq rfl) | (simp -dsimp [hw, b1, b2, h1, h2, h3, h4, hz, fdRow]))); (all_goals try with_reducible refine done_eq ?_)
            rw [hc]
        · have hf : cmpFd l[i] m[i] = cmpS l[i].1 m[i].1 := by unfold cmpFd; rw [if_pos hy]
          rw [hf, if_pos hy] at hc
          (repeat' (first | (with_reducible refine br_d (fun _ => ?_) (fun _ => ?_)) | (with_reducible refine br_i (fun _ => ?_) (fun _ => ?_)) | (with_reducible refine nd_v (hs) (by first | rfl | (simp -dsimp [hw, b1, b2, h1, h2, h3, h4, hy, fdRow]; done)) ?_) | (with_reducible refine nw_v (hs) rfl (by first | rfl | (simp -dsimp [hw, b1, b2, h1, h2, h3, h4, hy, fdRow]; done)) (by first | rfl | (simp -dsimp [hw, b1, b2, h1, h2, h3, h4, hy, fdRow]; done)) ?_) | (with_reducible refine dn_i follows_any (by kernel_rfl) ?_) | (with_reducible exact done_eq rfl) | (simp -dsimp [hw, b1, b2, h1, h2, h3, h4, hy, fdRow]))); (all_goals try with_reducible refine done_eq ?_)
          rw [hc]
      · have h4 : (m.length : Int) ≤ i := by omega
        have hc := heq.trans (cmpRow_stop hi hj fun h => h2 h.2)
        (repeat' (first | (with_reducible refine br_d (fun _ => ?_) (fun _ => ?_)) | (with_reducible refine br_i (fun _ => ?_) (fun _ => ?_)) | (with_reducible refine dn_i follows_any (by kernel_rfl) ?_) | (with_reducible exact done_eq rfl) | (simp -dsimp [hw, b1, b2, h1, h2, h3, h4]))); (all_goals try with_reducible refine done_eq ?_)
        rw [hc]; unfold cmpI; rw [if_pos (by omega)]
    · have h3 : (l.length : Int) ≤ i := by omega
      have hc := heq.trans (cmpRow_stop hi hj fun h => h1 h.1)
      by_cases h2 : i < m.length
      · have h4 : ¬ (m.length : Int) ≤ i := by omega
        (repeat' (first | (with_reducible refine br_d (fun _ => ?_) (fun _ => ?_)) | (with_reducible refine br_i (fun _ => ?_) (fun _ => ?_)) | (with_reducible refine dn_i follows_any (by kernel_rfl) ?_) | (with_reducible exact done_eq rfl) | (simp -dsimp [hw, b1, b2, h1, h2, h3, h4]))); (all_goals try with_reducible refine done_eq ?_)
        rw [hc]; unfold cmpI; rw [if_neg (by omega), if_pos (by omega)]
      · have h4 : (m.length : Int) ≤ i := by omega
        (repeat' (first | (with_reducible refine br_d (fun _ => ?_) (fun _ => ?_)) | (with_reducible refine br_i (fun _ => ?_) (fun _ => ?_)) | (with_reducible refine dn_i follows_any (by kernel_rfl) ?_) | (with_reducible exact done_eq rfl) | (simp -dsimp [hw, b1, b2, h1, h2, h3, h4]))); (all_goals try with_reducible refine done_eq ?_)
        rw [hc]; unfold cmpI; rw [if_neg (by omega), if_neg (by omega)]
noncomputable def cmpLE : LE → LE → Int
  | .name s, .name s' => cmpS s s'
  | .name _, _ => -1
  | _, .name _ => 1
  | .key l, .key m => cmpRow cmpFd l m
  | .key _, _ => -1
  | _, .key _ => 1
  | .val t, .val u => cmpV t u
  | .val _, _ => -1
  | _, .val _ => 1
  | .idx n, .idx m => cmpI n m
theorem elemCompare_a (p q : LE) (hp : fitsLE p) (hq : fitsLE q) : ACalls Tryz.prog 147 [leA p, leA q] (fun r => r = aI (cmpLE p q)) := by
  cases p <;> cases q
  all_goals
    simp only [fitsLE] at hp hq
    refine acalls_ex [(4, ([8], [(0, []), (1, []), (2, []), (3, []), (4, []), (5, []), (6, []), (7, []), (8, []), (9, [])])), (10, ([8], [(0, []), (1, []), (2, []), (3, []), (4, []), (5, []), (6, []), (7, []), (8, []), (9, [])])), (16, ([8], [(0, []), (1, []), (2, []), (3, []), (4, []), (5, []), (6, []), (7, []), (8, []), (9, [])])), (22, ([], [(0, []), (1, []), (2, []), (3, []), (4, []), (5, []), (6, []), (7, []), (8, [])])), (24, ([], [(0, []), (1, []), (2, []), (3, []), (4, []), (5, []), (6, []), (7, []), (8, [])]))] Tryz.func147 (by kernel_rfl) rfl Tryz.ntmps147 Tryz.results147 (Nat.le_of_ble_eq_true (by kernel_rfl)) ?_; intro hok w0 S0
    clear hok
    (repeat' (first | (with_reducible refine br_d (fun _ => ?_) (fun _ => ?_)) | (with_reducible refine br_i (fun _ => ?_) (fun _ => ?_)) | (with_reducible refine nd_v (fieldsCompare_a _ _ hp hq) (by first | rfl | (simp -dsimp; done)) ?_) | (with_reducible refine nw_v (fieldsCompare_a _ _ hp hq) rfl (by first | rfl | (simp -dsimp; done)) (by first | rfl | (simp -dsimp; done)) ?_) | (with_reducible refine nd_v (vCompare_a _ _ hp hq) (by first | rfl | (simp -dsimp; done)) ?_) | (with_reducible refine nw_v (vCompare_a _ _ hp hq) rfl (by first | rfl | (simp -dsimp; done)) (by first | rfl | (simp -dsimp; done)) ?_) | (with_reducible refine nd_v (strCompare_s _ _) (by first | rfl | (simp -dsimp; done)) ?_) | (with_reducible refine nw_v (strCompare_s _ _) rfl (by first | rfl | (simp -dsimp; done)) (by first | rfl | (simp -dsimp; done)) ?_) | (with_reducible refine dn_i follows_any (by kernel_rfl) ?_) | (with_reducible exact done_eq rfl) | (simp -dsimp))); (all_goals try with_reducible refine done_eq ?_)
  all_goals (try (simp only [cmpLE]; done))
  all_goals (simp only [cmpLE, cmpI]; repeat' split) <;> (try rfl) <;> omega
end Go.Smd
end
section
set_option linter.unusedSimpArgs false
namespace Go.Smd
open Go.RowKit
section
variable {P : Program} {N : Nat} {w0 : World} {S0 : Env} {ops : Array Oper}
theorem eff_v {full base : List (Nat × Av)} {own : List (Nat × Ow)} {o : Oper} {d : Tmp} (hd : o.dst = some d) (hdk : dstOk N o = true) (hv : vval P ⟨full ++ base, own⟩ o = some (valT full base d)) : Eff P N full base o own own := fun σ e0 e1 e2 K hK => by
  refine ⟨hdk, ?_⟩
  have : vval P σ o = some (valT full base d) := by rw [← hv]; exact vval_congr e1 e0
  rw [this]
  refine hK _ (by rw [put_h]; exact e0) fun t => ?_
  rw [put_tmp, hd]
  by_cases e : some d = some t
  · rw [if_pos e, if_pos e]; cases e; rfl
  · rw [if_neg e, if_neg e]
end
end Go.Smd
end
section
set_option linter.unusedSimpArgs false
namespace Go.Smd
open Go.RowKit
section
variable {P : Program} {N : Nat} {w0 : World} {S0 : Env} {ops : Array Oper}
def insO (k : Nat) (x : Ow) : List (Nat × Ow) → List (Nat × Ow)
  | [] => [(k, x)]
  | (j, y) :: l => if k < j then (k, x) :: (j, y) :: l else if k = j then (k, x) :: l else (j, y) :: insO k x l
def canonO : List (Nat × Ow) → List (Nat × Ow)
  | [] => []
  | (k, x) :: l => insO k x (canonO l)
theorem insO_look (k : Nat) (x : Ow) : ∀ (l : List (Nat × Ow)) (i : Nat), look (insO k x l) i = if k = i then some x else look l i
  | [], i => by simp [insO, look]
  | (j, y) :: l, i => by
    unfold insO
    by_cases h1 : k < j
    · rw [if_pos h1]; simp only [look]
    · rw [if_neg h1]
      by_cases h2 : k = j
      · subst h2
        rw [if_pos rfl]
        simp only [look]
        by_cases e : k = i
        · simp [e]
        · simp [e]
      · rw [if_neg h2]
        simp only [look, insO_look k x l i]
        by_cases e : j = i
        · subst e; simp [h2]
        · simp [e]
theorem canonO_look : ∀ (l : List (Nat × Ow)), look (canonO l) = look l
  | [] => rfl
  | (k, x) :: l => by
    funext i
    rw [canonO, insO_look, canonO_look l]
    simp only [look]
structure NodS where
  full : List (Nat × Av)
  base : List (Nat × Av)
  own : List (Nat × Ow)
def EffN (P : Program) (N : Nat) (n n' : NodS) (o : Oper) : Prop :=
  ∀ σ : St, σ.h = look n.own → (∀ x ∈ o.op.operands, σ.ev x = (St.mk (n.full ++ n.base) n.own).ev x) → (∀ t, σ.tmp t = valT n.full n.base t ∨ σ.tmp t = (look n.base t).getD .any) →
    ∀ K : St → Prop, (∀ σ' : St, σ'.h = look n'.own → (∀ t, o.dst = some t → σ'.tmp t = valT n'.full n'.base t) →
      (∀ t, o.dst ≠ some t → (σ.tmp t = valT n.full n.base t → σ'.tmp t = valT n'.full n'.base t) ∧ (σ.tmp t = (look n.base t).getD .any → σ'.tmp t = (look n'.base t).getD .any)) → K σ') → execX P N σ o K
theorem effN_of {full base : List (Nat × Av)} {own own1 own' : List (Nat × Ow)} {o : Oper} (h : Eff P N full base o own own1) (hc : canonO own1 = own') : EffN P N ⟨full, base, own⟩ ⟨full, base, own'⟩ o := fun σ e0 e1 e2 K hK =>
  h σ e0 e1 e2 K fun σ' h1 h2 => hK σ' (by rw [h1, ← hc, canonO_look]) (fun t ht => by rw [h2, if_pos ht]) fun t hn => ⟨fun k => by rw [h2, if_neg hn]; exact k, fun k => by rw [h2, if_neg hn]; exact k⟩
theorem effN_self {n : NodS} {o : Oper} (h : Eff P N n.full n.base o n.own n.own) : EffN P N n n o := fun σ e0 e1 e2 K hK =>
  h σ e0 e1 e2 K fun σ' h1 h2 => hK σ' h1 (fun t ht => by rw [h2, if_pos ht]) fun t hn => ⟨fun k => by rw [h2, if_neg hn]; exact k, fun k => by rw [h2, if_neg hn]; exact k⟩
def nthR : List (List Nat) → Nat → Option (List Nat)
  | [], _ => none
  | x :: _, 0 => some x
  | _ :: l, i + 1 => nthR l i
def rWaits (r : List (List Nat)) (i j : Nat) : Bool := match nthR r i with | some l => l.contains j | none => false
def rOk (ops : Array Oper) (r : List (List Nat)) : Bool :=
  decide (r.length ≤ ops.size) && (List.range ops.size).all fun i => match ops[i]? with
    | some o => (match nthR r i with
      | some l => l.all fun j => o.after.any fun e => Region.binds .any e && decide (e.on < i) && (e.on == j || rWaits r e.on j)
      | none => true)
    | none => false
theorem nthR_lt : ∀ {l : List (List Nat)} {i : Nat} {x : List Nat}, nthR l i = some x → i < l.length
  | [], i, _, h => by cases h
  | y :: l, 0, _, _ => by simp
  | y :: l, i + 1, _, h => by
    have := nthR_lt (l := l) (i := i) h
    simp only [List.length_cons]; omega
theorem rWaits_listed {r : List (List Nat)} (hrk : rOk ops r = true) {listed : Array Bool} (hc : Closed ops listed) : ∀ (i j : Nat), rWaits r i j = true → (∀ o, ops[i]? = some o → ∀ e ∈ o.after, Region.binds .any e = true → listed.getD e.on false = true) → listed.getD j false = true := by
  intro i
  induction i using Nat.strongRecOn with
  | _ i ih =>
    intro j hj ha
    unfold rOk at hrk
    rw [Bool.and_eq_true, decide_eq_true_eq] at hrk
    unfold rWaits at hj
    cases hn : nthR r i with
    | none => rw [hn] at hj; cases hj
    | some l =>
      rw [hn] at hj
      have hlt := nthR_lt hn
      have := List.all_eq_true.1 hrk.2 i (List.mem_range.2 (by omega))
      cases ho : ops[i]? with
      | none => rw [ho] at this; cases this
      | some o =>
        rw [ho] at this
        simp only [hn] at this
        have h2 := List.all_eq_true.1 this j (by simpa using hj)
        obtain ⟨e, he, h3⟩ := Array.any_eq_true'.1 h2
        simp only [Bool.and_eq_true, Bool.or_eq_true, decide_eq_true_eq, beq_iff_eq] at h3
        obtain ⟨⟨hb, hlt2⟩, h4⟩ := h3
        have hl := ha o ho e he hb
        rcases h4 with h4 | h4
        · rw [← h4]; exact hl
        · exact ih e.on hlt2 j h4 fun o' ho' => hc e.on o' ho' hl
def beqL : List Nat → List Nat → Bool
  | [], [] => true
  | a :: l, b :: m => match Nat.beq a b with | true => beqL l m | false => false
  | _, _ => false
theorem beqL_eq : ∀ {l m : List Nat}, beqL l m = true → l = m
  | [], [], _ => rfl
  | [], _ :: _, h => by cases h
  | _ :: _, [], h => by cases h
  | a :: l, b :: m, h => by
    unfold beqL at h
    cases e : Nat.beq a b with
    | false => rw [e] at h; cases h
    | true =>
      rw [e] at h
      rw [Nat.eq_of_beq_eq_true e, beqL_eq h]
def lookN : List (List Nat × NodS) → List Nat → Option NodS
  | [], _ => none
  | (k, n) :: l, ps => match beqL k ps with | true => some n | false => lookN l ps
def stepKey (cs ps : List Nat) (c : Nat) : List Nat := cs.filter fun x => x == c || ps.contains x
def valsN (P : Program) (N : Nat) (ops : Array Oper) (r : List (List Nat)) (cs ps : List Nat) (n : NodS) : List Nat → Prop
  | [] => True
  | i :: is => ((cs.contains i || cs.any fun d => if ps.contains d then rWaits r d i else rWaits r i d) = true ∨ ∃ o, nth ops.toList i = some o ∧ EffN P N n n o) ∧ valsN P N ops r cs ps n is
def stepsN (P : Program) (N : Nat) (ops : Array Oper) (r : List (List Nat)) (cs : List Nat) (G : List (List Nat × NodS)) (ps : List Nat) (n : NodS) : List Nat → Prop
  | [] => True
  | c :: l => ((ps.contains c || cs.any fun d => !ps.contains d && rWaits r c d) = true ∨ ∃ o n', nth ops.toList c = some o ∧ lookN G (stepKey cs ps c) = some n' ∧ EffN P N n n' o) ∧ stepsN P N ops r cs G ps n l
def graphN (P : Program) (N : Nat) (ops : Array Oper) (r : List (List Nat)) (cs is : List Nat) (G : List (List Nat × NodS)) : List (List Nat × NodS) → Prop
  | [] => True
  | (ps, n) :: l => (valsN P N ops r cs ps n is ∧ stepsN P N ops r cs G ps n cs) ∧ graphN P N ops r cs is G l
theorem valsN_at {r : List (List Nat)} {cs ps : List Nat} {n : NodS} : ∀ {is : List Nat}, valsN P N ops r cs ps n is → ∀ i ∈ is, (cs.contains i || cs.any fun d => if ps.contains d then rWaits r d i else rWaits r i d) = false → ∀ o, ops[i]? = some o → EffN P N n n o
  | [], _, i, hi, _, _, _ => by cases hi
  | j :: is, ⟨h, t⟩, i, hi, hs, o, ho => by
    rcases List.mem_cons.1 hi with rfl | hi
    · rcases h with h | ⟨o', h1, h3⟩
      · rw [hs] at h; cases h
      · have := op_of_nth h1
        rw [ho] at this; cases this; exact h3
    · exact valsN_at t i hi hs o ho
theorem stepsN_at {r : List (List Nat)} {cs ps : List Nat} {G : List (List Nat × NodS)} {n : NodS} : ∀ {l : List Nat}, stepsN P N ops r cs G ps n l → ∀ c ∈ l, (ps.contains c || cs.any fun d => !ps.contains d && rWaits r c d) = false → ∀ o, ops[c]? = some o → ∃ n', lookN G (stepKey cs ps c) = some n' ∧ EffN P N n n' o
  | [], _, i, hi, _, _, _ => by cases hi
  | j :: is, ⟨h, t⟩, i, hi, hs, o, ho => by
    rcases List.mem_cons.1 hi with rfl | hi
    · rcases h with h | ⟨o', n', h1, h2, h3⟩
      · rw [hs] at h; cases h
      · have := op_of_nth h1
        rw [ho] at this; cases this; exact ⟨n', h2, h3⟩
    · exact stepsN_at t i hi hs o ho
theorem graphN_at {r : List (List Nat)} {cs is : List Nat} {G0 : List (List Nat × NodS)} : ∀ {G : List (List Nat × NodS)}, graphN P N ops r cs is G0 G → ∀ ps n, lookN G ps = some n → valsN P N ops r cs ps n is ∧ stepsN P N ops r cs G0 ps n cs
  | [], _, _, _, h => by cases h
  | (k, m) :: G, ⟨h, t⟩, ps, n, hl => by
    unfold lookN at hl
    cases e : beqL k ps with
    | true => rw [e] at hl; cases hl; have := beqL_eq e; subst this; exact h
    | false => rw [e] at hl; exact graphN_at t ps n hl
structure AtN (ops : Array Oper) (n : NodS) (listed : Array Bool) (σ : St) : Prop where
  o : σ.h = look n.own
  t1 : ∀ (j : Nat) (oj : Oper) (t : Tmp), ops[j]? = some oj → oj.dst = some t → listed.getD j false = true → σ.tmp t = valT n.full n.base t
  t0 : ∀ t : Tmp, (∀ (j : Nat) (oj : Oper), ops[j]? = some oj → oj.dst = some t → listed.getD j false = false) → σ.tmp t = (look n.base t).getD .any
def keyOf (cs : List Nat) (listed : Array Bool) : List Nat := cs.filter fun c => listed.getD c false
structure DN (N : Nat) (ops : Array Oper) (cs : List Nat) (G : List (List Nat × NodS)) : Prop where
  gd : ∀ (i : Nat) (o : Oper), ops[i]? = some o → o.guard = none
  dep : ∀ (i : Nat) (o : Oper), ops[i]? = some o → ∀ t ∈ o.looksAt ops, ∀ (j : Nat) (oj : Oper), ops[j]? = some oj → oj.dst = some t → ∃ e ∈ o.after, Region.binds .any e = true ∧ e.on = j
  key : ∀ ps n, lookN G ps = some n → ∀ t, (look n.full t).isSome = true → ∃ (j : Nat) (oj : Oper), ops[j]? = some oj ∧ oj.dst = some t
  lt : ∀ c ∈ cs, c < ops.size
theorem AtN.sees {cs : List Nat} {G : List (List Nat × NodS)} {n : NodS} {listed : Array Bool} {σ : St} (A : AtN ops n listed σ) (D : DN N ops cs G) {ps : List Nat} (hn : lookN G ps = some n) {i : Nat} {o : Oper} (ho : ops[i]? = some o) (hr : ∀ e ∈ o.after, Region.binds .any e = true → listed.getD e.on false = true) :
    ∀ x ∈ o.op.operands, σ.ev x = (St.mk (n.full ++ n.base) n.own).ev x := by
  refine ops_looks (ops := ops) fun t ht => ?_
  rw [full_tmp]
  by_cases hj : ∃ (j : Nat) (oj : Oper), ops[j]? = some oj ∧ oj.dst = some t
  · obtain ⟨j, oj, h1, h2⟩ := hj
    obtain ⟨e, he, hb, rfl⟩ := D.dep i o ho t ht j oj h1 h2
    exact A.t1 _ oj t h1 h2 (hr e he hb)
  · rw [A.t0 t fun j oj h1 h2 => absurd ⟨j, oj, h1, h2⟩ hj]
    unfold valT
    cases hf : look n.full t with
    | none => rfl
    | some x => obtain ⟨j, oj, h1, h2⟩ := D.key ps n hn t (by rw [hf]; rfl); exact absurd ⟨j, oj, h1, h2⟩ hj
theorem anyX_n {r : List (List Nat)} (hrk : rOk ops r = true) {cs : List Nat} {G : List (List Nat × NodS)} {K : St → Prop} (D : DN N ops cs G) {is : List Nat} (ht : topo ops [] is = true) (hall : ∀ i, i < ops.size → i ∈ is) (hg : graphN P N ops r cs is G G) {nF : NodS} (hF : lookN G cs = some nF)
    (hK : ∀ σ : St, σ.h = look nF.own → (∀ t, σ.tmp t = valT nF.full nF.base t) → K σ) : ∀ (m : Nat) (n : NodS) (listed : Array Bool) (σ : St), lookN G (keyOf cs listed) = some n →
      listed.size = ops.size → unl ops.size listed ≤ m → Closed ops listed → AtN ops n listed σ → anyX P N ops K m listed σ := by
  have fin : ∀ (n : NodS) (listed : Array Bool) (σ : St), lookN G (keyOf cs listed) = some n → listed.size = ops.size → Region.ready .any ops listed = [] → AtN ops n listed σ → K σ := fun n listed σ hn hs hr A => by
    have hl : ∀ i, i < ops.size → listed.getD i false = true := fun i hi => by
      rw [getD_two (by rw [hs]; exact hi) false true]
      cases hq : listed.getD i true with
      | true => rfl
      | false =>
        obtain ⟨j, hj⟩ := topo_ready ht (fun _ h => by cases h) hs ⟨i, hall i hi, hq⟩
        rw [hr] at hj; cases hj
    have hk : keyOf cs listed = cs := List.filter_eq_self.2 fun c hc => hl c (D.lt c hc)
    rw [hk, hF] at hn
    cases hn
    refine hK σ A.o fun t => ?_
    by_cases hj : ∃ (j : Nat) (oj : Oper), ops[j]? = some oj ∧ oj.dst = some t
    · obtain ⟨j, oj, h1, h2⟩ := hj
      exact A.t1 j oj t h1 h2 (hl j (Array.getElem?_eq_some_iff.1 h1).1)
    · rw [A.t0 t fun j oj h1 h2 => absurd ⟨j, oj, h1, h2⟩ hj]
      unfold valT
      cases hf : look nF.full t with
      | none => rfl
      | some x => obtain ⟨j, oj, h1, h2⟩ := D.key _ nF hF t (by rw [hf]; rfl); exact absurd ⟨j, oj, h1, h2⟩ hj
  intro m
  induction m with
  | zero =>
    intro n listed σ hn hs hu hcl A
    have hr : Region.ready .any ops listed = [] := by
      cases hq : Region.ready .any ops listed with
      | nil => rfl
      | cons i l =>
        obtain ⟨h1, o, ho, _⟩ := mem_ready.1 (show i ∈ Region.ready .any ops listed by rw [hq]; exact List.mem_cons_self ..)
        have := unl_set hs (Array.getElem?_eq_some_iff.1 ho).1 h1
        omega
    exact ⟨hr, fin n listed σ hn hs hr A⟩
  | succ m ih =>
    intro n listed σ hn hs hu hcl A
    refine ⟨fun hr => fin n listed σ hn hs hr A, fun i hi => ?_⟩
    obtain ⟨hl, o, ho, hr⟩ := mem_ready.1 hi
    have hin := (Array.getElem?_eq_some_iff.1 ho).1
    have hli : listed.getD i false = false := by rw [getD_two (by rw [hs]; exact hin) false true]; exact hl
    have hgd := D.gd i o ho
    have hset : ∀ j, (listed.setIfInBounds i true).getD j false = if i = j then true else listed.getD j false := fun j => by
      by_cases e : i = j
      · subst e; simp [hs, hin]
      · rw [if_neg e]; exact getD_set_ne false e
    have hkc : ∀ c ∈ cs, (keyOf cs listed).contains c = listed.getD c false := fun c hc => by
      rw [Bool.eq_iff_iff, List.contains_iff_mem, keyOf, List.mem_filter]
      exact ⟨fun h => h.2, fun h => ⟨hc, h⟩⟩
    have w1 : ∀ d, rWaits r i d = true → listed.getD d false = true := fun d hw => rWaits_listed hrk hcl i d hw fun o' ho' => by rw [ho] at ho'; cases ho'; exact hr
    have w2 : ∀ d, listed.getD d false = true → rWaits r d i = false := fun d hd => by
      cases hq : rWaits r d i with
      | false => rfl
      | true =>
        have := rWaits_listed hrk hcl d i hq fun o' ho' => hcl d o' ho' hd
        rw [hli] at this; cases this
    have tt : ∀ (n' : NodS) (σ' : St), σ'.h = look n'.own → (∀ t, o.dst = some t → σ'.tmp t = valT n'.full n'.base t) → (∀ t, o.dst ≠ some t → (σ.tmp t = valT n.full n.base t → σ'.tmp t = valT n'.full n'.base t) ∧ (σ.tmp t = (look n.base t).getD .any → σ'.tmp t = (look n'.base t).getD .any)) → AtN ops n' (listed.setIfInBounds i true) σ' := fun n' σ' h1 h2 h3 => by
      refine ⟨h1, fun j oj t hj hd hlj => ?_, fun t hno => ?_⟩
      · by_cases e : o.dst = some t
        · exact h2 t e
        · rw [hset] at hlj
          by_cases ej : i = j
          · subst ej; rw [ho] at hj; cases hj; exact absurd hd e
          · rw [if_neg ej] at hlj; exact (h3 t e).1 (A.t1 j oj t hj hd hlj)
      · have hne : o.dst ≠ some t := fun e => by
          have := hno i o ho e
          rw [hset, if_pos rfl] at this; cases this
        refine (h3 t hne).2 (A.t0 t fun j oj hj hd => ?_)
        have := hno j oj hj hd
        rw [hset] at this
        by_cases ej : i = j
        · rw [if_pos ej] at this; cases this
        · rw [if_neg ej] at this; exact this
    have e2 : ∀ t, σ.tmp t = valT n.full n.base t ∨ σ.tmp t = (look n.base t).getD .any := fun t => by
      by_cases hj : ∃ (j : Nat) (oj : Oper), ops[j]? = some oj ∧ oj.dst = some t ∧ listed.getD j false = true
      · obtain ⟨j, oj, h1, h2, h3⟩ := hj
        exact .inl (A.t1 j oj t h1 h2 h3)
      · refine .inr (A.t0 t fun j oj h1 h2 => ?_)
        cases hq : listed.getD j false with
        | false => rfl
        | true => exact absurd ⟨j, oj, h1, h2, hq⟩ hj
    refine ⟨o, ho, ?_⟩
    unfold opX
    have hgo : guardA ops σ o = some true := by unfold guardA; rw [hgd]
    rw [hgo]
    refine ⟨fun _ => ?_, fun h => by cases h⟩
    obtain ⟨gv, gs⟩ := graphN_at hg _ n hn
    by_cases hic : i ∈ cs
    · obtain ⟨n', hn', heff⟩ := stepsN_at gs i hic (by
        rw [Bool.or_eq_false_iff]
        refine ⟨by rw [hkc i hic]; exact hli, ?_⟩
        cases hq : cs.any fun d => !(keyOf cs listed).contains d && rWaits r i d with
        | false => rfl
        | true =>
          obtain ⟨d, hd, h1⟩ := List.any_eq_true.1 hq
          rw [Bool.and_eq_true] at h1
          rw [hkc d hd, w1 d h1.2] at h1
          cases h1.1) o ho
      refine heff σ A.o (A.sees D hn ho hr) e2 _ fun σ' h1 h2 h3 => ih n' _ σ' ?_ (by simp [hs]) (by have := unl_set hs hin hl; omega) (hcl.set hi) (tt n' σ' h1 h2 h3)
      rw [← hn']
      congr 1
      refine List.filter_congr fun x hx => ?_
      rw [hset, hkc x hx]
      by_cases e : i = x
      · subst e; simp
      · have : (x == i) = false := by simpa using Ne.symm e
        rw [if_neg e, this, Bool.false_or]
    · refine valsN_at gv i (hall i hin) ?_ o ho σ A.o (A.sees D hn ho hr) e2 _ fun σ' h1 h2 h3 => ih n _ σ' ?_ (by simp [hs]) (by have := unl_set hs hin hl; omega) (hcl.set hi) (tt n σ' h1 h2 h3)
      · rw [Bool.or_eq_false_iff]
        refine ⟨by simpa using hic, ?_⟩
        cases hq : cs.any fun d => if (keyOf cs listed).contains d then rWaits r d i else rWaits r i d with
        | false => rfl
        | true =>
          obtain ⟨d, hd, h1⟩ := List.any_eq_true.1 hq
          rw [hkc d hd] at h1
          cases h2 : listed.getD d false with
          | true => rw [h2, if_pos rfl, w2 d h2] at h1; cases h1
          | false =>
            rw [h2, if_neg (by simp)] at h1
            rw [w1 d h1] at h2; cases h2
      · rw [← hn]
        congr 1
        refine List.filter_congr fun x hx => ?_
        rw [hset, if_neg (fun e : i = x => hic (by rw [e]; exact hx))]
def dnOk (N : Nat) (ops : Array Oper) (r : List (List Nat)) (cs is : List Nat) (ks : List (List Nat)) : Bool :=
  (List.range ops.size).all (fun i => match ops[i]? with
    | some o => o.guard.isNone &&
      (o.looksAt ops).all (fun t => (List.range ops.size).all fun j => (match ops[j]? with | some oj => !(oj.dst == some t) || o.after.any (fun e => Region.binds .any e && e.on == j) | none => true))
    | none => false) &&
  ks.all (fun k => k.all fun t => (List.range ops.size).any fun j => match ops[j]? with | some oj => oj.dst == some t | none => false) &&
  topo ops [] is && (List.range ops.size).all is.contains && cs.all (fun c => decide (c < ops.size)) && rOk ops r
theorem lookN_mem : ∀ {G : List (List Nat × NodS)} {ps : List Nat} {n : NodS}, lookN G ps = some n → ∃ k, (k, n) ∈ G
  | [], _, _, h => by cases h
  | (k, m) :: G, ps, n, h => by
    unfold lookN at h
    cases e : beqL k ps with
    | true => rw [e] at h; cases h; exact ⟨k, List.mem_cons_self ..⟩
    | false => rw [e] at h; obtain ⟨k', hk⟩ := lookN_mem h; exact ⟨k', List.mem_cons_of_mem _ hk⟩
theorem aw_drawn_n {id : Nat} {l : List Oper} {Q : Exit → St → Prop} {base : List (Nat × Av)} {own0 : List (Nat × Ow)} (hm : P.follows .mixedOrders = true) (r : List (List Nat)) (is cs : List Nat) (G : List (List Nat × NodS)) {n0 nF : NodS}
    (hok : dnOk N l.toArray r cs is (G.map fun p => p.2.full.map (·.1)) = true) (h0 : lookN G [] = some n0) (hF : lookN G cs = some nF) (hb : n0.base = base) (ho : look n0.own = look own0) (hst : graphN P N l.toArray r cs is G G)
    (h : Q .normal ⟨nF.full ++ nF.base, nF.own⟩) : AWp P N w0 S0 (.region id l.toArray true) Q ⟨base, own0⟩ := fun β a w s => by
  simp only [dnOk, Bool.and_eq_true] at hok
  obtain ⟨⟨⟨⟨⟨k1, k2⟩, k3⟩, k4⟩, k5⟩, k6⟩ := hok
  have kk : ∀ (i : Nat) (o : Oper), l.toArray[i]? = some o → o.guard = none ∧ ∀ t ∈ o.looksAt l.toArray, ∀ (j : Nat) (oj : Oper), l.toArray[j]? = some oj → oj.dst = some t → ∃ e ∈ o.after, Region.binds .any e = true ∧ e.on = j := fun i o ho => by
    have := List.all_eq_true.1 k1 i (List.mem_range.2 (Array.getElem?_eq_some_iff.1 ho).1)
    rw [ho] at this
    simp only [Bool.and_eq_true] at this
    obtain ⟨h1, h4⟩ := this
    refine ⟨Option.isNone_iff_eq_none.1 h1, fun t ht j oj hj hd => ?_⟩
    have h5 := List.all_eq_true.1 (List.all_eq_true.1 h4 t ht) j (List.mem_range.2 (Array.getElem?_eq_some_iff.1 hj).1)
    rw [hj] at h5
    simp only [hd, beq_self_eq_true, Bool.not_true, Bool.false_or] at h5
    obtain ⟨e, he, hb⟩ := Array.any_eq_true'.1 h5
    simp only [Bool.and_eq_true, beq_iff_eq] at hb
    exact ⟨e, he, hb.1, hb.2⟩
  have D : DN N l.toArray cs G := ⟨fun i o ho => (kk i o ho).1, fun i o ho => (kk i o ho).2, fun ps n hn t ht => by
    obtain ⟨k, hk⟩ := lookN_mem hn
    obtain ⟨x, hx⟩ := Option.isSome_iff_exists.1 ht
    have := List.all_eq_true.1 (List.all_eq_true.1 k2 _ (List.mem_map.2 ⟨_, hk, rfl⟩)) t (List.mem_map.2 ⟨_, look_mem hx, rfl⟩)
    obtain ⟨j, hj, h6⟩ := List.any_eq_true.1 this
    cases ho : l.toArray[j]? with
    | none => rw [ho] at h6; cases h6
    | some oj => rw [ho] at h6; exact ⟨j, oj, ho, by simpa using h6⟩, fun c hc => by have := List.all_eq_true.1 k5 c hc; simpa using this⟩
  have hcl : Closed l.toArray (Array.replicate l.toArray.size false) := fun j o ho hl => by
    rw [Array.getD_eq_getD_getElem?, Array.getElem?_replicate] at hl
    split at hl <;> cases hl
  have hlf : ∀ i, (Array.replicate l.toArray.size false).getD i false = false := fun i => by
    rw [Array.getD_eq_getD_getElem?, Array.getElem?_replicate]; split <;> rfl
  have hk0 : keyOf cs (Array.replicate l.toArray.size false) = [] := List.filter_eq_nil_iff.2 fun c _ => by rw [hlf]; exact Bool.false_ne_true
  have h1 := anyX_n (P := P) (K := fun σ => ∃ τ, Eqv τ σ ∧ Q .normal τ) k6 D k3 (fun i hi => by simpa using List.all_eq_true.1 k4 i (List.mem_range.2 hi)) hst hF
    (fun σ h2 h3 => ⟨⟨nF.full ++ nF.base, nF.own⟩, ⟨fun t => by rw [full_tmp, h3], h2.symm⟩, h⟩) l.toArray.size n0 (Array.replicate l.toArray.size false) ⟨base, own0⟩ (by rw [hk0]; exact h0) (by simp) (by
      have := List.length_filter_le (fun i => !(Array.replicate l.toArray.size false).getD i true) (List.range l.toArray.size)
      rw [List.length_range] at this; exact this) hcl ⟨ho.symm, fun j oj t _ _ h => (by rw [hlf] at h; cases h), fun t _ => by subst hb; rfl⟩
  refine wp_region_any hm (anyX_run (fun β σ a w ⟨τ, e, hq⟩ s => ⟨β, τ, hq, s.eqv e.symm⟩) _ _ β _ a _ h1 (s.grow (w' := w.drew) ?_).1)
  exact (Ext.refl w).drew
end
end Go.Smd
end
