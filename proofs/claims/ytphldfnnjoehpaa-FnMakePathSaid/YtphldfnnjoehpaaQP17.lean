/- Part 17 of the proof: Pb Pc. -/
import Derived.Test.YtphldfnnjoehpaaQP16
set_option linter.unusedVariables false
section
set_option linter.unusedSimpArgs false
set_option maxRecDepth 100000
set_option maxHeartbeats 8000000
namespace Go.Smd
open Go.RowKit Go.Proofs
def CE (e : EV) : EV :=
  if e.k = 1 then ⟨1, ⟨#[]⟩, e.keys.take (min e.keys.length e.l.length), (e.l.take (min e.keys.length e.l.length)).map clean, zGV, 0⟩
  else if e.k = 2 then ⟨2, ⟨#[]⟩, [], [], clean e.v, 0⟩
  else if e.k = 3 then ⟨3, ⟨#[]⟩, [], [], zGV, e.n⟩
  else ⟨0, e.s, [], [], zGV, 0⟩
theorem cleanElem_a (e : EV) (hk : e.keys.length * 16 ≤ 140737488351232) (hl : e.l.length * 88 ≤ 140737488351232) : ACalls Try.prog 28 [evA e] (fun r => r = evA (CE e)) := by
  obtain ⟨k, s, keys, l, ⟨a, b, c, d, e, f⟩, n⟩ := e
  dsimp only at hk hl
  obtain ⟨m, hm⟩ : ∃ m : Nat, m = min keys.length l.length := ⟨_, rfl⟩
  obtain ⟨a1, a2, a3, a4, a5, a6, hcl⟩ : ∃ a1 a2 a3 a4 a5 a6, clean (.mk a b c d e f) = .mk a1 a2 a3 a4 a5 a6 := by cases clean (.mk a b c d e f); exact ⟨_, _, _, _, _, _, rfl⟩
  have hc := clean_a (.mk a b c d e f)
  rw [hcl, gvA_x, gvA_x] at hc
  have hCE : evA (CE ⟨k, s, keys, l, .mk a b c d e f, n⟩) = if k = 1 then evX 1 ⟨#[]⟩ (keys.take m) ((l.take m).map clean) 0 0 0 ⟨#[]⟩ [] [] 0 else if k = 2 then evX 2 ⟨#[]⟩ [] [] a1 a2 a3 a4 a5 a6 0 else if k = 3 then evX 3 ⟨#[]⟩ [] [] 0 0 0 ⟨#[]⟩ [] [] n else evX 0 s [] [] 0 0 0 ⟨#[]⟩ [] [] 0 := by
    unfold CE
    simp only [zGV, hcl, ← hm]
    repeat' split
    all_goals rw [evA_x]
  rw [hCE, evA_x]
  refine acalls_ex [(4, ([10], [(1, []), (2, []), (3, []), (4, []), (6, []), (7, []), (8, []), (9, []), (0, []), (5, []), (10, []), (11, []), (12, [])]))] Try.func28 (by kernel_rfl) rfl Try.ntmps28 Try.results28 (Nat.le_of_ble_eq_true (by kernel_rfl)) ?_; intro hok w0 S0
  clear hok
  have b1 : keys.length ≤ 9223372036854775807 := by omega
  have b2 : l.length ≤ 9223372036854775807 := by omega
  have hmin : min (keys.length : Int) (l.length : Int) = (m : Int) := by omega
  have hm1 : m ≤ keys.length := by omega
  have hm2 : m ≤ l.length := by omega
  have hp := plainList_a (l.take m) (by simp; omega)
  rw [show dGVs (l.take m) = .sl 26 ((l.map gvD).take m) by rw [dGVs, List.map_take]] at hp
  have hr : m * 16 ≤ 140737488351232 := by omega
  (repeat' (first
                                                            | (with_reducible refine br_d (fun _ => ?_) (fun _ => ?_))
                                                            | (with_reducible refine br_i (fun _ => ?_) (fun _ => ?_))
                                                            | (with_reducible refine nd_v (hc) (by first | rfl | (simp -dsimp [b1, b2, toDs, hmin, hm1, hm2, hr]; done)) ?_)
                                                            | (with_reducible refine nw_v (hc) rfl (by first | rfl | (simp -dsimp [b1, b2, toDs, hmin, hm1, hm2, hr]; done)) (by first | rfl | (simp -dsimp [b1, b2, toDs, hmin, hm1, hm2, hr]; done)) ?_)
                                                            | (with_reducible refine nd_v (hp) (by first | rfl | (simp -dsimp [b1, b2, toDs, hmin, hm1, hm2, hr]; done)) ?_)
                                                            | (with_reducible refine nw_v (hp) rfl (by first | rfl | (simp -dsimp [b1, b2, toDs, hmin, hm1, hm2, hr]; done)) (by first | rfl | (simp -dsimp [b1, b2, toDs, hmin, hm1, hm2, hr]; done)) ?_)
                                                            | ((with_reducible apply nd_next); (case hx => simp -dsimp [b1, b2, toDs, hmin, hm1, hm2, hr]; first | done | with_reducible rfl); (case hid => simp -dsimp [b1, b2, toDs, hmin, hm1, hm2, hr]; first | done | with_reducible rfl | exact ⟨rfl, rfl, rfl⟩ | exact ⟨rfl, rfl⟩); (case' h1 => intro _ _ _); (case' h0 => intro _))
                                                            | ((with_reducible apply nd_entry); (case hx => simp -dsimp [b1, b2, toDs, hmin, hm1, hm2, hr]; first | done | with_reducible rfl); (case hid => simp -dsimp [b1, b2, toDs, hmin, hm1, hm2, hr]; first | done | with_reducible rfl | exact ⟨rfl, rfl, rfl⟩ | exact ⟨rfl, rfl⟩))
                                                            | ((with_reducible apply nd_range); (case hx => simp -dsimp [b1, b2, toDs, hmin, hm1, hm2, hr]; with_reducible rfl); (case hT => simp -dsimp [b1, b2, toDs, hmin, hm1, hm2, hr]); (case hnd => assumption); (case hz => simp -dsimp [b1, b2, toDs, hmin, hm1, hm2, hr]))
                                                            | (with_reducible refine dn_i follows_any (by kernel_rfl) ?_)
                                                            | (with_reducible exact done_eq rfl)
                                                            | (simp -dsimp [b1, b2, toDs, hmin, hm1, hm2, hr]))); (all_goals try with_reducible refine done_eq ?_)
  · rename_i h
    rw [if_pos h]
    simp only [evX, dStrs, dGVs, rowS, List.map_take]; rfl
  · rename_i h1 h2
    rw [if_neg h1, if_pos h2]
    try rfl
  · rename_i h1 h2 h3
    rw [if_neg h1, if_neg h2, if_pos h3]
    try rfl
  · rename_i h1 h2 h3
    rw [if_neg h1, if_neg h2, if_neg h3]
    try rfl
theorem keyValue_x (k : Int) (s : ByteArray) (keys : List ByteArray) (l : List GV) (a b : Int) (c : Nat) (d : ByteArray) (e : List ByteArray) (f : List GV) (n : Int) :
    ACalls Try.prog 105 [evX k s keys l a b c d e f n] (fun r => r = gvX 6 0 0 ⟨#[]⟩ keys l) := by
  refine acalls_ex [] Try.func105 (by kernel_rfl) rfl Try.ntmps105 Try.results105 (Nat.le_of_ble_eq_true (by kernel_rfl)) ?_; intro hok w0 S0
  clear hok
  (repeat' (first
                                                            | (with_reducible refine br_d (fun _ => ?_) (fun _ => ?_))
                                                            | (with_reducible refine br_i (fun _ => ?_) (fun _ => ?_))
                                                            | ((with_reducible apply nd_next); (case hx => simp -dsimp; first | done | with_reducible rfl); (case hid => simp -dsimp; first | done | with_reducible rfl | exact ⟨rfl, rfl, rfl⟩ | exact ⟨rfl, rfl⟩); (case' h1 => intro _ _ _); (case' h0 => intro _))
                                                            | ((with_reducible apply nd_entry); (case hx => simp -dsimp; first | done | with_reducible rfl); (case hid => simp -dsimp; first | done | with_reducible rfl | exact ⟨rfl, rfl, rfl⟩ | exact ⟨rfl, rfl⟩))
                                                            | ((with_reducible apply nd_range); (case hx => simp -dsimp; with_reducible rfl); (case hT => simp -dsimp); (case hnd => assumption); (case hz => simp -dsimp))
                                                            | (with_reducible refine dn_i follows_any (by kernel_rfl) ?_)
                                                            | (with_reducible exact done_eq rfl)
                                                            | (simp -dsimp))); (all_goals try with_reducible refine done_eq ?_)
theorem raw_b {S : Nat → Prop} {w : World} {x : Value} (hx : okVb x = true) {e : Ending} {w' : World} (h : Makes (fun _ u => u = x) w e w') : ∃ v r, e = .returned v ∧ r = aV x ∧ RepA Try.prog (fun b => S b ∨ w.heap.size ≤ b) noB noH w' r v ∧ Ext w w' := by
  obtain ⟨v, rfl, rfl, hE⟩ := h
  exact ⟨_, _, rfl, rfl, RepD.v hx, hE⟩
theorem identical_a (g : GV) : ACalls Try.prog 55 [gvA g, gvA g] (fun r => r = aV (.bool true)) := by
  refine ⟨⟨_, Try.func55, by kernel_rfl, rfl⟩, fun w S vs hS ha => ?_⟩
  obtain ⟨v, _, rfl, h, ha⟩ := ha.inv
  obtain ⟨u, _, rfl, h2, ha⟩ := ha.inv
  cases ha.inv0
  obtain ⟨cs, rfl, hg⟩ := gvA_iff.1 h
  obtain ⟨cv, rfl, hg2⟩ := gvA_iff.1 h2
  exact (ident_c g cs cv w S hg hg2).mono fun e w' h => raw_b rfl h
theorem identical_x (k n : Int) (f : Nat) (s : ByteArray) (ks : List ByteArray) (l : List GV) : ACalls Try.prog 55 [gvX k n f s ks l, gvX k n f s ks l] (fun r => r = aV (.bool true)) := by
  have h := identical_a (.mk k n f s ks l)
  rw [gvA_x] at h; exact h
structure EVs (e : EV) : Prop where
  hk : e.keys.length * 16 ≤ 140737488351232
  hl : e.l.length * 88 ≤ 140737488351232
theorem sameElem_a (e e' : EV) (h : CE e = CE e') (s : EVs e) (s' : EVs e') : ACalls Try.prog 74 [evA e, evA e'] (fun r => r = aV (.bool true)) := by
  have h1 := cleanElem_a e s.hk s.hl
  have h2 := cleanElem_a e' s'.hk s'.hl
  rw [← h] at h2
  clear h s s'
  generalize CE e = ce at h1 h2
  obtain ⟨k, s, keys, l, ⟨a, b, c, d, p, f⟩, n⟩ := e
  obtain ⟨k', s', keys', l', ⟨a', b', c', d', p', f'⟩, n'⟩ := e'
  obtain ⟨k1, s1, keys1, l1, ⟨a1, b1, c1, d1, p1, f1⟩, n1⟩ := ce
  rw [evA_x, evA_x] at h1 h2
  rw [evA_x, evA_x]
  refine acalls_ex [(1, ([3], [(0, []), (2, []), (1, []), (3, []), (4, []), (5, [])])), (4, ([3, 4], [(0, []), (2, []), (1, []), (3, []), (4, []), (5, [])]))] Try.func74 (by kernel_rfl) rfl Try.ntmps74 Try.results74 (Nat.le_of_ble_eq_true (by kernel_rfl)) ?_; intro hok w0 S0
  clear hok
  (repeat' (first
                                                            | (with_reducible refine br_d (fun _ => ?_) (fun _ => ?_))
                                                            | (with_reducible refine br_i (fun _ => ?_) (fun _ => ?_))
                                                            | (with_reducible refine nd_v (h1) (by first | rfl | (simp -dsimp; done)) ?_)
                                                            | (with_reducible refine nw_v (h1) rfl (by first | rfl | (simp -dsimp; done)) (by first | rfl | (simp -dsimp; done)) ?_)
                                                            | (with_reducible refine nd_v (h2) (by first | rfl | (simp -dsimp; done)) ?_)
                                                            | (with_reducible refine nw_v (h2) rfl (by first | rfl | (simp -dsimp; done)) (by first | rfl | (simp -dsimp; done)) ?_)
                                                            | (with_reducible refine nd_v (identical_x _ _ _ _ _ _) (by first | rfl | (simp -dsimp; done)) ?_)
                                                            | (with_reducible refine nw_v (identical_x _ _ _ _ _ _) rfl (by first | rfl | (simp -dsimp; done)) (by first | rfl | (simp -dsimp; done)) ?_)
                                                            | (with_reducible refine nd_v (keyValue_x _ _ _ _ _ _ _ _ _ _ _) (by first | rfl | (simp -dsimp; done)) ?_)
                                                            | (with_reducible refine nw_v (keyValue_x _ _ _ _ _ _ _ _ _ _ _) rfl (by first | rfl | (simp -dsimp; done)) (by first | rfl | (simp -dsimp; done)) ?_)
                                                            | ((with_reducible apply nd_next); (case hx => simp -dsimp; first | done | with_reducible rfl); (case hid => simp -dsimp; first | done | with_reducible rfl | exact ⟨rfl, rfl, rfl⟩ | exact ⟨rfl, rfl⟩); (case' h1 => intro _ _ _); (case' h0 => intro _))
                                                            | ((with_reducible apply nd_entry); (case hx => simp -dsimp; first | done | with_reducible rfl); (case hid => simp -dsimp; first | done | with_reducible rfl | exact ⟨rfl, rfl, rfl⟩ | exact ⟨rfl, rfl⟩))
                                                            | ((with_reducible apply nd_range); (case hx => simp -dsimp; with_reducible rfl); (case hT => simp -dsimp); (case hnd => assumption); (case hz => simp -dsimp))
                                                            | (with_reducible refine dn_i follows_any (by kernel_rfl) ?_)
                                                            | (with_reducible exact done_eq rfl)
                                                            | (simp -dsimp))); (all_goals try with_reducible refine done_eq ?_)
theorem samePath_a (p q : List EV) (h : p.map CE = q.map CE) (hp : ∀ e ∈ p, EVs e) (hq : ∀ e ∈ q, EVs e) (hl : q.length ≤ 9223372036854775806) : ACalls Try.prog 30 [.c (.d (dPath p)), .c (.d (dPath q))] (fun r => r = aV (.bool true)) := by
  have hlen : p.length = q.length := by have := congrArg List.length h; simpa using this
  refine acalls_ex [(6, ([8], [(0, []), (1, []), (2, []), (3, []), (4, []), (5, []), (6, []), (7, []), (8, []), (9, [])]))] Try.func30 (by kernel_rfl) rfl Try.ntmps30 Try.results30 (Nat.le_of_ble_eq_true (by kernel_rfl)) ?_; intro hok w0 S0
  clear hok
  have b1 : p.length ≤ 9223372036854775807 := by omega
  have b2 : q.length ≤ 9223372036854775807 := by omega
  have b3 : (p.length : Int) = q.length := by omega
  (repeat' (first
                                                            | (with_reducible refine br_d (fun _ => ?_) (fun _ => ?_))
                                                            | (with_reducible refine br_i (fun _ => ?_) (fun _ => ?_))
                                                            | ((with_reducible apply nd_next); (case hx => simp -dsimp [b1, b2, b3]; first | done | with_reducible rfl); (case hid => simp -dsimp [b1, b2, b3]; first | done | with_reducible rfl | exact ⟨rfl, rfl, rfl⟩ | exact ⟨rfl, rfl⟩); (case' h1 => intro _ _ _); (case' h0 => intro _))
                                                            | ((with_reducible apply nd_entry); (case hx => simp -dsimp [b1, b2, b3]; first | done | with_reducible rfl); (case hid => simp -dsimp [b1, b2, b3]; first | done | with_reducible rfl | exact ⟨rfl, rfl, rfl⟩ | exact ⟨rfl, rfl⟩))
                                                            | ((with_reducible apply nd_range); (case hx => simp -dsimp [b1, b2, b3]; with_reducible rfl); (case hT => simp -dsimp [b1, b2, b3]); (case hnd => assumption); (case hz => simp -dsimp [b1, b2, b3]))
                                                            | (with_reducible refine dn_i follows_any (by kernel_rfl) ?_)
                                                            | (with_reducible exact done_eq rfl)
                                                            | (simp -dsimp [b1, b2, b3]))); (all_goals try with_reducible refine done_eq ?_)
  refine ex_loop (fun i : Nat => ⟨[(0, .c (.d (dPath p))), (1, .c (.d (dPath q))), (12, aI p.length), (13, aI i)], []⟩) (fun i => i ≤ p.length) (fun i => p.length - i) 0 ?_ (Nat.zero_le _) ?_
  · exact Weak.same (by simp -dsimp [b3]) (by simp -dsimp [b3]) (by first | rfl | (simp [closedSt, Av.ids, Ow.ids, Cl.ids, Go.Smd.keys]; done))
  · rintro i hi K hK
    by_cases hlt : i < p.length
    · have hlt2 : i < q.length := by omega
      have hw : IntKind.wrap .i64 ((i : Int) + 1) = ((i + 1 : Nat) : Int) := by rw [wrap_i64] <;> omega
      have hce : CE p[i] = CE q[i] := by
        have e1 : (p.map CE)[i]'(by simpa using hlt) = (q.map CE)[i]'(by simpa using hlt2) := by simp only [h]
        simpa using e1
      have hs := sameElem_a p[i] q[i] hce (hp _ (List.getElem_mem hlt)) (hq _ (List.getElem_mem hlt2))
      (repeat' (first
                                                            | (with_reducible refine br_d (fun _ => ?_) (fun _ => ?_))
                                                            | (with_reducible refine br_i (fun _ => ?_) (fun _ => ?_))
                                                            | (with_reducible refine nd_v (hs) (by first | rfl | (simp -dsimp [b1, b2, hlt, hlt2, hw]; done)) ?_)
                                                            | (with_reducible refine nw_v (hs) rfl (by first | rfl | (simp -dsimp [b1, b2, hlt, hlt2, hw]; done)) (by first | rfl | (simp -dsimp [b1, b2, hlt, hlt2, hw]; done)) ?_)
                                                            | ((with_reducible apply nd_next); (case hx => simp -dsimp [b1, b2, hlt, hlt2, hw]; first | done | with_reducible rfl); (case hid => simp -dsimp [b1, b2, hlt, hlt2, hw]; first | done | with_reducible rfl | exact ⟨rfl, rfl, rfl⟩ | exact ⟨rfl, rfl⟩); (case' h1 => intro _ _ _); (case' h0 => intro _))
                                                            | ((with_reducible apply nd_entry); (case hx => simp -dsimp [b1, b2, hlt, hlt2, hw]; first | done | with_reducible rfl); (case hid => simp -dsimp [b1, b2, hlt, hlt2, hw]; first | done | with_reducible rfl | exact ⟨rfl, rfl, rfl⟩ | exact ⟨rfl, rfl⟩))
                                                            | ((with_reducible apply nd_range); (case hx => simp -dsimp [b1, b2, hlt, hlt2, hw]; with_reducible rfl); (case hT => simp -dsimp [b1, b2, hlt, hlt2, hw]); (case hnd => assumption); (case hz => simp -dsimp [b1, b2, hlt, hlt2, hw]))
                                                            | (with_reducible refine dn_i follows_any (by kernel_rfl) ?_)
                                                            | (with_reducible exact done_eq rfl)
                                                            | (simp -dsimp [b1, b2, hlt, hlt2, hw]))); (all_goals try with_reducible refine done_eq ?_)
      refine hK _ (i + 1) ?_ (by omega) (by omega)
      exact Weak.same (by simp -dsimp) (by simp -dsimp) (by first | rfl | (simp [closedSt, Av.ids, Ow.ids, Cl.ids, Go.Smd.keys]; done))
    · (repeat' (first
                                                            | (with_reducible refine br_d (fun _ => ?_) (fun _ => ?_))
                                                            | (with_reducible refine br_i (fun _ => ?_) (fun _ => ?_))
                                                            | ((with_reducible apply nd_next); (case hx => simp -dsimp [hlt]; first | done | with_reducible rfl); (case hid => simp -dsimp [hlt]; first | done | with_reducible rfl | exact ⟨rfl, rfl, rfl⟩ | exact ⟨rfl, rfl⟩); (case' h1 => intro _ _ _); (case' h0 => intro _))
                                                            | ((with_reducible apply nd_entry); (case hx => simp -dsimp [hlt]; first | done | with_reducible rfl); (case hid => simp -dsimp [hlt]; first | done | with_reducible rfl | exact ⟨rfl, rfl, rfl⟩ | exact ⟨rfl, rfl⟩))
                                                            | ((with_reducible apply nd_range); (case hx => simp -dsimp [hlt]; with_reducible rfl); (case hT => simp -dsimp [hlt]); (case hnd => assumption); (case hz => simp -dsimp [hlt]))
                                                            | (with_reducible refine dn_i follows_any (by kernel_rfl) ?_)
                                                            | (with_reducible exact done_eq rfl)
                                                            | (simp -dsimp [hlt]))); (all_goals try with_reducible refine done_eq ?_)
theorem zip_fst {α β : Type} : ∀ (a : List α) (b : List β), (a.zip b).map (·.1) = a.take (min a.length b.length)
  | [], _ => by simp
  | _ :: _, [] => by simp
  | x :: a, y :: b => by
    simp only [List.zip_cons_cons, List.map_cons, zip_fst a b, List.length_cons, ← Nat.succ_eq_add_one, Nat.succ_min_succ, List.take_succ_cons]
theorem zip_snd {α β : Type} : ∀ (a : List α) (b : List β), (a.zip b).map (·.2) = b.take (min a.length b.length)
  | [], _ => by simp
  | _ :: _, [] => by simp
  | x :: a, y :: b => by
    simp only [List.zip_cons_cons, List.map_cons, zip_snd a b, List.length_cons, ← Nat.succ_eq_add_one, Nat.succ_min_succ, List.take_succ_cons]
theorem CE_from (e : EV) : CE (fromLE (toLE e)) = CE e := by
  have hcl : ∀ x : GV, clean (fromT (treeOf x)) = clean x := fun x => by rw [from_tree, clean_idem]
  unfold toLE
  split
  · next h1 =>
    unfold CE
    simp only [fromLE, h1, if_true]
    have hz : (zipF e.keys e.l).length = min e.keys.length e.l.length := by simp [zipF]
    rw [List.length_map, List.length_map, Nat.min_self, hz, List.take_of_length_le (by simp [zipF]), List.take_of_length_le (by simp [zipF])]
    congr 1
    · rw [zipF, zip_fst]; simp
    · rw [zipF, List.zip_map_right, List.map_map, List.map_map]
      have : ((clean ∘ fun p : ByteArray × Tree => fromT p.2) ∘ Prod.map id treeOf) = clean ∘ (Prod.snd : ByteArray × GV → GV) := funext fun p => hcl p.2
      rw [this, ← List.map_map]
      have e2 := zip_snd e.keys e.l
      exact congrArg (List.map clean) e2
  · split
    · next h1 h2 => unfold CE; simp [fromLE, h2, hcl]
    · split
      · next h1 h2 h3 => unfold CE; simp [fromLE, h3]
      · next h1 h2 h3 => unfold CE; simp [fromLE, h1, h2, h3]
end Go.Smd
end
section
set_option linter.unusedSimpArgs false
set_option maxRecDepth 100000
set_option maxHeartbeats 8000000
namespace Go.Smd
open Go.RowKit Go.Proofs
section
variable {P : Program} {σ : St} {d : Option Tmp} {ty : TypeId} {pos : String} {af : Array Edge} {g : Option (Nat × Bool)}
@[simp ↓] theorem clo_buildSlice {T : TypeId} {n : Nat} {xs : Array (Nat × Operand)} : cloA σ ⟨d, .buildSlice T n xs, ty, pos, af, g⟩ = none := _root_.id rfl
end
theorem bsz (a : Array UInt8) : (ByteArray.mk a).size = a.size := _root_.id rfl
@[simp] theorem val_fulfils : Try.prog.fulfils 94 193 = true := by kernel_rfl
def partOf : LE → D
  | .name s => .ifc 9 (dS s)
  | .key l => .ifc 129 (.pt [dFds l])
  | .val t => dV t
  | .idx n => .ifc 3 (dI n)
def okLE : LE → Bool
  | .key l => !l.isEmpty
  | _ => true
abbrev dParts (p : List LE) : D := .sl 20 (p.map fun q => [partOf q])
theorem oSl_pos {E : TypeId} {xs : List (List D)} (h : xs ≠ []) : oSl E xs = .sl E xs := by cases xs with
  | nil => exact absurd rfl h
  | cons x xs => rfl
theorem errNew_a (s : ByteArray) : ACalls Try.prog 103 [aS s] (fun r => ∃ T y, r = .c (.d (.ifc T y))) := by
  refine acalls_ex [] Try.func103 (by kernel_rfl) rfl Try.ntmps103 Try.results103 (Nat.le_of_ble_eq_true (by kernel_rfl)) ?_; intro hok w0 S0
  clear hok
  (repeat' (first
                                                            | (with_reducible refine br_d (fun _ => ?_) (fun _ => ?_))
                                                            | (with_reducible refine br_i (fun _ => ?_) (fun _ => ?_))
                                                            | ((with_reducible apply nd_next); (case hx => simp -dsimp; first | done | with_reducible rfl); (case hid => simp -dsimp; first | done | with_reducible rfl | exact ⟨rfl, rfl, rfl⟩ | exact ⟨rfl, rfl⟩); (case' h1 => intro _ _ _); (case' h0 => intro _))
                                                            | ((with_reducible apply nd_entry); (case hx => simp -dsimp; first | done | with_reducible rfl); (case hid => simp -dsimp; first | done | with_reducible rfl | exact ⟨rfl, rfl, rfl⟩ | exact ⟨rfl, rfl⟩))
                                                            | ((with_reducible apply nd_range); (case hx => simp -dsimp; with_reducible rfl); (case hT => simp -dsimp); (case hnd => assumption); (case hz => simp -dsimp))
                                                            | (with_reducible refine dn_i follows_any (by kernel_rfl) ?_)
                                                            | (with_reducible exact done_eq rfl)
                                                            | (simp -dsimp))); (all_goals try with_reducible refine done_eq ?_)
  all_goals exact ⟨_, _, rfl⟩
theorem fpMake_a (p : List LE) (hl : p.length * 32 ≤ 140737488351232) (hk : ∀ l, LE.key l ∈ p → l.length ≤ 9223372036854775807) : ACalls Try.prog 72 [.c (.d (dParts p))]
    (fun r => if p.all okLE = true then r = .tup [(false, [.d (oSl 133 (p.map leD))]), (false, [.d (.v .nilIface)])] else ∃ x T y, r = .tup [(false, [.d x]), (false, [.d (.ifc T y)])]) := by
  refine acalls_ex [] Try.func72 (by kernel_rfl) rfl Try.ntmps72 Try.results72 (Nat.le_of_ble_eq_true (by kernel_rfl)) ?_; intro hok w0 S0
  clear hok
  have b1 : p.length ≤ 9223372036854775807 := by omega
  (repeat' (first
                                                            | (with_reducible refine br_d (fun _ => ?_) (fun _ => ?_))
                                                            | (with_reducible refine br_i (fun _ => ?_) (fun _ => ?_))
                                                            | ((with_reducible apply nd_next); (case hx => simp -dsimp [b1]; first | done | with_reducible rfl); (case hid => simp -dsimp [b1]; first | done | with_reducible rfl | exact ⟨rfl, rfl, rfl⟩ | exact ⟨rfl, rfl⟩); (case' h1 => intro _ _ _); (case' h0 => intro _))
                                                            | ((with_reducible apply nd_entry); (case hx => simp -dsimp [b1]; first | done | with_reducible rfl); (case hid => simp -dsimp [b1]; first | done | with_reducible rfl | exact ⟨rfl, rfl, rfl⟩ | exact ⟨rfl, rfl⟩))
                                                            | ((with_reducible apply nd_range); (case hx => simp -dsimp [b1]; with_reducible rfl); (case hT => simp -dsimp [b1]); (case hnd => assumption); (case hz => simp -dsimp [b1]))
                                                            | (with_reducible refine dn_i follows_any (by kernel_rfl) ?_)
                                                            | (with_reducible exact done_eq rfl)
                                                            | (simp -dsimp [b1]))); (all_goals try with_reducible refine done_eq ?_)
  refine ex_loop (fun x : Nat × Nat => match x.1 with
      | 0 => ⟨[(4, .c (.d (.v (.slice none 0 0)))), (13, .c (.d (dParts p))), (14, aI p.length), (15, aI 0)], []⟩
      | i + 1 => ⟨[(4, .c (.gs x.2 (i + 1))), (13, .c (.d (dParts p))), (14, aI p.length), (15, aI ((i + 1 : Nat) : Int))], [(x.2, .arr (i + 1) 133 ((p.map leD).take (i + 1)))]⟩)
    (fun x => x.1 ≤ p.length ∧ (x.2 = 34 ∨ x.2 = 41 ∨ x.2 = 55 ∨ x.2 = 62) ∧ (p.take x.1).all okLE = true) (fun x => p.length - x.1) (0, 34) ?_ ⟨Nat.zero_le _, .inl rfl, rfl⟩ ?_
  · exact Weak.same (by simp -dsimp) (by simp -dsimp) (by first | rfl | (simp [closedSt, Av.ids, Ow.ids, Cl.ids, Go.Smd.keys]; done))
  · rintro ⟨i, id⟩ ⟨hi, hid, hall⟩ K hK
    dsimp only at hi hid hall hK ⊢
    have step : ∀ (q : LE) (h : i < p.length), p[i] = q → okLE q = true → (p.map leD).take (i + 1) = (p.map leD).take i ++ [leD q] ∧ (p.take (i + 1)).all okLE = true := fun q h e ho => by
      have e1 : (p.map leD).take (i + 1) = (p.map leD).take i ++ [leD p[i]] := by rw [List.take_succ_eq_append_getElem (by simpa using h)]; simp
      have e2 : p.take (i + 1) = p.take i ++ [p[i]] := List.take_succ_eq_append_getElem h
      rw [e1, e2, List.all_append, hall, e]
      simp [ho]
    have stop : ∀ (h : i < p.length), okLE p[i] = false → ¬ p.all okLE = true := fun h e ha => by
      have := List.all_eq_true.1 ha _ (List.getElem_mem h)
      rw [e] at this; cases this
    have w1 := w1
    cases i with
    | zero =>
      dsimp only
      by_cases hlt : 0 < p.length
      · have go : ∀ (id : Nat) (q : LE) (σ : St), p[0] = q → okLE q = true → (id = 34 ∨ id = 41 ∨ id = 55 ∨ id = 62) → Weak Try.prog _ w0 S0 σ ⟨[(4, .c (.gs id 1)), (13, .c (.d (dParts p))), (14, aI p.length), (15, aI 1)], [(id, .arr 1 133 [leD q])]⟩ → K σ := fun id q σ e ho h1 h2 => by
          obtain ⟨e1, e2⟩ := step q hlt e ho
          refine hK _ (1, id) ?_ ⟨by dsimp only; omega, h1, e2⟩ (by dsimp only; omega)
          dsimp only
          simp only [Nat.zero_add, List.take_zero, List.nil_append] at e1
          rw [e1]; exact h2
        cases hq : p[0] with
        | name s =>
          (repeat' (first
                                                            | (with_reducible refine br_d (fun _ => ?_) (fun _ => ?_))
                                                            | (with_reducible refine br_i (fun _ => ?_) (fun _ => ?_))
                                                            | ((with_reducible apply nd_f (F := [9])); (case hw => simp -dsimp [hlt, toDs, hq, partOf, w1]; with_reducible rfl))
                                                            | ((with_reducible apply nd_next); (case hx => simp -dsimp [hlt, toDs, hq, partOf, w1]; first | done | with_reducible rfl); (case hid => simp -dsimp [hlt, toDs, hq, partOf, w1]; first | done | with_reducible rfl | exact ⟨rfl, rfl, rfl⟩ | exact ⟨rfl, rfl⟩); (case' h1 => intro _ _ _); (case' h0 => intro _))
                                                            | ((with_reducible apply nd_entry); (case hx => simp -dsimp [hlt, toDs, hq, partOf, w1]; first | done | with_reducible rfl); (case hid => simp -dsimp [hlt, toDs, hq, partOf, w1]; first | done | with_reducible rfl | exact ⟨rfl, rfl, rfl⟩ | exact ⟨rfl, rfl⟩))
                                                            | ((with_reducible apply nd_range); (case hx => simp -dsimp [hlt, toDs, hq, partOf, w1]; with_reducible rfl); (case hT => simp -dsimp [hlt, toDs, hq, partOf, w1]); (case hnd => assumption); (case hz => simp -dsimp [hlt, toDs, hq, partOf, w1]))
                                                            | (with_reducible refine dn_i follows_any (by kernel_rfl) ?_)
                                                            | (with_reducible exact done_eq rfl)
                                                            | (simp -dsimp [hlt, toDs, hq, partOf, w1]))); (all_goals try with_reducible refine done_eq ?_)
          refine go 41 _ _ hq rfl (by simp) ?_
          exact Weak.same (by simp -dsimp) (by simp -dsimp) (by first | rfl | (simp [closedSt, Av.ids, Ow.ids, Cl.ids, Go.Smd.keys]; done))
        | idx n =>
          (repeat' (first
                                                            | (with_reducible refine br_d (fun _ => ?_) (fun _ => ?_))
                                                            | (with_reducible refine br_i (fun _ => ?_) (fun _ => ?_))
                                                            | ((with_reducible apply nd_f (F := [8])); (case hw => simp -dsimp [hlt, toDs, hq, partOf, w1]; with_reducible rfl))
                                                            | ((with_reducible apply nd_next); (case hx => simp -dsimp [hlt, toDs, hq, partOf, w1]; first | done | with_reducible rfl); (case hid => simp -dsimp [hlt, toDs, hq, partOf, w1]; first | done | with_reducible rfl | exact ⟨rfl, rfl, rfl⟩ | exact ⟨rfl, rfl⟩); (case' h1 => intro _ _ _); (case' h0 => intro _))
                                                            | ((with_reducible apply nd_entry); (case hx => simp -dsimp [hlt, toDs, hq, partOf, w1]; first | done | with_reducible rfl); (case hid => simp -dsimp [hlt, toDs, hq, partOf, w1]; first | done | with_reducible rfl | exact ⟨rfl, rfl, rfl⟩ | exact ⟨rfl, rfl⟩))
                                                            | ((with_reducible apply nd_range); (case hx => simp -dsimp [hlt, toDs, hq, partOf, w1]; with_reducible rfl); (case hT => simp -dsimp [hlt, toDs, hq, partOf, w1]); (case hnd => assumption); (case hz => simp -dsimp [hlt, toDs, hq, partOf, w1]))
                                                            | (with_reducible refine dn_i follows_any (by kernel_rfl) ?_)
                                                            | (with_reducible exact done_eq rfl)
                                                            | (simp -dsimp [hlt, toDs, hq, partOf, w1]))); (all_goals try with_reducible refine done_eq ?_)
          refine go 34 _ _ hq rfl (by simp) ?_
          exact Weak.same (by simp -dsimp) (by simp -dsimp) (by first | rfl | (simp [closedSt, Av.ids, Ow.ids, Cl.ids, Go.Smd.keys]; done))
        | val t =>
          (repeat' (first
                                                            | (with_reducible refine br_d (fun _ => ?_) (fun _ => ?_))
                                                            | (with_reducible refine br_i (fun _ => ?_) (fun _ => ?_))
                                                            | ((with_reducible apply nd_f (F := [11])); (case hw => simp -dsimp [hlt, toDs, hq, partOf, w1]; with_reducible rfl))
                                                            | ((with_reducible apply nd_next); (case hx => simp -dsimp [hlt, toDs, hq, partOf, w1]; first | done | with_reducible rfl); (case hid => simp -dsimp [hlt, toDs, hq, partOf, w1]; first | done | with_reducible rfl | exact ⟨rfl, rfl, rfl⟩ | exact ⟨rfl, rfl⟩); (case' h1 => intro _ _ _); (case' h0 => intro _))
                                                            | ((with_reducible apply nd_entry); (case hx => simp -dsimp [hlt, toDs, hq, partOf, w1]; first | done | with_reducible rfl); (case hid => simp -dsimp [hlt, toDs, hq, partOf, w1]; first | done | with_reducible rfl | exact ⟨rfl, rfl, rfl⟩ | exact ⟨rfl, rfl⟩))
                                                            | ((with_reducible apply nd_range); (case hx => simp -dsimp [hlt, toDs, hq, partOf, w1]; with_reducible rfl); (case hT => simp -dsimp [hlt, toDs, hq, partOf, w1]); (case hnd => assumption); (case hz => simp -dsimp [hlt, toDs, hq, partOf, w1]))
                                                            | (with_reducible refine dn_i follows_any (by kernel_rfl) ?_)
                                                            | (with_reducible exact done_eq rfl)
                                                            | (simp -dsimp [hlt, toDs, hq, partOf, w1]))); (all_goals try with_reducible refine done_eq ?_)
          refine go 62 _ _ hq rfl (by simp) ?_
          exact Weak.same (by simp -dsimp) (by simp -dsimp) (by first | rfl | (simp [closedSt, Av.ids, Ow.ids, Cl.ids, Go.Smd.keys]; done))
        | key l =>
          have hll := hk l (hq ▸ List.getElem_mem hlt)
          by_cases hz : l = []
          · subst hz
            (repeat' (first
                                                            | (with_reducible refine br_d (fun _ => ?_) (fun _ => ?_))
                                                            | (with_reducible refine br_i (fun _ => ?_) (fun _ => ?_))
                                                            | ((with_reducible refine nd_c (errNew_a _) (by first | rfl | (simp -dsimp [hlt, toDs, hq, partOf, w1, bsz]; done)) ?_); rintro _ ⟨T, y, rfl⟩ _)
                                                            | ((with_reducible refine nw_c (errNew_a _) rfl (by first | rfl | (simp -dsimp [hlt, toDs, hq, partOf, w1, bsz]; done)) (by first | rfl | (simp -dsimp [hlt, toDs, hq, partOf, w1, bsz]; done)) ?_); rintro _ ⟨T, y, rfl⟩ _)
                                                            | ((with_reducible apply nd_next); (case hx => simp -dsimp [hlt, toDs, hq, partOf, w1, bsz]; first | done | with_reducible rfl); (case hid => simp -dsimp [hlt, toDs, hq, partOf, w1, bsz]; first | done | with_reducible rfl | exact ⟨rfl, rfl, rfl⟩ | exact ⟨rfl, rfl⟩); (case' h1 => intro _ _ _); (case' h0 => intro _))
                                                            | ((with_reducible apply nd_entry); (case hx => simp -dsimp [hlt, toDs, hq, partOf, w1, bsz]; first | done | with_reducible rfl); (case hid => simp -dsimp [hlt, toDs, hq, partOf, w1, bsz]; first | done | with_reducible rfl | exact ⟨rfl, rfl, rfl⟩ | exact ⟨rfl, rfl⟩))
                                                            | ((with_reducible apply nd_range); (case hx => simp -dsimp [hlt, toDs, hq, partOf, w1, bsz]; with_reducible rfl); (case hT => simp -dsimp [hlt, toDs, hq, partOf, w1, bsz]); (case hnd => assumption); (case hz => simp -dsimp [hlt, toDs, hq, partOf, w1, bsz]))
                                                            | (with_reducible refine dn_i follows_any (by kernel_rfl) ?_)
                                                            | (with_reducible exact done_eq rfl)
                                                            | (simp -dsimp [hlt, toDs, hq, partOf, w1, bsz]))); (all_goals try with_reducible refine done_eq ?_)
            refine done_of ?_
            rw [if_neg (stop hlt (by rw [hq]; rfl))]
            exact ⟨_, _, _, rfl⟩
          · have hz1 : ¬ (l.length : Int) = 0 := fun h => hz (List.eq_nil_of_length_eq_zero (by omega))
            have hz2 : okLE (.key l) = true := by simp [okLE, hz]
            (repeat' (first
                                                            | (with_reducible refine br_d (fun _ => ?_) (fun _ => ?_))
                                                            | (with_reducible refine br_i (fun _ => ?_) (fun _ => ?_))
                                                            | ((with_reducible apply nd_next); (case hx => simp -dsimp [hlt, toDs, hq, partOf, w1, hll, hz]; first | done | with_reducible rfl); (case hid => simp -dsimp [hlt, toDs, hq, partOf, w1, hll, hz]; first | done | with_reducible rfl | exact ⟨rfl, rfl, rfl⟩ | exact ⟨rfl, rfl⟩); (case' h1 => intro _ _ _); (case' h0 => intro _))
                                                            | ((with_reducible apply nd_entry); (case hx => simp -dsimp [hlt, toDs, hq, partOf, w1, hll, hz]; first | done | with_reducible rfl); (case hid => simp -dsimp [hlt, toDs, hq, partOf, w1, hll, hz]; first | done | with_reducible rfl | exact ⟨rfl, rfl, rfl⟩ | exact ⟨rfl, rfl⟩))
                                                            | ((with_reducible apply nd_range); (case hx => simp -dsimp [hlt, toDs, hq, partOf, w1, hll, hz]; with_reducible rfl); (case hT => simp -dsimp [hlt, toDs, hq, partOf, w1, hll, hz]); (case hnd => assumption); (case hz => simp -dsimp [hlt, toDs, hq, partOf, w1, hll, hz]))
                                                            | (with_reducible refine dn_i follows_any (by kernel_rfl) ?_)
                                                            | (with_reducible exact done_eq rfl)
                                                            | (simp -dsimp [hlt, toDs, hq, partOf, w1, hll, hz]))); (all_goals try with_reducible refine done_eq ?_)
            refine go 55 _ _ hq hz2 (by simp) ?_
            exact Weak.same (by simp -dsimp) (by simp -dsimp) (by first | rfl | (simp [closedSt, Av.ids, Ow.ids, Cl.ids, Go.Smd.keys]; done))
      · have e : p = [] := List.eq_nil_of_length_eq_zero (by omega)
        subst e
        (repeat' (first
                                                            | (with_reducible refine br_d (fun _ => ?_) (fun _ => ?_))
                                                            | (with_reducible refine br_i (fun _ => ?_) (fun _ => ?_))
                                                            | ((with_reducible apply nd_next); (case hx => simp -dsimp; first | done | with_reducible rfl); (case hid => simp -dsimp; first | done | with_reducible rfl | exact ⟨rfl, rfl, rfl⟩ | exact ⟨rfl, rfl⟩); (case' h1 => intro _ _ _); (case' h0 => intro _))
                                                            | ((with_reducible apply nd_entry); (case hx => simp -dsimp; first | done | with_reducible rfl); (case hid => simp -dsimp; first | done | with_reducible rfl | exact ⟨rfl, rfl, rfl⟩ | exact ⟨rfl, rfl⟩))
                                                            | ((with_reducible apply nd_range); (case hx => simp -dsimp; with_reducible rfl); (case hT => simp -dsimp); (case hnd => assumption); (case hz => simp -dsimp))
                                                            | (with_reducible refine dn_i follows_any (by kernel_rfl) ?_)
                                                            | (with_reducible exact done_eq rfl)
                                                            | (simp -dsimp))); (all_goals try with_reducible refine done_eq ?_)
        exact done_of rfl
    | succ i =>
      dsimp only
      have hrl : ((p.map leD).take (i + 1)).length = i + 1 := by simp; omega
      obtain ⟨R, hR⟩ : ∃ R, R = (p.map leD).take (i + 1) := ⟨_, rfl⟩
      rw [← hR] at hrl ⊢
      by_cases hlt : i + 1 < p.length
      · have hw : IntKind.wrap .i64 (((i + 1 : Nat) : Int) + 1) = ((i + 1 + 1 : Nat) : Int) := by rw [wrap_i64] <;> omega
        have hw2 : IntKind.wrap .i64 ((i : Int) + 1 + 1) = ((i + 1 + 1 : Nat) : Int) := by rw [wrap_i64] <;> omega
        have hb : (i + 1 + 1) * 32 ≤ 140737488351232 := by omega
        have h1 : (i : Int) + 1 < p.length := by omega
        have h2 : (0 : Int) ≤ (i : Int) + 1 := by omega
        have h3 : ((i : Int) + 1).toNat = i + 1 := by omega
        have go : ∀ (q : LE) (σ : St), p[i + 1] = q → okLE q = true → Weak Try.prog _ w0 S0 σ ⟨[(4, .c (.gs id (i + 1 + 1))), (13, .c (.d (dParts p))), (14, aI p.length), (15, aI ((i + 1 + 1 : Nat) : Int))], [(id, .arr (i + 1 + 1) 133 (R ++ [leD q]))]⟩ → K σ := fun q σ e ho h2 => by
          obtain ⟨e1, e2⟩ := step q hlt e ho
          refine hK _ (i + 1 + 1, id) ?_ ⟨by dsimp only; omega, hid, e2⟩ (by dsimp only; omega)
          dsimp only
          rw [e1, ← hR]; exact h2
        cases hq : p[i + 1] with
        | name s =>
          rcases hid with rfl | rfl | rfl | rfl
          all_goals
            (repeat' (first
                                                            | (with_reducible refine br_d (fun _ => ?_) (fun _ => ?_))
                                                            | (with_reducible refine br_i (fun _ => ?_) (fun _ => ?_))
                                                            | ((with_reducible apply nd_f (F := [9])); (case hw => simp -dsimp [hlt, hrl, toDs, hq, partOf, hw, hw2, hb, h1, h2, h3]; with_reducible rfl))
                                                            | ((with_reducible apply nd_next); (case hx => simp -dsimp [hlt, hrl, toDs, hq, partOf, hw, hw2, hb, h1, h2, h3]; first | done | with_reducible rfl); (case hid => simp -dsimp [hlt, hrl, toDs, hq, partOf, hw, hw2, hb, h1, h2, h3]; first | done | with_reducible rfl | exact ⟨rfl, rfl, rfl⟩ | exact ⟨rfl, rfl⟩); (case' h1 => intro _ _ _); (case' h0 => intro _))
                                                            | ((with_reducible apply nd_entry); (case hx => simp -dsimp [hlt, hrl, toDs, hq, partOf, hw, hw2, hb, h1, h2, h3]; first | done | with_reducible rfl); (case hid => simp -dsimp [hlt, hrl, toDs, hq, partOf, hw, hw2, hb, h1, h2, h3]; first | done | with_reducible rfl | exact ⟨rfl, rfl, rfl⟩ | exact ⟨rfl, rfl⟩))
                                                            | ((with_reducible apply nd_range); (case hx => simp -dsimp [hlt, hrl, toDs, hq, partOf, hw, hw2, hb, h1, h2, h3]; with_reducible rfl); (case hT => simp -dsimp [hlt, hrl, toDs, hq, partOf, hw, hw2, hb, h1, h2, h3]); (case hnd => assumption); (case hz => simp -dsimp [hlt, hrl, toDs, hq, partOf, hw, hw2, hb, h1, h2, h3]))
                                                            | (with_reducible refine dn_i follows_any (by kernel_rfl) ?_)
                                                            | (with_reducible exact done_eq rfl)
                                                            | (simp -dsimp [hlt, hrl, toDs, hq, partOf, hw, hw2, hb, h1, h2, h3]))); (all_goals try with_reducible refine done_eq ?_)
            refine go _ _ hq rfl ?_
            exact Weak.same (by simp -dsimp) (by simp -dsimp) (by first | rfl | (simp [closedSt, Av.ids, Ow.ids, Cl.ids, Go.Smd.keys]; done))
        | idx n =>
          rcases hid with rfl | rfl | rfl | rfl
          all_goals
            (repeat' (first
                                                            | (with_reducible refine br_d (fun _ => ?_) (fun _ => ?_))
                                                            | (with_reducible refine br_i (fun _ => ?_) (fun _ => ?_))
                                                            | ((with_reducible apply nd_f (F := [8])); (case hw => simp -dsimp [hlt, hrl, toDs, hq, partOf, hw, hw2, hb, h1, h2, h3]; with_reducible rfl))
                                                            | ((with_reducible apply nd_next); (case hx => simp -dsimp [hlt, hrl, toDs, hq, partOf, hw, hw2, hb, h1, h2, h3]; first | done | with_reducible rfl); (case hid => simp -dsimp [hlt, hrl, toDs, hq, partOf, hw, hw2, hb, h1, h2, h3]; first | done | with_reducible rfl | exact ⟨rfl, rfl, rfl⟩ | exact ⟨rfl, rfl⟩); (case' h1 => intro _ _ _); (case' h0 => intro _))
                                                            | ((with_reducible apply nd_entry); (case hx => simp -dsimp [hlt, hrl, toDs, hq, partOf, hw, hw2, hb, h1, h2, h3]; first | done | with_reducible rfl); (case hid => simp -dsimp [hlt, hrl, toDs, hq, partOf, hw, hw2, hb, h1, h2, h3]; first | done | with_reducible rfl | exact ⟨rfl, rfl, rfl⟩ | exact ⟨rfl, rfl⟩))
                                                            | ((with_reducible apply nd_range); (case hx => simp -dsimp [hlt, hrl, toDs, hq, partOf, hw, hw2, hb, h1, h2, h3]; with_reducible rfl); (case hT => simp -dsimp [hlt, hrl, toDs, hq, partOf, hw, hw2, hb, h1, h2, h3]); (case hnd => assumption); (case hz => simp -dsimp [hlt, hrl, toDs, hq, partOf, hw, hw2, hb, h1, h2, h3]))
                                                            | (with_reducible refine dn_i follows_any (by kernel_rfl) ?_)
                                                            | (with_reducible exact done_eq rfl)
                                                            | (simp -dsimp [hlt, hrl, toDs, hq, partOf, hw, hw2, hb, h1, h2, h3]))); (all_goals try with_reducible refine done_eq ?_)
            refine go _ _ hq rfl ?_
            exact Weak.same (by simp -dsimp) (by simp -dsimp) (by first | rfl | (simp [closedSt, Av.ids, Ow.ids, Cl.ids, Go.Smd.keys]; done))
        | val t =>
          rcases hid with rfl | rfl | rfl | rfl
          all_goals
            (repeat' (first
                                                            | (with_reducible refine br_d (fun _ => ?_) (fun _ => ?_))
                                                            | (with_reducible refine br_i (fun _ => ?_) (fun _ => ?_))
                                                            | ((with_reducible apply nd_f (F := [11])); (case hw => simp -dsimp [hlt, hrl, toDs, hq, partOf, hw, hw2, hb, h1, h2, h3]; with_reducible rfl))
                                                            | ((with_reducible apply nd_next); (case hx => simp -dsimp [hlt, hrl, toDs, hq, partOf, hw, hw2, hb, h1, h2, h3]; first | done | with_reducible rfl); (case hid => simp -dsimp [hlt, hrl, toDs, hq, partOf, hw, hw2, hb, h1, h2, h3]; first | done | with_reducible rfl | exact ⟨rfl, rfl, rfl⟩ | exact ⟨rfl, rfl⟩); (case' h1 => intro _ _ _); (case' h0 => intro _))
                                                            | ((with_reducible apply nd_entry); (case hx => simp -dsimp [hlt, hrl, toDs, hq, partOf, hw, hw2, hb, h1, h2, h3]; first | done | with_reducible rfl); (case hid => simp -dsimp [hlt, hrl, toDs, hq, partOf, hw, hw2, hb, h1, h2, h3]; first | done | with_reducible rfl | exact ⟨rfl, rfl, rfl⟩ | exact ⟨rfl, rfl⟩))
                                                            | ((with_reducible apply nd_range); (case hx => simp -dsimp [hlt, hrl, toDs, hq, partOf, hw, hw2, hb, h1, h2, h3]; with_reducible rfl); (case hT => simp -dsimp [hlt, hrl, toDs, hq, partOf, hw, hw2, hb, h1, h2, h3]); (case hnd => assumption); (case hz => simp -dsimp [hlt, hrl, toDs, hq, partOf, hw, hw2, hb, h1, h2, h3]))
                                                            | (with_reducible refine dn_i follows_any (by kernel_rfl) ?_)
                                                            | (with_reducible exact done_eq rfl)
                                                            | (simp -dsimp [hlt, hrl, toDs, hq, partOf, hw, hw2, hb, h1, h2, h3]))); (all_goals try with_reducible refine done_eq ?_)
            refine go _ _ hq rfl ?_
            exact Weak.same (by simp -dsimp) (by simp -dsimp) (by first | rfl | (simp [closedSt, Av.ids, Ow.ids, Cl.ids, Go.Smd.keys]; done))
        | key l =>
          have hll := hk l (hq ▸ List.getElem_mem hlt)
          by_cases hz : l = []
          · subst hz
            rcases hid with rfl | rfl | rfl | rfl
            all_goals
              (repeat' (first
                                                            | (with_reducible refine br_d (fun _ => ?_) (fun _ => ?_))
                                                            | (with_reducible refine br_i (fun _ => ?_) (fun _ => ?_))
                                                            | ((with_reducible refine nd_c (errNew_a _) (by first | rfl | (simp -dsimp [hlt, hrl, toDs, hq, partOf, hw, hw2, hb, h1, h2, h3, bsz]; done)) ?_); rintro _ ⟨T, y, rfl⟩ _)
                                                            | ((with_reducible refine nw_c (errNew_a _) rfl (by first | rfl | (simp -dsimp [hlt, hrl, toDs, hq, partOf, hw, hw2, hb, h1, h2, h3, bsz]; done)) (by first | rfl | (simp -dsimp [hlt, hrl, toDs, hq, partOf, hw, hw2, hb, h1, h2, h3, bsz]; done)) ?_); rintro _ ⟨T, y, rfl⟩ _)
                                                            | ((with_reducible apply nd_next); (case hx => simp -dsimp [hlt, hrl, toDs, hq, partOf, hw, hw2, hb, h1, h2, h3, bsz]; first | done | with_reducible rfl); (case hid => simp -dsimp [hlt, hrl, toDs, hq, partOf, hw, hw2, hb, h1, h2, h3, bsz]; first | done | with_reducible rfl | exact ⟨rfl, rfl, rfl⟩ | exact ⟨rfl, rfl⟩); (case' h1 => intro _ _ _); (case' h0 => intro _))
                                                            | ((with_reducible apply nd_entry); (case hx => simp -dsimp [hlt, hrl, toDs, hq, partOf, hw, hw2, hb, h1, h2, h3, bsz]; first | done | with_reducible rfl); (case hid => simp -dsimp [hlt, hrl, toDs, hq, partOf, hw, hw2, hb, h1, h2, h3, bsz]; first | done | with_reducible rfl | exact ⟨rfl, rfl, rfl⟩ | exact ⟨rfl, rfl⟩))
                                                            | ((with_reducible apply nd_range); (case hx => simp -dsimp [hlt, hrl, toDs, hq, partOf, hw, hw2, hb, h1, h2, h3, bsz]; with_reducible rfl); (case hT => simp -dsimp [hlt, hrl, toDs, hq, partOf, hw, hw2, hb, h1, h2, h3, bsz]); (case hnd => assumption); (case hz => simp -dsimp [hlt, hrl, toDs, hq, partOf, hw, hw2, hb, h1, h2, h3, bsz]))
                                                            | (with_reducible refine dn_i follows_any (by kernel_rfl) ?_)
                                                            | (with_reducible exact done_eq rfl)
                                                            | (simp -dsimp [hlt, hrl, toDs, hq, partOf, hw, hw2, hb, h1, h2, h3, bsz]))); (all_goals try with_reducible refine done_eq ?_)
              refine done_of ?_
              rw [if_neg (stop hlt (by rw [hq]; rfl))]
              exact ⟨_, _, _, rfl⟩
          · have hz1 : ¬ (l.length : Int) = 0 := fun h => hz (List.eq_nil_of_length_eq_zero (by omega))
            have hz2 : okLE (.key l) = true := by simp [okLE, hz]
            rcases hid with rfl | rfl | rfl | rfl
            all_goals
              (repeat' (first
                                                            | (with_reducible refine br_d (fun _ => ?_) (fun _ => ?_))
                                                            | (with_reducible refine br_i (fun _ => ?_) (fun _ => ?_))
                                                            | ((with_reducible apply nd_next); (case hx => simp -dsimp [hlt, hrl, toDs, hq, partOf, hw, hw2, hb, h1, h2, h3, hll, hz]; first | done | with_reducible rfl); (case hid => simp -dsimp [hlt, hrl, toDs, hq, partOf, hw, hw2, hb, h1, h2, h3, hll, hz]; first | done | with_reducible rfl | exact ⟨rfl, rfl, rfl⟩ | exact ⟨rfl, rfl⟩); (case' h1 => intro _ _ _); (case' h0 => intro _))
                                                            | ((with_reducible apply nd_entry); (case hx => simp -dsimp [hlt, hrl, toDs, hq, partOf, hw, hw2, hb, h1, h2, h3, hll, hz]; first | done | with_reducible rfl); (case hid => simp -dsimp [hlt, hrl, toDs, hq, partOf, hw, hw2, hb, h1, h2, h3, hll, hz]; first | done | with_reducible rfl | exact ⟨rfl, rfl, rfl⟩ | exact ⟨rfl, rfl⟩))
                                                            | ((with_reducible apply nd_range); (case hx => simp -dsimp [hlt, hrl, toDs, hq, partOf, hw, hw2, hb, h1, h2, h3, hll, hz]; with_reducible rfl); (case hT => simp -dsimp [hlt, hrl, toDs, hq, partOf, hw, hw2, hb, h1, h2, h3, hll, hz]); (case hnd => assumption); (case hz => simp -dsimp [hlt, hrl, toDs, hq, partOf, hw, hw2, hb, h1, h2, h3, hll, hz]))
                                                            | (with_reducible refine dn_i follows_any (by kernel_rfl) ?_)
                                                            | (with_reducible exact done_eq rfl)
                                                            | (simp -dsimp [hlt, hrl, toDs, hq, partOf, hw, hw2, hb, h1, h2, h3, hll, hz]))); (all_goals try with_reducible refine done_eq ?_)
              refine go _ _ hq hz2 ?_
              exact Weak.same (by simp -dsimp) (by simp -dsimp) (by first | rfl | (simp [closedSt, Av.ids, Ow.ids, Cl.ids, Go.Smd.keys]; done))
      · have h1 : ¬ (i : Int) + 1 < p.length := by omega
        have e1 : p.take (i + 1) = p := List.take_of_length_le (by omega)
        have e2 : R = p.map leD := by rw [hR, List.take_of_length_le (by simp; omega)]
        rw [e1] at hall
        rw [e2]
        have hne : p.map leD ≠ [] := fun e => by have := congrArg List.length e; simp at this; subst this; simp at hi
        rcases hid with rfl | rfl | rfl | rfl
        all_goals
          (repeat' (first
                                                            | (with_reducible refine br_d (fun _ => ?_) (fun _ => ?_))
                                                            | (with_reducible refine br_i (fun _ => ?_) (fun _ => ?_))
                                                            | ((with_reducible apply nd_next); (case hx => simp -dsimp [h1]; first | done | with_reducible rfl); (case hid => simp -dsimp [h1]; first | done | with_reducible rfl | exact ⟨rfl, rfl, rfl⟩ | exact ⟨rfl, rfl⟩); (case' h1 => intro _ _ _); (case' h0 => intro _))
                                                            | ((with_reducible apply nd_entry); (case hx => simp -dsimp [h1]; first | done | with_reducible rfl); (case hid => simp -dsimp [h1]; first | done | with_reducible rfl | exact ⟨rfl, rfl, rfl⟩ | exact ⟨rfl, rfl⟩))
                                                            | ((with_reducible apply nd_range); (case hx => simp -dsimp [h1]; with_reducible rfl); (case hT => simp -dsimp [h1]); (case hnd => assumption); (case hz => simp -dsimp [h1]))
                                                            | (with_reducible refine dn_i follows_any (by kernel_rfl) ?_)
                                                            | (with_reducible exact done_eq rfl)
                                                            | (simp -dsimp [h1]))); (all_goals try with_reducible refine done_eq ?_)
          refine done_of ?_
          rw [if_pos hall, oSl_pos hne]
end Go.Smd
end
