/- Part 30 of the proof: Jh Ji Fa Meth Ident Pa. -/
import Derived.Test.YtannholebjdckaaGreatQS29
import Derived.Test.YtannholebjdckaaGreatQS20
import Derived.Test.YtannholebjdckaaGreatQS01
import Derived.Laws.Externs
import Derived.Test.YtannholebjdckaaGreatQS24
set_option linter.unusedVariables false
section
set_option linter.unusedSimpArgs false
set_option maxRecDepth 100000
set_option maxHeartbeats 8000000
namespace Go.Smd
open Go.RowKit Go.Proofs
theorem occ_set {v : Value} {F : List Nat} {t : ST} {xs : List Cl} {b : Nat} : occ v (.clo (.set F t) xs) b ↔ bk v = some b ∨ b ∈ F := by simp [occ, Ow.fp, Hd.fp]
theorem setInsert_p (s : PS) (F : List Nat) (N : Nat) (p : List EV) (ok : OkS N s) (hN : (N + 1) * 40 ≤ 140737488351232) (hp : ∀ e ∈ p, GoodE e) :
    AProc Tryz.prog 109 [.c (.fn 1000000000), .c (.d (dLPath (p.map toLE)))] [(1000000000, .clo (.set F (stP s)) [])]
      (fun r own' => ∃ F', True ∧ r = .tup [] ∧ own' = [(1000000000, .clo (.set F' (stP (s.ins p))) [])]) := by
  refine ⟨⟨_, Tryz.func109, by kernel_rfl, rfl⟩, fun w E β vs sm ha => ?_⟩
  obtain ⟨v, _, rfl, a1, ha⟩ := ha.inv
  obtain ⟨pv, _, rfl, a2, ha⟩ := ha.inv
  cases ha.inv0
  obtain ⟨σ, hσ⟩ : ∃ σ : St, σ = ⟨[], [(1000000000, .clo (.set F (stP s)) [])]⟩ := ⟨_, rfl⟩
  have q0 : σ.h 1000000000 = some (.clo (.set F (stP s)) []) := by rw [hσ]; rfl
  have qn : ∀ i o, σ.h i = some o → i = 1000000000 ∧ o = .clo (.set F (stP s)) [] := fun i o h => by
    rw [hσ] at h
    simp only [St.h, look] at h
    split at h
    · next e => cases h; exact ⟨e.symm, rfl⟩
    · cases h
  have eo : look [((1000000000 : Nat), Ow.clo (.set F (stP s)) [])] = σ.h := by rw [hσ]; rfl
  rw [eo] at a1 a2
  rw [← hσ] at sm
  obtain ⟨_, _, h1, h2, _⟩ := a1
  obtain ⟨us, ⟨rfl, b, hv, hS⟩, hus⟩ := sm.own _ _ q0
  rw [h2, hv]
  have hdis : ∀ x, Sd w E β σ.h w x → x < w.heap.size ∧ x ∉ F := fun x hx => ⟨hx.2.1, fun hF => hx.2.2 _ _ q0 (occ_set.2 (.inr hF))⟩
  refine (setInsert_raw p hS hdis ok hN hp pv a2).mono ?_
  rintro en w' ⟨rfl, F', S', k1, k2, k3, k4, k5, k6⟩
  have hbF : b ∈ F' := HasS.mem k1
  have occF : ∀ x, x ∈ F → occ (β 1000000000) (.clo (.set F (stP s)) []) x := fun x hx => occ_set.2 (.inr hx)
  have hnk : ∀ x, x ∈ F → ¬ E.K x := fun x hx => (sm.new _ _ x q0 (occF x hx)).1
  obtain ⟨s1, _⟩ := sm.writeX (id := 1000000000) (o' := .clo (.set F' (stP (s.ins p))) []) (v' := β 1000000000) (fun h => by rw [q0] at h; cases h) (fun f xs h => ⟨⟨_, _, rfl⟩, rfl⟩) (k6.mono fun x hx => ⟨_, q0, occF x hx⟩)
    (fun x hx => by
      rcases occ_set.1 hx with h | h
      · exact .inl ⟨_, q0, occ_set.2 (.inl h)⟩
      · rcases k5 x h with h5 | h5
        · exact .inl ⟨_, q0, occF x h5⟩
        · exact .inr ⟨h5, HasS.blocks _ k1 x h⟩)
    (fun xs T h => by rw [q0] at h; cases h) (fun ver E2 xs h => by rw [q0] at h; cases h)
    fun hSS _ => by
      refine ⟨[], ⟨rfl, b, hv, HasS.frame _ k1 (fun _ _ => rfl) (fun _ _ => rfl) fun x hx => ?_⟩, .nil⟩
      have k4x := k4 x hx
      refine ⟨?_, k4x.1, fun i o hi ho => ?_⟩
      · rcases k3 x hx with h | h | h
        · exact h.1
        · exact .inr (hnk x h)
        · exact .inr fun hk => by have h1 := sm.hK x hk; have h2 := sm.ext.size; omega
      · rw [new_h] at hi
        by_cases e : i = 1000000000
        · subst e
          simp only [if_true] at hi ho
          cases hi
          rcases occ_set.1 ho with h | h
          · rw [hv] at h
            have : x = b := by simpa [bk] using h.symm
            exact k4x.2 (this ▸ hbF)
          · exact k4x.2 h
        · simp only [e, if_false] at hi
          exact e (qn i o hi).1
  have eh : (σ.new 1000000000 (.clo (.set F' (stP (s.ins p))) [])).h = look [((1000000000 : Nat), Ow.clo (.set F' (stP (s.ins p))) [])] := by
    rw [new_h]
    funext j
    show (if j = 1000000000 then _ else σ.h j) = (if 1000000000 = j then _ else none)
    by_cases e : j = 1000000000
    · rw [if_pos e, if_pos e.symm]
    · rw [if_neg e, if_neg (Ne.symm e), hσ]
      exact if_neg (Ne.symm e)
  refine ⟨_, .tup [], _, _, rfl, ⟨F', trivial, rfl, rfl⟩, Sim.eqv (σ := σ.new 1000000000 (.clo (.set F' (stP (s.ins p))) [])) ⟨fun _ => ?_, eh⟩ s1, ⟨[], rfl, .nil⟩⟩
  rw [hσ]; rfl
theorem newSet_q : AProc Tryz.prog 108 [.c (.d (.sl 146 []))] [] (fun r own' => r = .c (.own 7 0) ∧ own' = [(7, .cells [.d (.v (.slice none 0 0)), .d (.v (.slice none 0 0))] tSet)]) := by
  refine aproc_ex [] Tryz.func108 (by kernel_rfl) rfl Tryz.ntmps108 Tryz.results108 (Nat.le_of_ble_eq_true (by kernel_rfl)) ?_; intro hok w0 S0
  (repeat' (first | (with_reducible refine br_d (fun _ => ?_) (fun _ => ?_)) | (with_reducible refine br_i (fun _ => ?_) (fun _ => ?_)) | (with_reducible refine dn_i follows_any (by kernel_rfl) ?_) | (with_reducible exact done_eq rfl) | (simp -dsimp))); (all_goals try with_reducible refine done_eq ?_)
  refine ex_loop (fun _ : Unit => ⟨[(3, .c (.own 7 0)), (8, .c (.d (.sl 146 []))), (9, aI 0), (10, aI 0)], [(7, .cells [.d (.v (.slice none 0 0)), .d (.v (.slice none 0 0))] tSet)]⟩) (fun _ => True) (fun _ => 0) () ?_ trivial ?_
  · exact Weak.same (by simp -dsimp) (by simp -dsimp) (by first | rfl | (simp [closedSt, Av.ids, Ow.ids, Cl.ids, Go.Smd.keys]; done))
  · rintro _ _ K hK
    (repeat' (first | (with_reducible refine br_d (fun _ => ?_) (fun _ => ?_)) | (with_reducible refine br_i (fun _ => ?_) (fun _ => ?_)) | (with_reducible refine dn_i follows_any (by kernel_rfl) ?_) | (with_reducible exact done_eq rfl) | (simp -dsimp))); (all_goals try with_reducible refine done_eq ?_)
    exact ⟨rfl, rfl⟩
theorem newSet_p : AProc Tryz.prog 108 [.c (.d (.sl 146 []))] [] (fun r own' => ∃ F, True ∧ r = .c (.fn 7) ∧ own' = [(7, .clo (.set F (stP .empty)) [])]) := by
  refine ⟨newSet_q.1, fun w E β vs s ha => (newSet_q.2 w E β vs s ha).mono ?_⟩
  rintro en w' ⟨v, r, β', own', rfl, ⟨rfl, rfl⟩, s', hv⟩
  obtain ⟨_, _, b, _, h2, h3⟩ := hv
  obtain ⟨b', us, e1, e2, e3⟩ := s'.own 7 (.cells [.d (.v (.slice none 0 0)), .d (.v (.slice none 0 0))] tSet) rfl
  rw [h2] at e1
  cases e1
  obtain ⟨u1, us1, rfl, r1, e3⟩ := e3.inv
  obtain ⟨u2, us2, rfl, r2, e3⟩ := e3.inv
  cases e3.inv0
  cases (show RepD _ w' _ (.v (.slice none 0 0)) u1 from r1)
  cases (show RepD _ w' _ (.v (.slice none 0 0)) u2 from r2)
  have q2 : ∀ i o, look [((7 : Nat), Ow.clo (.set [b] (stP .empty)) [])] i = some o → i = 7 ∧ o = .clo (.set [b] (stP .empty)) [] := fun i o h => by
    simp only [look] at h
    split at h
    · next e => cases h; exact ⟨e.symm, rfl⟩
    · cases h
  have hb := s'.new 7 _ b rfl (occ_cells.2 (by rw [h2]; rfl))
  refine ⟨v, .c (.fn 7), β', [(7, .clo (.set [b] (stP .empty)) [])], rfl, ⟨[b], trivial, rfl, rfl⟩, ⟨s'.ext, s'.hK, fun i o0 hi0 => ⟨(s'.kept i o0 hi0).1, fun o ho => ?_⟩, fun i j oi oj x hi hj _ _ => (q2 i oi hi).1.trans (q2 j oj hj).1.symm, fun i o x hi ho => ?_, fun i o hi => ?_, fun t => trivial, rfl, fun d hd => by simp [act0] at hd⟩, ⟨_, _, rfl, by rw [h3, h2], by rw [h3]; rfl⟩⟩
  · have := (q2 i o ho).1
    have hz := (s'.kept i o0 hi0).1
    unfold zed at hz
    omega
  · obtain ⟨rfl, rfl⟩ := q2 i o hi
    rcases occ_set.1 ho with h | h
    · rw [h2] at h
      have : x = b := by simpa [bk] using h.symm
      rw [this]; exact hb
    · have : x = b := by simpa using h
      rw [this]; exact hb
  · obtain ⟨rfl, rfl⟩ := q2 i o hi
    refine ⟨[], ⟨rfl, b, h2, ?_⟩, .nil⟩
    simp only [PS.empty, stP, skP, List.map_nil, HasS]
    refine ⟨.slice none 0 0, .slice none 0 0, tSet, [], [], e2, Build.nil, Build.nil, ⟨rfl, rfl⟩, by simp [Value.ownBlock], by simp, ?_, ?_⟩ <;> simp [rowOk, rowsK]
abbrev dLP (p : List EV) : D := dLPath (p.map toLE)
theorem toPath_e (p : List EV) (hl : p.length * 168 ≤ 140737488351232) (hp : ∀ e ∈ p, GoodE e) : ACalls Tryz.prog 105 [.c (.d (dPath p))] (fun r => r = .c (.d (dLP p))) := toPath_a p hl fun e he => (hp e he).s
theorem toSet_a (l : List (List EV)) (hl : l.length ≤ 2147483647) (hp : ∀ p ∈ l, p.length * 168 ≤ 140737488351232 ∧ ∀ e ∈ p, GoodE e) : ACalls Tryz.prog 54 [.c (.d (dPaths l))] (fun r => r = .c (.d (.pt (psD (mkP l))))) := by
  have b1 : l.length ≤ 9223372036854775807 := by omega
  refine acalls_ex [] Tryz.func54 (by kernel_rfl) rfl Tryz.ntmps54 Tryz.results54 (Nat.le_of_ble_eq_true (by kernel_rfl)) ?_; intro hok w0 S0
  clear hok
  (repeat' (first | (with_reducible refine br_d (fun _ => ?_) (fun _ => ?_)) | (with_reducible refine br_i (fun _ => ?_) (fun _ => ?_)) | ((with_reducible apply nd_qx (ρ := []) 7 (newSet_p)); (case hc => simp -dsimp [b1] <;> first | exact ⟨rfl, rfl, rfl⟩ | exact ⟨rfl, rfl⟩ | done); (case hx => simp -dsimp [b1] <;> with_reducible rfl); (case ho => simp -dsimp [b1]); (case hh => simp -dsimp [b1]); (case hb => intro x hx; simp -dsimp [b1]); intro _ _) | (with_reducible refine dn_i follows_any (by kernel_rfl) ?_) | (with_reducible exact done_eq rfl) | (simp -dsimp [b1]))); (all_goals try with_reducible refine done_eq ?_)
  rename_i F0 _
  refine ex_loop (fun x : Nat × List Nat => ⟨[(3, .c (.fn 8007)), (7, .c (.d (dPaths l))), (8, aI l.length), (9, aI x.1)], [(8007, .clo (.set x.2 (stP (mkP (l.take x.1)))) [])]⟩) (fun x => x.1 ≤ l.length) (fun x => l.length - x.1) (0, F0) ?_ (Nat.zero_le _) ?_
  · exact Weak.same (by simp -dsimp) (by simp -dsimp) (by first | rfl | (simp [closedSt, Av.ids, Ow.ids, Cl.ids, Go.Smd.keys]; done))
  · rintro ⟨i, F⟩ hi K hK
    have hi : i ≤ l.length := hi
    by_cases hlt : i < l.length
    · have hw : IntKind.wrap .i64 ((i : Int) + 1) = ((i + 1 : Nat) : Int) := by rw [wrap_i64] <;> omega
      have hq := hp _ (List.getElem_mem hlt)
      have hc := toPath_e l[i] hq.1 hq.2
      have ht : ∀ p ∈ l.take i, ∀ e ∈ p, GoodE e := fun p hm => (hp p (List.mem_of_mem_take hm)).2
      have hok := mkP_ok _ _ rfl ht
      have hln : (l.take i).length = i := by rw [List.length_take]; omega
      rw [hln] at hok
      have hnx : mkP (l.take (i + 1)) = (mkP (l.take i)).ins l[i] := by rw [List.take_succ_eq_append_getElem hlt, mkP_snoc]
      have hins := setInsert_p (mkP (l.take i)) F i l[i] hok (by omega) hq.2
      rw [← hnx] at hins
      (repeat' (first | (with_reducible refine br_d (fun _ => ?_) (fun _ => ?_)) | (with_reducible refine br_i (fun _ => ?_) (fun _ => ?_)) | (with_reducible refine nd_v (hc) (by first | rfl | (simp -dsimp [b1, hlt, hw]; done)) ?_) | (with_reducible refine nw_v (hc) rfl (by first | rfl | (simp -dsimp [b1, hlt, hw]; done)) (by first | rfl | (simp -dsimp [b1, hlt, hw]; done)) ?_) | ((with_reducible apply nd_qx (ρ := [(1000000000, 8007)]) 7 (hins)); (case hc => simp -dsimp [b1, hlt, hw] <;> first | exact ⟨rfl, rfl, rfl⟩ | exact ⟨rfl, rfl⟩ | done); (case hx => simp -dsimp [b1, hlt, hw] <;> with_reducible rfl); (case ho => simp -dsimp [b1, hlt, hw]); (case hh => simp -dsimp [b1, hlt, hw]); (case hb => intro x hx; simp -dsimp [b1, hlt, hw]); intro _ _) | (with_reducible refine dn_i follows_any (by kernel_rfl) ?_) | (with_reducible exact done_eq rfl) | (simp -dsimp [b1, hlt, hw]))); (all_goals try with_reducible refine done_eq ?_)
      rename_i F' _
      refine hK _ (i + 1, F') ?_ (by show i + 1 ≤ _; omega) (by show l.length - (i + 1) < _; omega)
      exact Weak.same (by simp -dsimp) (by simp -dsimp) (by first | rfl | (simp [closedSt, Av.ids, Ow.ids, Cl.ids, Go.Smd.keys]; done))
    · have hi2 : i = l.length := by omega
      subst hi2
      rw [List.take_of_length_le (Nat.le_refl _)]
      (repeat' (first | (with_reducible refine br_d (fun _ => ?_) (fun _ => ?_)) | (with_reducible refine br_i (fun _ => ?_) (fun _ => ?_)) | (with_reducible refine dn_i follows_any (by kernel_rfl) ?_) | (with_reducible exact done_eq rfl) | (simp -dsimp [b1]))); (all_goals try with_reducible refine done_eq ?_)
end Go.Smd
end
section
set_option linter.unusedSimpArgs false
set_option maxRecDepth 100000
set_option maxHeartbeats 8000000
namespace Go.Smd
open Go.RowKit Go.Proofs
theorem ACalls.args {P : Program} {f : FuncId} {args args' : List Av} {R : Av → Prop} (h : ACalls P f args R) (k : ∀ (w : World) (S : Nat → Prop) (vs : List Value), All2 (RepA P S noB noH w) args' vs → All2 (RepA P S noB noH w) args vs) : ACalls P f args' R :=
  ⟨h.1, fun w S vs hS ha => h.2 w S vs hS (k w S vs ha)⟩
theorem RepD.pre {P : Program} {w : World} {S : Nat → Prop} {xs ys : List D} {v : Value} (h : RepD P w S (.pt (xs ++ ys)) v) : RepD P w S (.pt xs) v := by
  obtain ⟨a, rfl, hr⟩ := RepD.pt_iff.1 h
  exact RepD.pt_iff.2 ⟨a, rfl, fun i d hi => hr i d (by rw [List.getElem?_append_left (List.getElem?_eq_some_iff.1 hi).1]; exact hi)⟩
theorem ACalls.pre1 {P : Program} {f : FuncId} {xs ys : List D} {R : Av → Prop} (h : ACalls P f [.c (.d (.pt xs))] R) : ACalls P f [.c (.d (.pt (xs ++ ys)))] R := h.args fun w S vs ha => by
  obtain ⟨v, vs, rfl, h1, ha⟩ := ha.inv
  cases ha.inv0
  exact .cons (RepD.pre (show RepD P w S _ v from h1)) .nil
theorem pkD_get : ∀ (k : PK) (i : Nat) (h : i < (pkD k).length) (h1 : i < k.es.length) (h2 : i < k.ss.length), (pkD k)[i] = eD k.es[i] ++ [.pt (psD k.ss[i])]
  | .nil, i, h, _, _ => by rw [pkD_nil] at h; simp at h
  | .cons e s r, 0, h, _, _ => by simp only [pkD_cons, List.getElem_cons_zero, PK.es, PK.ss]
  | .cons e s r, i + 1, h, h1, h2 => by
    simp only [pkD_cons, List.getElem_cons_succ, PK.es, PK.ss]
    exact pkD_get r i (by rw [pkD_cons] at h; simpa using h) (by simpa [PK.es] using h1) (by simpa [PK.ss] using h2)
theorem node_cells (k : PK) (i : Nat) (h : i < (pkD k).length) (h1 : i < k.es.length) (h2 : i < k.ss.length) : ∃ e0 e1 e2 e3 A B, (pkD k)[i] = [e0, e1, e2, e3, .pt [.sl tPE A, .sl tSN B]] ∧ eD k.es[i] = [e0, e1, e2, e3] ∧ leA (toLE k.es[i]) = .agg [.d e0, .d e1, .d e2, .d e3] ∧ psD k.ss[i] = [.sl tPE A, .sl tSN B] ∧ A = (k.ss[i]).ms.map eD ∧ B = pkD (k.ss[i]).ks := by
  obtain ⟨e0, e1, e2, e3, he, he'⟩ := leD_four (toLE k.es[i])
  have hp : psD k.ss[i] = [.sl tPE ((k.ss[i]).ms.map eD), .sl tSN (pkD (k.ss[i]).ks)] := by
    obtain ⟨ms, ks, hm⟩ : ∃ ms ks, k.ss[i] = .mk ms ks := by cases k.ss[i]; exact ⟨_, _, rfl⟩
    rw [hm, psD_mk]; rfl
  refine ⟨e0, e1, e2, e3, _, _, ?_, he, he', hp, rfl, rfl⟩
  rw [pkD_get k i h h1 h2, hp]
  show leD (toLE k.es[i]) ++ _ = _
  rw [he]; rfl
mutual
theorem ps_ind {Q : PS → Prop} (h : ∀ ms ks, (∀ s ∈ ks.ss, Q s) → Q (.mk ms ks)) : ∀ s : PS, Q s
  | .mk ms ks => h ms ks (pk_ind h ks)
theorem pk_ind {Q : PS → Prop} (h : ∀ ms ks, (∀ s ∈ ks.ss, Q s) → Q (.mk ms ks)) : ∀ k : PK, ∀ s ∈ k.ss, Q s
  | .nil, s, hs => by simp [PK.ss] at hs
  | .cons _ t r, s, hs => by
    have h1 := ps_ind h t
    have h2 := pk_ind h r
    simp only [PK.ss] at hs
    rcases List.mem_cons.1 hs with hs | hs
    · rw [hs]; exact h1
    · exact h2 s hs
end
mutual
def PS.size : PS → Nat
  | .mk ms ks => ms.length + ks.size
def PK.size : PK → Nat
  | .nil => 0
  | .cons _ s r => s.size + r.size
end
theorem PK.size_le : ∀ {k : PK}, ∀ s ∈ k.ss, s.size ≤ k.size
  | .nil, s, h => by simp [PK.ss] at h
  | .cons e t r, s, h => by
    have h2 := PK.size_le (k := r)
    simp only [PK.ss] at h
    simp only [PK.size]
    rcases List.mem_cons.1 h with h | h
    · rw [h]; omega
    · have := h2 s h; omega
theorem PK.size_sum : ∀ k : PK, k.size = (k.ss.map PS.size).sum
  | .nil => by simp only [PK.size, PK.ss, List.map_nil, List.sum_nil]
  | .cons e s r => by simp only [PK.size, PK.ss, List.map_cons, List.sum_cons, PK.size_sum r]
abbrev CSize (s : PS) : Prop := ACalls Tryz.prog 55 [.c (.d (.pt (psD s)))] (fun r => r = aI s.size)
theorem sum_take_succ {l : List Nat} {i : Nat} (h : i < l.length) : (l.take (i + 1)).sum = (l.take i).sum + l[i] := by
  rw [List.take_succ_eq_append_getElem h, List.sum_append]; simp
theorem sum_take_le (l : List Nat) (i : Nat) : (l.take i).sum ≤ l.sum := by
  have h := congrArg List.sum (List.take_append_drop i l)
  rw [List.sum_append] at h; omega
theorem kSize_a (k : PK) (hb : k.es.length ≤ 4000000000000) (hs : k.size ≤ 9223372036854775807) (h : ∀ s ∈ k.ss, CSize s) : ACalls Tryz.prog 110 [.c (.d (.pt [.sl tSN (pkD k)]))] (fun r => r = aI k.size) := by
  have hl := pkD_length k
  have hl2 := PK.ss_length k
  have b1 : (pkD k).length ≤ 9223372036854775807 := by omega
  rw [PK.size_sum] at hs ⊢
  refine acalls_ex [] Tryz.func110 (by kernel_rfl) rfl Tryz.ntmps110 Tryz.results110 (Nat.le_of_ble_eq_true (by kernel_rfl)) ?_; intro hok w0 S0
  clear hok
  (repeat' (first | (with_reducible refine br_d (fun _ => ?_) (fun _ => ?_)) | (with_reducible refine br_i (fun _ => ?_) (fun _ => ?_)) | (with_reducible refine dn_i follows_any (by kernel_rfl) ?_) | (with_reducible exact done_eq rfl) | (simp -dsimp [b1]))); (all_goals try with_reducible refine done_eq ?_)
  refine ex_loop (fun i : Nat => ⟨[(3, aI ((k.ss.map PS.size).take i).sum), (9, .c (.d (.sl tSN (pkD k)))), (10, aI (pkD k).length), (11, aI i)], []⟩) (fun i => i ≤ (pkD k).length) (fun i => (pkD k).length - i) 0 ?_ (Nat.zero_le _) ?_
  · exact Weak.same (by simp -dsimp) (by simp -dsimp) (by first | rfl | (simp [closedSt, Av.ids, Ow.ids, Cl.ids, Go.Smd.keys]; done))
  · rintro i hi K hK
    by_cases hlt : i < (pkD k).length
    · have hw : IntKind.wrap .i64 ((i : Int) + 1) = ((i + 1 : Nat) : Int) := by rw [wrap_i64] <;> omega
      have h1 : i < k.es.length := by omega
      have h2 : i < k.ss.length := by omega
      obtain ⟨e0, e1, e2, e3, A, B, hn, _, _, hp, _, _⟩ := node_cells k i hlt h1 h2
      have hc := h _ (List.getElem_mem h2)
      unfold CSize at hc
      rw [hp] at hc
      have hsum := sum_take_succ (l := k.ss.map PS.size) (i := i) (by simpa using h2)
      rw [List.getElem_map] at hsum
      have hle := sum_take_le (k.ss.map PS.size) (i + 1)
      have hw2 : IntKind.wrap .i64 ((((k.ss.map PS.size).take i).sum : Int) + ((k.ss[i]).size : Int)) = ((((k.ss.map PS.size).take (i + 1)).sum : Nat) : Int) := by rw [wrap_i64] <;> omega
      generalize (k.ss[i]).size = z at hc hw2 hsum
      generalize ((k.ss.map PS.size).take i).sum = y at hw2 hsum ⊢
      (repeat' (first | (with_reducible refine br_d (fun _ => ?_) (fun _ => ?_)) | (with_reducible refine br_i (fun _ => ?_) (fun _ => ?_)) | (with_reducible refine nd_v (hc) (by first | rfl | (simp -dsimp [b1, hlt, hw, hn, hw2]; done)) ?_) | (with_reducible refine nw_v (hc) rfl (by first | rfl | (simp -dsimp [b1, hlt, hw, hn, hw2]; done)) (by first | rfl | (simp -dsimp [b1, hlt, hw, hn, hw2]; done)) ?_) | (with_reducible refine dn_i follows_any (by kernel_rfl) ?_) | (with_reducible exact done_eq rfl) | (simp -dsimp [b1, hlt, hw, hn, hw2]))); (all_goals try with_reducible refine done_eq ?_)
      refine hK _ (i + 1) ?_ (by omega) (by omega)
      exact Weak.same (by simp -dsimp) (by simp -dsimp) (by first | rfl | (simp [closedSt, Av.ids, Ow.ids, Cl.ids, Go.Smd.keys]; done))
    · have e : ((k.ss.map PS.size).take i).sum = (k.ss.map PS.size).sum := by rw [List.take_of_length_le (by simp; omega)]
      (repeat' (first | (with_reducible refine br_d (fun _ => ?_) (fun _ => ?_)) | (with_reducible refine br_i (fun _ => ?_) (fun _ => ?_)) | (with_reducible refine dn_i follows_any (by kernel_rfl) ?_) | (with_reducible exact done_eq rfl) | (simp -dsimp [hlt]))); (all_goals try with_reducible refine done_eq ?_)
      rw [e]
theorem psSize_s (N : Nat) (hN : N ≤ 4000000000) (ms : List EV) (ks : PK) (ok : OkS N (.mk ms ks)) (hs : (PS.mk ms ks).size ≤ 9223372036854775807) (h : ∀ s ∈ ks.ss, CSize s) : CSize (.mk ms ks) := by
  simp only [OkS] at ok
  unfold CSize
  simp only [PS.size] at hs ⊢
  have c1 := ACalls.pre1 (ys := [.sl tSN (pkD ks)]) (esSize_a (ms.map toLE) (by simp; omega))
  have c2 := kSize_a ks (by omega) (by omega) h
  have e1 : dLPath (ms.map toLE) = .sl tPE (ms.map eD) := by simp only [dLPath, List.map_map]; rfl
  rw [e1, List.length_map] at c1
  simp only [List.cons_append, List.nil_append] at c1
  have hw : IntKind.wrap .i64 ((ms.length : Int) + (ks.size : Int)) = ((ms.length + ks.size : Nat) : Int) := by rw [wrap_i64] <;> omega
  rw [psD_mk]
  refine acalls_ex [(1, ([7], [(0, []), (1, []), (2, []), (4, []), (5, []), (6, []), (3, []), (7, []), (8, []), (9, [])]))] Tryz.func55 (by kernel_rfl) rfl Tryz.ntmps55 Tryz.results55 (Nat.le_of_ble_eq_true (by kernel_rfl)) ?_; intro hok w0 S0
  clear hok
  (repeat' (first | (with_reducible refine br_d (fun _ => ?_) (fun _ => ?_)) | (with_reducible refine br_i (fun _ => ?_) (fun _ => ?_)) | (with_reducible refine nd_v (c1) (by first | rfl | (simp -dsimp [hw]; done)) ?_) | (with_reducible refine nw_v (c1) rfl (by first | rfl | (simp -dsimp [hw]; done)) (by first | rfl | (simp -dsimp [hw]; done)) ?_) | (with_reducible refine nd_v (c2) (by first | rfl | (simp -dsimp [hw]; done)) ?_) | (with_reducible refine nw_v (c2) rfl (by first | rfl | (simp -dsimp [hw]; done)) (by first | rfl | (simp -dsimp [hw]; done)) ?_) | (with_reducible refine dn_i follows_any (by kernel_rfl) ?_) | (with_reducible exact done_eq rfl) | (simp -dsimp [hw]))); (all_goals try with_reducible refine done_eq ?_)
theorem psSize_a (N : Nat) (hN : N ≤ 4000000000) : ∀ s : PS, OkS N s → s.size ≤ 9223372036854775807 → CSize s :=
  ps_ind fun ms ks ih ok hs => psSize_s N hN ms ks ok hs fun s h => ih s h (by simp only [OkS] at ok; exact ok.2.2.2.2.2.2.all s h) (by have := PK.size_le s h; simp only [PS.size] at hs; omega)
mutual
def PS.none : PS → Bool
  | .mk ms ks => ms.isEmpty && ks.none
def PK.none : PK → Bool
  | .nil => true
  | .cons _ s r => s.none && r.none
end
mutual
theorem PS.none_iff : ∀ s : PS, s.none = true ↔ s.size = 0
  | .mk ms ks => by
    simp only [PS.none, PS.size, Bool.and_eq_true, PK.none_iff ks, List.isEmpty_iff]
    constructor
    · rintro ⟨rfl, h⟩; simp [h]
    · intro h; exact ⟨List.eq_nil_of_length_eq_zero (by omega), by omega⟩
theorem PK.none_iff : ∀ k : PK, k.none = true ↔ k.size = 0
  | .nil => by simp only [PK.none, PK.size]
  | .cons e s r => by simp only [PK.none, PK.size, Bool.and_eq_true, PS.none_iff s, PK.none_iff r]; omega
end
theorem PK.none_all : ∀ k : PK, k.none = k.ss.all PS.none
  | .nil => by simp only [PK.none, PK.ss, List.all_nil]
  | .cons e s r => by simp only [PK.none, PK.ss, List.all_cons, PK.none_all r]
abbrev CEmpty (s : PS) : Prop := ACalls Tryz.prog 56 [.c (.d (.pt (psD s)))] (fun r => r = aV (.bool s.none))
theorem kEmpty_a (k : PK) (hb : k.es.length ≤ 4000000000000) (h : ∀ s ∈ k.ss, CEmpty s) : ACalls Tryz.prog 111 [.c (.d (.pt [.sl tSN (pkD k)]))] (fun r => r = aV (.bool k.none)) := by
  have hl := pkD_length k
  have hl2 := PK.ss_length k
  have b1 : (pkD k).length ≤ 9223372036854775807 := by omega
  rw [PK.none_all]
  refine acalls_ex [] Tryz.func111 (by kernel_rfl) rfl Tryz.ntmps111 Tryz.results111 (Nat.le_of_ble_eq_true (by kernel_rfl)) ?_; intro hok w0 S0
  clear hok
  (repeat' (first | (with_reducible refine br_d (fun _ => ?_) (fun _ => ?_)) | (with_reducible refine br_i (fun _ => ?_) (fun _ => ?_)) | (with_reducible refine dn_i follows_any (by kernel_rfl) ?_) | (with_reducible exact done_eq rfl) | (simp -dsimp [b1]))); (all_goals try with_reducible refine done_eq ?_)
  refine ex_loop (fun i : Nat => ⟨[(8, .c (.d (.sl tSN (pkD k)))), (9, aI (pkD k).length), (10, aI i)], []⟩) (fun i => i ≤ (pkD k).length ∧ ∀ (j : Nat) (h : j < k.ss.length), j < i → (k.ss[j]).none = true) (fun i => (pkD k).length - i) 0 ?_ ⟨Nat.zero_le _, fun j _ h => by omega⟩ ?_
  · exact Weak.same (by simp -dsimp) (by simp -dsimp) (by first | rfl | (simp [closedSt, Av.ids, Ow.ids, Cl.ids, Go.Smd.keys]; done))
  · rintro i ⟨hi, hall⟩ K hK
    by_cases hlt : i < (pkD k).length
    · have hw : IntKind.wrap .i64 ((i : Int) + 1) = ((i + 1 : Nat) : Int) := by rw [wrap_i64] <;> omega
      have h1 : i < k.es.length := by omega
      have h2 : i < k.ss.length := by omega
      obtain ⟨e0, e1, e2, e3, A, B, hn, _, _, hp, _, _⟩ := node_cells k i hlt h1 h2
      have hc := h _ (List.getElem_mem h2)
      unfold CEmpty at hc
      rw [hp] at hc
      cases hz : (k.ss[i]).none with
      | false =>
        rw [hz] at hc
        have hf : k.ss.all PS.none = false := by
          rw [← Bool.not_eq_true, List.all_eq_true]
          intro h0
          have := h0 _ (List.getElem_mem h2)
          rw [hz] at this; cases this
        (repeat' (first | (with_reducible refine br_d (fun _ => ?_) (fun _ => ?_)) | (with_reducible refine br_i (fun _ => ?_) (fun _ => ?_)) | (with_reducible refine nd_v (hc) (by first | rfl | (simp -dsimp [b1, hlt, hw, hn]; done)) ?_) | (with_reducible refine nw_v (hc) rfl (by first | rfl | (simp -dsimp [b1, hlt, hw, hn]; done)) (by first | rfl | (simp -dsimp [b1, hlt, hw, hn]; done)) ?_) | (with_reducible refine dn_i follows_any (by kernel_rfl) ?_) | (with_reducible exact done_eq rfl) | (simp -dsimp [b1, hlt, hw, hn]))); (all_goals try with_reducible refine done_eq ?_)
        rw [hf]
      | true =>
        rw [hz] at hc
        (repeat' (first | (with_reducible refine br_d (fun _ => ?_) (fun _ => ?_)) | (with_reducible refine br_i (fun _ => ?_) (fun _ => ?_)) | (with_reducible refine nd_v (hc) (by first | rfl | (simp -dsimp [b1, hlt, hw, hn]; done)) ?_) | (with_reducible refine nw_v (hc) rfl (by first | rfl | (simp -dsimp [b1, hlt, hw, hn]; done)) (by first | rfl | (simp -dsimp [b1, hlt, hw, hn]; done)) ?_) | (with_reducible refine dn_i follows_any (by kernel_rfl) ?_) | (with_reducible exact done_eq rfl) | (simp -dsimp [b1, hlt, hw, hn]))); (all_goals try with_reducible refine done_eq ?_)
        refine hK _ (i + 1) ?_ ⟨by omega, fun j hj hji => ?_⟩ (by omega)
        · exact Weak.same (by simp -dsimp) (by simp -dsimp) (by first | rfl | (simp [closedSt, Av.ids, Ow.ids, Cl.ids, Go.Smd.keys]; done))
        · by_cases e : j = i
          · subst e; exact hz
          · exact hall j hj (by omega)
    · have e : k.ss.all PS.none = true := List.all_eq_true.2 fun s hs => by
        obtain ⟨j, hj, rfl⟩ := List.getElem_of_mem hs
        exact hall j hj (by omega)
      (repeat' (first | (with_reducible refine br_d (fun _ => ?_) (fun _ => ?_)) | (with_reducible refine br_i (fun _ => ?_) (fun _ => ?_)) | (with_reducible refine dn_i follows_any (by kernel_rfl) ?_) | (with_reducible exact done_eq rfl) | (simp -dsimp [hlt]))); (all_goals try with_reducible refine done_eq ?_)
      rw [e]
theorem psEmpty_s (N : Nat) (hN : N ≤ 4000000000) (ms : List EV) (ks : PK) (ok : OkS N (.mk ms ks)) (h : ∀ s ∈ ks.ss, CEmpty s) : CEmpty (.mk ms ks) := by
  simp only [OkS] at ok
  unfold CEmpty
  simp only [PS.none]
  have c1 := ACalls.pre1 (ys := [.sl tSN (pkD ks)]) (esSize_a (ms.map toLE) (by simp; omega))
  have c2 := kEmpty_a ks (by omega) h
  have e1 : dLPath (ms.map toLE) = .sl tPE (ms.map eD) := by simp only [dLPath, List.map_map]; rfl
  rw [e1, List.length_map] at c1
  simp only [List.cons_append, List.nil_append] at c1
  rw [psD_mk]
  have hq : ms.isEmpty = decide (ms.length = 0) := by cases ms <;> simp
  rw [hq]
  generalize ms.map eD = MS at c1 ⊢
  generalize ms.length = z at c1 ⊢
  by_cases hz : 0 < z
  · have hd : decide (z = 0) = false := by simp; omega
    rw [hd]
    refine acalls_ex [] Tryz.func56 (by kernel_rfl) rfl Tryz.ntmps56 Tryz.results56 (Nat.le_of_ble_eq_true (by kernel_rfl)) ?_; intro hok w0 S0
    clear hok
    (repeat' (first | (with_reducible refine br_d (fun _ => ?_) (fun _ => ?_)) | (with_reducible refine br_i (fun _ => ?_) (fun _ => ?_)) | (with_reducible refine nd_v (c1) (by first | rfl | (simp -dsimp [hz]; done)) ?_) | (with_reducible refine nw_v (c1) rfl (by first | rfl | (simp -dsimp [hz]; done)) (by first | rfl | (simp -dsimp [hz]; done)) ?_) | (with_reducible refine dn_i follows_any (by kernel_rfl) ?_) | (with_reducible exact done_eq rfl) | (simp -dsimp [hz]))); (all_goals try with_reducible refine done_eq ?_)
  · have hd : decide (z = 0) = true := by simp; omega
    rw [hd]
    refine acalls_ex [] Tryz.func56 (by kernel_rfl) rfl Tryz.ntmps56 Tryz.results56 (Nat.le_of_ble_eq_true (by kernel_rfl)) ?_; intro hok w0 S0
    clear hok
    (repeat' (first | (with_reducible refine br_d (fun _ => ?_) (fun _ => ?_)) | (with_reducible refine br_i (fun _ => ?_) (fun _ => ?_)) | (with_reducible refine nd_v (c1) (by first | rfl | (simp -dsimp [hz]; done)) ?_) | (with_reducible refine nw_v (c1) rfl (by first | rfl | (simp -dsimp [hz]; done)) (by first | rfl | (simp -dsimp [hz]; done)) ?_) | (with_reducible refine nd_v (c2) (by first | rfl | (simp -dsimp [hz]; done)) ?_) | (with_reducible refine nw_v (c2) rfl (by first | rfl | (simp -dsimp [hz]; done)) (by first | rfl | (simp -dsimp [hz]; done)) ?_) | (with_reducible refine dn_i follows_any (by kernel_rfl) ?_) | (with_reducible exact done_eq rfl) | (simp -dsimp [hz]))); (all_goals try with_reducible refine done_eq ?_)
theorem psEmpty_a (N : Nat) (hN : N ≤ 4000000000) : ∀ s : PS, OkS N s → CEmpty s :=
  ps_ind fun ms ks ih ok => psEmpty_s N hN ms ks ok fun s h => ih s h (by simp only [OkS] at ok; exact ok.2.2.2.2.2.2.all s h)
end Go.Smd
end
section
set_option linter.unusedSimpArgs false
set_option maxRecDepth 100000
set_option maxHeartbeats 8000000
namespace Go.Smd
open Go.RowKit Go.Proofs
def kd : GV → Int
  | .mk k _ _ _ _ _ => k
theorem ACalls.imp {P : Program} {f : FuncId} {args : List Av} {R R' : Av → Prop} (h : ACalls P f args R) (k : ∀ r, R r → ∃ r', AvLe P r r' ∧ R' r') : ACalls P f args R' :=
  ⟨h.1, fun w S vs hS ha => (h.2 w S vs hS ha).mono fun _ _ ⟨v, r, h1, h2, h3, h4⟩ => let ⟨r', le, h'⟩ := k r h2; ⟨v, r', h1, h', le _ _ _ _ _ h3, h4⟩⟩
theorem w1 : IntKind.wrap .i64 1 = 1 := by rw [wrap_i64] <;> omega
end Go.Smd
end
section
namespace Go.Smd
open Go.RowKit Go.Proofs
theorem wrapNil_some (ts : Array TypeId) (t : TypeId) (a : Addr) (s n : String) : Builtin.ssaWrapNilChk_ ts t #[.pointer (some a), strVal s, strVal n] = (pure (.pointer (some a)) : Sem Value) := rfl
theorem run_method_ptr {P : Program} {T E : TypeId} {f : Nat} {name : String} (hm : (((P.info? T).bind fun i => i.methods.find? (·.name == name)).map fun m => (m.path.toList, m.func)) = some ([], some (f, false)))
    (hu : P.underlying T = some (.pointer E)) (n : Nat) {a : Addr} {v : Value} {w : World} (hl : (loadVar E a).run P w = .ok v w) :
    (method (n + 1) T (.pointer (some a)) name).run P w = .ok (f, v) w := by
  obtain ⟨m, hm, hmm⟩ := Option.map_eq_some_iff.1 hm
  obtain ⟨i, hi, hf⟩ := Option.bind_eq_some_iff.1 hm
  simp only [Prod.mk.injEq] at hmm
  unfold method
  simp [typeInfo, hi, hf, hmm.2, follow, receiverAt, run_underlying hu, Place.get, hl, wrapNil_some, asAddr, show m.path = #[] from by simpa using hmm.1]
theorem run_loadV {a : Nat} {x : Value} {w : World} (h : w.cell? ⟨a, 0, none⟩ = some x) : (loadVar 267 ⟨a, 0, none⟩).run Tryz.prog w = .ok (.agg #[x]) w := by
  have h1 : (isAgg 267).run Tryz.prog w = .ok true w := by simp [isAgg, run_underlying Tryz.underlying267]
  simp [loadVar, h1, loadCells, loadCellsFrom, h, Addr.add, go_sem]
@[go_sem] theorem v_AsBool (n a : Nat) {x : Value} {w : World} (h : w.cell? ⟨a, 0, none⟩ = some x) : (method (n + 1) 221 (.pointer (some ⟨a, 0, none⟩)) "AsBool").run Tryz.prog w = .ok (254, .agg #[x]) w := run_method_ptr (by kernel_rfl) Tryz.underlying221 n (run_loadV h)
@[go_sem] theorem v_AsFloat (n a : Nat) {x : Value} {w : World} (h : w.cell? ⟨a, 0, none⟩ = some x) : (method (n + 1) 221 (.pointer (some ⟨a, 0, none⟩)) "AsFloat").run Tryz.prog w = .ok (255, .agg #[x]) w := run_method_ptr (by kernel_rfl) Tryz.underlying221 n (run_loadV h)
@[go_sem] theorem v_AsInt (n a : Nat) {x : Value} {w : World} (h : w.cell? ⟨a, 0, none⟩ = some x) : (method (n + 1) 221 (.pointer (some ⟨a, 0, none⟩)) "AsInt").run Tryz.prog w = .ok (256, .agg #[x]) w := run_method_ptr (by kernel_rfl) Tryz.underlying221 n (run_loadV h)
@[go_sem] theorem v_AsList (n a : Nat) {x : Value} {w : World} (h : w.cell? ⟨a, 0, none⟩ = some x) : (method (n + 1) 221 (.pointer (some ⟨a, 0, none⟩)) "AsList").run Tryz.prog w = .ok (257, .agg #[x]) w := run_method_ptr (by kernel_rfl) Tryz.underlying221 n (run_loadV h)
@[go_sem] theorem v_AsListUsing (n a : Nat) {x : Value} {w : World} (h : w.cell? ⟨a, 0, none⟩ = some x) : (method (n + 1) 221 (.pointer (some ⟨a, 0, none⟩)) "AsListUsing").run Tryz.prog w = .ok (258, .agg #[x]) w := run_method_ptr (by kernel_rfl) Tryz.underlying221 n (run_loadV h)
@[go_sem] theorem v_AsMap (n a : Nat) {x : Value} {w : World} (h : w.cell? ⟨a, 0, none⟩ = some x) : (method (n + 1) 221 (.pointer (some ⟨a, 0, none⟩)) "AsMap").run Tryz.prog w = .ok (259, .agg #[x]) w := run_method_ptr (by kernel_rfl) Tryz.underlying221 n (run_loadV h)
@[go_sem] theorem v_AsMapUsing (n a : Nat) {x : Value} {w : World} (h : w.cell? ⟨a, 0, none⟩ = some x) : (method (n + 1) 221 (.pointer (some ⟨a, 0, none⟩)) "AsMapUsing").run Tryz.prog w = .ok (260, .agg #[x]) w := run_method_ptr (by kernel_rfl) Tryz.underlying221 n (run_loadV h)
@[go_sem] theorem v_AsString (n a : Nat) {x : Value} {w : World} (h : w.cell? ⟨a, 0, none⟩ = some x) : (method (n + 1) 221 (.pointer (some ⟨a, 0, none⟩)) "AsString").run Tryz.prog w = .ok (261, .agg #[x]) w := run_method_ptr (by kernel_rfl) Tryz.underlying221 n (run_loadV h)
@[go_sem] theorem v_IsBool (n a : Nat) {x : Value} {w : World} (h : w.cell? ⟨a, 0, none⟩ = some x) : (method (n + 1) 221 (.pointer (some ⟨a, 0, none⟩)) "IsBool").run Tryz.prog w = .ok (262, .agg #[x]) w := run_method_ptr (by kernel_rfl) Tryz.underlying221 n (run_loadV h)
@[go_sem] theorem v_IsFloat (n a : Nat) {x : Value} {w : World} (h : w.cell? ⟨a, 0, none⟩ = some x) : (method (n + 1) 221 (.pointer (some ⟨a, 0, none⟩)) "IsFloat").run Tryz.prog w = .ok (263, .agg #[x]) w := run_method_ptr (by kernel_rfl) Tryz.underlying221 n (run_loadV h)
@[go_sem] theorem v_IsInt (n a : Nat) {x : Value} {w : World} (h : w.cell? ⟨a, 0, none⟩ = some x) : (method (n + 1) 221 (.pointer (some ⟨a, 0, none⟩)) "IsInt").run Tryz.prog w = .ok (264, .agg #[x]) w := run_method_ptr (by kernel_rfl) Tryz.underlying221 n (run_loadV h)
@[go_sem] theorem v_IsList (n a : Nat) {x : Value} {w : World} (h : w.cell? ⟨a, 0, none⟩ = some x) : (method (n + 1) 221 (.pointer (some ⟨a, 0, none⟩)) "IsList").run Tryz.prog w = .ok (265, .agg #[x]) w := run_method_ptr (by kernel_rfl) Tryz.underlying221 n (run_loadV h)
@[go_sem] theorem v_IsMap (n a : Nat) {x : Value} {w : World} (h : w.cell? ⟨a, 0, none⟩ = some x) : (method (n + 1) 221 (.pointer (some ⟨a, 0, none⟩)) "IsMap").run Tryz.prog w = .ok (266, .agg #[x]) w := run_method_ptr (by kernel_rfl) Tryz.underlying221 n (run_loadV h)
@[go_sem] theorem v_IsNull (n a : Nat) {x : Value} {w : World} (h : w.cell? ⟨a, 0, none⟩ = some x) : (method (n + 1) 221 (.pointer (some ⟨a, 0, none⟩)) "IsNull").run Tryz.prog w = .ok (267, .agg #[x]) w := run_method_ptr (by kernel_rfl) Tryz.underlying221 n (run_loadV h)
@[go_sem] theorem v_IsString (n a : Nat) {x : Value} {w : World} (h : w.cell? ⟨a, 0, none⟩ = some x) : (method (n + 1) 221 (.pointer (some ⟨a, 0, none⟩)) "IsString").run Tryz.prog w = .ok (268, .agg #[x]) w := run_method_ptr (by kernel_rfl) Tryz.underlying221 n (run_loadV h)
@[go_sem] theorem v_Unstructured (n a : Nat) {x : Value} {w : World} (h : w.cell? ⟨a, 0, none⟩ = some x) : (method (n + 1) 221 (.pointer (some ⟨a, 0, none⟩)) "Unstructured").run Tryz.prog w = .ok (269, .agg #[x]) w := run_method_ptr (by kernel_rfl) Tryz.underlying221 n (run_loadV h)
theorem run_len_map {P : Program} {t k e : TypeId} (ht : P.underlying t = some (.map k e)) (ty : TypeId) {r : Nat} {es : Array MapEntry} {clock : Nat} {w : World} (h : w.heap[r]? = some (.map es clock)) : (Builtin.len_ #[t] ty #[.map (some r)]).run P w = .ok (.int .i64 es.size) w := by
  simp [Builtin.len_, run_underlying ht, goInt, MapKept.run_getObj_map h, Result.andThen, go_sem]
@[go_sem] theorem run_len_mus (ty : TypeId) {r : Nat} {es : Array MapEntry} {clock : Nat} {w : World} (h : w.heap[r]? = some (.map es clock)) : (Builtin.len_ #[359] ty #[.map (some r)]).run Tryz.prog w = .ok (.int .i64 es.size) w := run_len_map Tryz.underlying359 ty h
@[go_sem] theorem run_len_msi (ty : TypeId) {r : Nat} {es : Array MapEntry} {clock : Nat} {w : World} (h : w.heap[r]? = some (.map es clock)) : (Builtin.len_ #[227] ty #[.map (some r)]).run Tryz.prog w = .ok (.int .i64 es.size) w := run_len_map Tryz.underlying227 ty h
theorem run_field1 {P : Program} {T : TypeId} {i off : Nat} (h : (match P.underlying T with | some (.struct fs) => (match fs[i]? with | some f => (match P.underlying f.type with | some (.struct _) => none | some (.array _ _) => none | some _ => some f.offset | none => none) | none => none) | _ => none) = some off) {cs : Array Value} {v : Value} (hv : cs[off]? = some v) (w : World) :
    (Instr.field T (.agg cs) i).run P w = .ok v w := by
  unfold Instr.field
  cases hu : P.underlying T with
  | none => simp [hu] at h
  | some d =>
    cases d with
    | struct fs =>
      simp only [hu] at h
      cases hf : fs[i]? with
      | none => simp [hf] at h
      | some f =>
        simp only [hf] at h
        cases hd : P.underlying f.type with
        | none => simp [hd] at h
        | some d2 =>
          have hag : (isAgg f.type).run P w = .ok false w ∧ f.offset = off := by
            simp only [hd] at h
            unfold isAgg
            rw [Sem.run_bind, run_underlying hd w]
            cases d2 <;> simp_all
          simp [Sem.run_bind, run_underlying hu, hf, part, asAgg, hag.1, hag.2, hv]
    | _ => simp [hu] at h
@[go_sem] theorem run_field_val0 (c0 c1 c2 c3 c4 c5 : Value) (w : World) : (Instr.field 31 (.agg #[c0, c1, c2, c3, c4, c5]) 0).run Tryz.prog w = .ok c0 w := run_field1 (off := 0) (by kernel_rfl) rfl w
@[go_sem] theorem run_field_val1 (c0 c1 c2 c3 c4 c5 : Value) (w : World) : (Instr.field 31 (.agg #[c0, c1, c2, c3, c4, c5]) 1).run Tryz.prog w = .ok c1 w := run_field1 (off := 1) (by kernel_rfl) rfl w
@[go_sem] theorem run_field_val2 (c0 c1 c2 c3 c4 c5 : Value) (w : World) : (Instr.field 31 (.agg #[c0, c1, c2, c3, c4, c5]) 2).run Tryz.prog w = .ok c2 w := run_field1 (off := 2) (by kernel_rfl) rfl w
@[go_sem] theorem run_field_val3 (c0 c1 c2 c3 c4 c5 : Value) (w : World) : (Instr.field 31 (.agg #[c0, c1, c2, c3, c4, c5]) 3).run Tryz.prog w = .ok c3 w := run_field1 (off := 3) (by kernel_rfl) rfl w
@[go_sem] theorem run_field_val4 (c0 c1 c2 c3 c4 c5 : Value) (w : World) : (Instr.field 31 (.agg #[c0, c1, c2, c3, c4, c5]) 4).run Tryz.prog w = .ok c4 w := run_field1 (off := 4) (by kernel_rfl) rfl w
@[go_sem] theorem run_field_val5 (c0 c1 c2 c3 c4 c5 : Value) (w : World) : (Instr.field 31 (.agg #[c0, c1, c2, c3, c4, c5]) 5).run Tryz.prog w = .ok c5 w := run_field1 (off := 5) (by kernel_rfl) rfl w
end Go.Smd
end
section
set_option linter.unusedSimpArgs false
namespace Go.Smd
open Go.RowKit Go.Proofs
open Go.Extern in
@[go_sem] theorem run_bits (f : Nat) (w : World) : (callFunc 123 #[.float .f64 f]).run Tryz.prog w = .ok (.value (.int .u64 f)) w := by
  rw [run_callFunc_extern Tryz.func123 (by kernel_rfl) (by kernel_rfl) (by kernel_rfl) (e := MathFloatBits.float64bits) (by kernel_rfl)]
  rfl
end Go.Smd
end
section
set_option linter.unusedSimpArgs false
set_option maxRecDepth 100000
set_option maxHeartbeats 8000000
namespace Go.Smd
open Go.RowKit Go.Proofs
def zGV : GV := .mk 0 0 0 ⟨#[]⟩ [] []
end Go.Smd
end
