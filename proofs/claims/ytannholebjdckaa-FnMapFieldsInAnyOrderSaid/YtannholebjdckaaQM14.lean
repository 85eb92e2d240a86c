/- Part 14 of the proof: Ar Mt Va. -/
import Derived.Test.YtannholebjdckaaQM12
import Derived.Test.YtannholebjdckaaQM13
import Derived.Test.YtannholebjdckaaQM11
import Derived.Test.YtannholebjdckaaQM10
import Derived.Test.YtannholebjdckaaQM09
set_option linter.unusedVariables false
section
set_option linter.unusedSimpArgs false
namespace Go.Smd
open Go.RowKit
section
variable {P : Program} {N : Nat} {w0 : World} {S0 : Env} {ops : Array Oper}
def Eff (P : Program) (N : Nat) (full base : List (Nat × Av)) (o : Oper) (own own' : List (Nat × Ow)) : Prop :=
  ∀ σ : St, σ.h = look own → (∀ x ∈ o.op.operands, σ.ev x = (St.mk (full ++ base) own).ev x) → (∀ t, σ.tmp t = valT full base t ∨ σ.tmp t = (look base t).getD .any) →
    ∀ K : St → Prop, (∀ σ' : St, σ'.h = look own' → (∀ t, σ'.tmp t = if o.dst = some t then valT full base t else σ.tmp t) → K σ') → execX P N σ o K
def stOk (P : Program) (N : Nat) (ops : Array Oper) (full base : List (Nat × Av)) (is cs : List Nat) : List Nat → List (Nat × Ow) → List (Nat × List (Nat × Ow)) → Prop
  | ps, own, [] => valsOk P ops full base own (fun i => cs.contains i || ps.any fun p => waits ops 64 p i) is
  | ps, own, (c, own') :: es => valsOk P ops full base own (fun i => cs.contains i || waits ops 64 i c || ps.any fun p => waits ops 64 p i) is ∧ (∃ o, nth ops.toList c = some o ∧ Eff P N full base o own own') ∧ stOk P N ops full base is cs (c :: ps) own' es
def lastO (own : List (Nat × Ow)) : List (Nat × List (Nat × Ow)) → List (Nat × Ow)
  | [] => own
  | (_, own') :: es => lastO own' es
def inOrder (ops : Array Oper) : List Nat → Bool
  | [] => true
  | c :: cs => cs.all (fun d => waits ops 64 d c && d != c) && inOrder ops cs
def dqOk (N : Nat) (ops : Array Oper) (cs is ks : List Nat) : Bool :=
  (List.range ops.size).all (fun i => match ops[i]? with
    | some o => o.guard.isNone && dstOk N o && (match o.dst with | some d => ks.contains d | none => cs.contains i) &&
      (o.looksAt ops).all (fun t => (List.range ops.size).all fun j => (match ops[j]? with | some oj => !(oj.dst == some t) || o.after.any (fun e => Region.binds .any e && e.on == j) | none => true))
    | none => false) &&
  ks.all (fun t => (List.range ops.size).any fun j => match ops[j]? with | some oj => oj.dst == some t | none => false) &&
  topo ops [] is && (List.range ops.size).all is.contains && cs.all (fun c => decide (c < ops.size)) && inOrder ops cs
structure DQ (N : Nat) (ops : Array Oper) (cs : List Nat) (full : List (Nat × Av)) : Prop where
  gd : ∀ (i : Nat) (o : Oper), ops[i]? = some o → o.guard = none
  dst : ∀ (i : Nat) (o : Oper), ops[i]? = some o → dstOk N o = true ∧ (i ∉ cs → ∃ d, o.dst = some d)
  dep : ∀ (i : Nat) (o : Oper), ops[i]? = some o → ∀ t ∈ o.looksAt ops, ∀ (j : Nat) (oj : Oper), ops[j]? = some oj → oj.dst = some t → ∃ e ∈ o.after, Region.binds .any e = true ∧ e.on = j
  key : ∀ t, (look full t).isSome = true → ∃ (j : Nat) (oj : Oper), ops[j]? = some oj ∧ oj.dst = some t
  lt : ∀ c ∈ cs, c < ops.size
structure AtQ (ops : Array Oper) (full base : List (Nat × Av)) (ps : List Nat) (own : List (Nat × Ow)) (rest : List Nat) (listed : Array Bool) (σ : St) : Prop where
  o : σ.h = look own
  pl : ∀ p ∈ ps, listed.getD p false = true
  rl : ∀ c ∈ rest, listed.getD c false = false
  t1 : ∀ (j : Nat) (oj : Oper) (t : Tmp), ops[j]? = some oj → oj.dst = some t → listed.getD j false = true → σ.tmp t = valT full base t
  t0 : ∀ t : Tmp, (∀ (j : Nat) (oj : Oper), ops[j]? = some oj → oj.dst = some t → listed.getD j false = false) → σ.tmp t = (look base t).getD .any
theorem AtQ.sees {cs : List Nat} {full base : List (Nat × Av)} {ps : List Nat} {own : List (Nat × Ow)} {rest : List Nat} {listed : Array Bool} {σ : St} (A : AtQ ops full base ps own rest listed σ) (D : DQ N ops cs full) {i : Nat} {o : Oper} (ho : ops[i]? = some o) (hr : ∀ e ∈ o.after, Region.binds .any e = true → listed.getD e.on false = true) (own' : List (Nat × Ow)) :
    ∀ x ∈ o.op.operands, σ.ev x = (St.mk (full ++ base) own').ev x := by
  refine ops_looks (ops := ops) fun t ht => ?_
  rw [full_tmp]
  by_cases hj : ∃ (j : Nat) (oj : Oper), ops[j]? = some oj ∧ oj.dst = some t
  · obtain ⟨j, oj, h1, h2⟩ := hj
    obtain ⟨e, he, hb, rfl⟩ := D.dep i o ho t ht j oj h1 h2
    exact A.t1 _ oj t h1 h2 (hr e he hb)
  · rw [A.t0 t fun j oj h1 h2 => absurd ⟨j, oj, h1, h2⟩ hj]
    unfold valT
    cases hf : look full t with
    | none => rfl
    | some x => obtain ⟨j, oj, h1, h2⟩ := D.key t (by rw [hf]; rfl); exact absurd ⟨j, oj, h1, h2⟩ hj
theorem anyX_q {cs : List Nat} {full base : List (Nat × Av)} {K : St → Prop} (D : DQ N ops cs full) {is : List Nat} (ht : topo ops [] is = true) (hall : ∀ i, i < ops.size → i ∈ is) {ownF : List (Nat × Ow)}
    (hK : ∀ σ : St, σ.h = look ownF → (∀ t, σ.tmp t = valT full base t) → K σ) : ∀ (n : Nat) (ps : List Nat) (own : List (Nat × Ow)) (es : List (Nat × List (Nat × Ow))) (listed : Array Bool) (σ : St), (∀ c, c ∈ cs ↔ c ∈ ps ∨ c ∈ es.map (·.1)) → inOrder ops (es.map (·.1)) = true → stOk P N ops full base is cs ps own es → lastO own es = ownF →
      listed.size = ops.size → unl ops.size listed ≤ n → Closed ops listed → AtQ ops full base ps own (es.map (·.1)) listed σ → anyX P N ops K n listed σ := by
  have fin : ∀ (ps : List Nat) (own : List (Nat × Ow)) (es : List (Nat × List (Nat × Ow))) (listed : Array Bool) (σ : St), (∀ c, c ∈ cs ↔ c ∈ ps ∨ c ∈ es.map (·.1)) → lastO own es = ownF → listed.size = ops.size → Region.ready .any ops listed = [] → AtQ ops full base ps own (es.map (·.1)) listed σ → K σ := fun ps own es listed σ hcs hlo hs hr A => by
    have hl : ∀ i, i < ops.size → listed.getD i false = true := fun i hi => by
      rw [getD_two (by rw [hs]; exact hi) false true]
      cases hq : listed.getD i true with
      | true => rfl
      | false =>
        obtain ⟨j, hj⟩ := topo_ready ht (fun _ h => by cases h) hs ⟨i, hall i hi, hq⟩
        rw [hr] at hj; cases hj
    cases es with
    | cons e es =>
      have h1 := A.rl e.1 (by simp)
      rw [hl e.1 (D.lt e.1 ((hcs e.1).2 (.inr (by simp))))] at h1; cases h1
    | nil =>
      simp only [lastO] at hlo
      subst hlo
      refine hK σ A.o fun t => ?_
      by_cases hj : ∃ (j : Nat) (oj : Oper), ops[j]? = some oj ∧ oj.dst = some t
      · obtain ⟨j, oj, h1, h2⟩ := hj
        exact A.t1 j oj t h1 h2 (hl j (Array.getElem?_eq_some_iff.1 h1).1)
      · rw [A.t0 t fun j oj h1 h2 => absurd ⟨j, oj, h1, h2⟩ hj]
        unfold valT
        cases hf : look full t with
        | none => rfl
        | some x => obtain ⟨j, oj, h1, h2⟩ := D.key t (by rw [hf]; rfl); exact absurd ⟨j, oj, h1, h2⟩ hj
  intro n
  induction n with
  | zero =>
    intro ps own es listed σ hcs hio hst hlo hs hu hcl A
    have hr : Region.ready .any ops listed = [] := by
      cases hq : Region.ready .any ops listed with
      | nil => rfl
      | cons i l =>
        obtain ⟨h1, o, ho, _⟩ := mem_ready.1 (show i ∈ Region.ready .any ops listed by rw [hq]; exact List.mem_cons_self ..)
        have := unl_set hs (Array.getElem?_eq_some_iff.1 ho).1 h1
        omega
    exact ⟨hr, fin ps own es listed σ hcs hlo hs hr A⟩
  | succ n ih =>
    intro ps own es listed σ hcs hio hst hlo hs hu hcl A
    refine ⟨fun hr => fin ps own es listed σ hcs hlo hs hr A, fun i hi => ?_⟩
    obtain ⟨hl, o, ho, hr⟩ := mem_ready.1 hi
    have hin := (Array.getElem?_eq_some_iff.1 ho).1
    have hli : listed.getD i false = false := by rw [getD_two (by rw [hs]; exact hin) false true]; exact hl
    have hg := D.gd i o ho
    have hset : ∀ j, (listed.setIfInBounds i true).getD j false = if i = j then true else listed.getD j false := fun j => by
      by_cases e : i = j
      · subst e; simp [hs, hin]
      · rw [if_neg e]; exact getD_set_ne false e
    have hip : i ∉ ps := fun h => by rw [A.pl i h] at hli; cases hli
    have tt : ∀ (σ' : St) (ps' : List Nat) (own' : List (Nat × Ow)) (rest' : List Nat), σ'.h = look own' → (∀ p ∈ ps', p = i ∨ p ∈ ps) → (∀ c ∈ rest', c ≠ i ∧ c ∈ es.map (·.1)) → (∀ t, σ'.tmp t = if o.dst = some t then valT full base t else σ.tmp t) → AtQ ops full base ps' own' rest' (listed.setIfInBounds i true) σ' := fun σ' ps' own' rest' h1 h2 h3 h4 => by
      refine ⟨h1, fun p hp => ?_, fun c hc => ?_, fun j oj t hj hd hlj => ?_, fun t hno => ?_⟩
      · rw [hset]
        split
        · rfl
        · next e => exact A.pl p ((h2 p hp).resolve_left (Ne.symm e))
      · rw [hset, if_neg (Ne.symm (h3 c hc).1)]; exact A.rl c (h3 c hc).2
      · rw [h4]
        by_cases e : o.dst = some t
        · rw [if_pos e]
        · rw [if_neg e]
          rw [hset] at hlj
          by_cases ej : i = j
          · subst ej; rw [ho] at hj; cases hj; exact absurd hd e
          · rw [if_neg ej] at hlj; exact A.t1 j oj t hj hd hlj
      · rw [h4]
        have hne : o.dst ≠ some t := fun e => by
          have := hno i o ho e
          rw [hset, if_pos rfl] at this; cases this
        rw [if_neg hne]
        refine A.t0 t fun j oj hj hd => ?_
        have := hno j oj hj hd
        rw [hset] at this
        by_cases ej : i = j
        · rw [if_pos ej] at this; cases this
        · rw [if_neg ej] at this; exact this
    refine ⟨o, ho, ?_⟩
    unfold opX
    have hgo : guardA ops σ o = some true := by unfold guardA; rw [hg]
    rw [hgo]
    refine ⟨fun _ => ?_, fun h => by cases h⟩
    by_cases hic : i ∈ cs
    ·
      have hie : i ∈ es.map (·.1) := ((hcs i).1 hic).resolve_left hip
      cases es with
      | nil => cases hie
      | cons e es =>
        obtain ⟨c, own'⟩ := e
        have hci : i = c := by
          rcases List.mem_cons.1 hie with h | h
          · exact h
          · exfalso
            simp only [List.map_cons, inOrder, Bool.and_eq_true, List.all_eq_true] at hio
            have h1 := (hio.1 i h).1
            have := waits_listed hcl 64 i h1 fun o' ho' => by rw [ho] at ho'; cases ho'; exact hr
            rw [A.rl c (by simp)] at this; cases this
        subst hci
        obtain ⟨_, ⟨o', ho', heff⟩, hst'⟩ := hst
        have := op_of_nth ho'
        rw [ho] at this; cases this
        simp only [List.map_cons, inOrder, Bool.and_eq_true, List.all_eq_true] at hio
        refine heff σ A.o (A.sees D ho hr own) (fun t => ?_) _ fun σ' h1 h2 => ih (i :: ps) own' es _ σ' (fun c => ?_) hio.2 hst' hlo (by simp [hs]) (by have := unl_set hs hin hl; omega) (hcl.set hi) (tt σ' _ _ _ h1 (fun p hp => List.mem_cons.1 hp) (fun c hc => ⟨by have := (hio.1 c hc).2; simpa using this, by simp only [List.map_cons]; exact List.mem_cons_of_mem _ hc⟩) h2)
        · by_cases hj : ∃ (j : Nat) (oj : Oper), ops[j]? = some oj ∧ oj.dst = some t ∧ listed.getD j false = true
          · obtain ⟨j, oj, h1, h2, h3⟩ := hj
            exact .inl (A.t1 j oj t h1 h2 h3)
          · refine .inr (A.t0 t fun j oj h1 h2 => ?_)
            cases hq : listed.getD j false with
            | false => rfl
            | true => exact absurd ⟨j, oj, h1, h2, hq⟩ hj
        · rw [hcs c]; simp only [List.map_cons, List.mem_cons]; constructor
          · rintro (h | h | h)
            · exact .inl (.inr h)
            · exact .inl (.inl h)
            · exact .inr h
          · rintro ((h | h) | h)
            · exact .inr (.inl h)
            · exact .inl h
            · exact .inr (.inr h)
    · obtain ⟨hdk, hdd⟩ := D.dst i o ho
      obtain ⟨d, hd⟩ := hdd hic
      have hcf : cs.contains i = false := by simpa using hic
      have hpw : (ps.any fun p => waits ops 64 p i) = false := by
        cases hq : ps.any fun p => waits ops 64 p i with
        | false => rfl
        | true =>
          obtain ⟨p, hp, hw⟩ := List.any_eq_true.1 hq
          have := waits_listed hcl 64 p hw fun o' ho' => hcl p o' ho' (A.pl p hp)
          rw [hli] at this; cases this
      have hv : vval P ⟨full ++ base, own⟩ o = some (valT full base d) := by
        cases es with
        | nil => exact valsOk_spec hst i (hall i hin) (by rw [hcf, hpw]; rfl) o d ho hd
        | cons e es =>
          obtain ⟨c, own'⟩ := e
          have hw : waits ops 64 i c = false := by
            cases hq : waits ops 64 i c with
            | false => rfl
            | true =>
              have := waits_listed hcl 64 i hq fun o' ho' => by rw [ho] at ho'; cases ho'; exact hr
              rw [A.rl c (by simp)] at this; cases this
          exact valsOk_spec hst.1 i (hall i hin) (by rw [hcf, hpw, hw]; rfl) o d ho hd
      have hv' : vval P σ o = some (valT full base d) := by
        rw [← hv]
        exact vval_congr (A.sees D ho hr own) A.o
      refine ⟨hdk, ?_⟩
      rw [hv']
      refine ih ps own es _ _ hcs hio hst hlo (by simp [hs]) (by have := unl_set hs hin hl; omega) (hcl.set hi) (tt _ ps own _ (by rw [put_h]; exact A.o) (fun p hp => .inr hp) (fun c hc => ⟨fun e => ?_, hc⟩) fun t => ?_)
      · subst e; exact hic ((hcs c).2 (.inr hc))
      · rw [put_tmp]
        by_cases e : o.dst = some t
        · rw [if_pos e, if_pos e]
          rw [hd] at e; cases e; rfl
        · rw [if_neg e, if_neg e]
theorem aw_drawn_q {id : Nat} {l : List Oper} {Q : Exit → St → Prop} {base : List (Nat × Av)} {own0 : List (Nat × Ow)} (hm : P.follows .mixedOrders = true) (is : List Nat) (full : List (Nat × Av)) (es : List (Nat × List (Nat × Ow)))
    (hok : dqOk N l.toArray (es.map (·.1)) is (full.map (·.1)) = true) (hst : stOk P N l.toArray full base is (es.map (·.1)) [] own0 es)
    (h : Q .normal ⟨full ++ base, lastO own0 es⟩) : AWp P N w0 S0 (.region id l.toArray true) Q ⟨base, own0⟩ := fun β a w s => by
  simp only [dqOk, Bool.and_eq_true] at hok
  obtain ⟨⟨⟨⟨⟨k1, k2⟩, k3⟩, k4⟩, k5⟩, k6⟩ := hok
  have kk : ∀ i o, l.toArray[i]? = some o → o.guard = none ∧ dstOk N o = true ∧ (i ∉ es.map (·.1) → ∃ d, o.dst = some d) ∧ ∀ t ∈ o.looksAt l.toArray, ∀ (j : Nat) (oj : Oper), l.toArray[j]? = some oj → oj.dst = some t → ∃ e ∈ o.after, Region.binds .any e = true ∧ e.on = j := fun i o ho => by
    have := List.all_eq_true.1 k1 i (List.mem_range.2 (Array.getElem?_eq_some_iff.1 ho).1)
    rw [ho] at this
    simp only [Bool.and_eq_true] at this
    obtain ⟨⟨⟨h1, h2⟩, h3⟩, h4⟩ := this
    refine ⟨Option.isNone_iff_eq_none.1 h1, h2, fun hi => ?_, fun t ht j oj hj hd => ?_⟩
    · cases hd : o.dst with
      | none =>
        rw [hd] at h3
        exact absurd (by simpa using h3) hi
      | some d => exact ⟨d, rfl⟩
    · have h5 := List.all_eq_true.1 (List.all_eq_true.1 h4 t ht) j (List.mem_range.2 (Array.getElem?_eq_some_iff.1 hj).1)
      rw [hj] at h5
      simp only [hd, beq_self_eq_true, Bool.not_true, Bool.false_or] at h5
      obtain ⟨e, he, hb⟩ := Array.any_eq_true'.1 h5
      simp only [Bool.and_eq_true, beq_iff_eq] at hb
      exact ⟨e, he, hb.1, hb.2⟩
  have D : DQ N l.toArray (es.map (·.1)) full := ⟨fun i o ho => (kk i o ho).1, fun i o ho => ⟨(kk i o ho).2.1, (kk i o ho).2.2.1⟩, fun i o ho => (kk i o ho).2.2.2, fun t ht => by
    obtain ⟨x, hx⟩ := Option.isSome_iff_exists.1 ht
    have := List.all_eq_true.1 k2 t (List.mem_map.2 ⟨_, look_mem hx, rfl⟩)
    obtain ⟨j, hj, h6⟩ := List.any_eq_true.1 this
    cases ho : l.toArray[j]? with
    | none => rw [ho] at h6; cases h6
    | some oj => rw [ho] at h6; exact ⟨j, oj, ho, by simpa using h6⟩, fun c hc => by have := List.all_eq_true.1 k5 c hc; simpa using this⟩
  have hcl : Closed l.toArray (Array.replicate l.toArray.size false) := fun j o ho hl => by
    rw [Array.getD_eq_getD_getElem?, Array.getElem?_replicate] at hl
    split at hl <;> cases hl
  have hlf : ∀ i, (Array.replicate l.toArray.size false).getD i false = false := fun i => by
    rw [Array.getD_eq_getD_getElem?, Array.getElem?_replicate]; split <;> rfl
  have h1 := anyX_q (P := P) (base := base) (K := fun σ => ∃ τ, Eqv τ σ ∧ Q .normal τ) D k3 (fun i hi => by simpa using List.all_eq_true.1 k4 i (List.mem_range.2 hi))
    (fun σ h2 h3 => ⟨⟨full ++ base, lastO own0 es⟩, ⟨fun t => by rw [full_tmp, h3], h2.symm⟩, h⟩) l.toArray.size [] own0 es (Array.replicate l.toArray.size false) ⟨base, own0⟩ (fun c => by simp) k6 hst rfl (by simp) (by
      have := List.length_filter_le (fun i => !(Array.replicate l.toArray.size false).getD i true) (List.range l.toArray.size)
      rw [List.length_range] at this; exact this) hcl ⟨rfl, fun p h => (by cases h), fun c _ => hlf c, fun j oj t _ _ h => (by rw [hlf] at h; cases h), fun t _ => rfl⟩
  refine wp_region_any hm (anyX_run (fun β σ a w ⟨τ, e, hq⟩ s => ⟨β, τ, hq, s.eqv e.symm⟩) _ _ β _ a _ h1 (s.grow (w' := w.drew) ?_).1)
  exact (Ext.refl w).drew
theorem eff_w {full base : List (Nat × Av)} {o : Oper} {own : List (Nat × Ow)} {id : Nat} {x : Ow} {r : Av} (hdk : dstOk N o = true) (hW : isW o.op = true) {own' : List (Nat × Ow)} (hq : wres P ⟨full ++ base, own⟩ o = some (id, x, r)) (hoo : (id, x) :: own = own') (hv : ∀ d, o.dst = some d → valT full base d = r) : Eff P N full base o own own' := fun σ e0 e1 e2 K hK => by
  subst hoo
  refine ⟨hdk, ?_⟩
  rw [vval_W hW]
  have hq' : wres P σ o = some (id, x, r) := by rw [wres_congr e1 (τ := ⟨full ++ base, own⟩) e0]; exact hq
  simp only [wstep_of hq']
  refine hK _ ?_ fun t => ?_
  · rw [put_h, new_h, e0]; funext i
    simp only [look]
    by_cases e : id = i
    · subst e; simp
    · simp [e, Ne.symm e]
  · rw [put_tmp]
    by_cases e : o.dst = some t
    · rw [if_pos e, if_pos e]; exact (hv t e).symm
    · rw [if_neg e, if_neg e]; rfl
theorem eff_p {full base : List (Nat × Av)} {own own' : List (Nat × Ow)} {o : Oper} {f : FuncId} {xs args : List Av} {Ts : List TypeId} {ownA ownB : List (Nat × Ow)} {ρ : List (Nat × Nat)} {r0 : Av} {d : Tmp} (t : Nat) (hp : plainCall o.op = true) (hd : o.dst = some d) (hdk : dstOk N o = true)
    (hc : calleeOf P ⟨full ++ base, own⟩ o = some (f, xs, Ts)) (hx : argsC P [] (look own) xs Ts = args.map (Av.ren (renI ρ t))) (ho : handOk ρ args ownA = true) (hh : handed (look own) (renI ρ t) ownA) (hR : AProc P f args ownA fun r own' => r = r0 ∧ own' = ownB)
    (hb : backOk ⟨[], own⟩ ρ t ownB = true) (h1 : mapV (Ow.fix (look (backH ⟨[], own⟩ ρ t ownB))) (backH ⟨[], own⟩ ρ t ownB) = own') (hv : (r0.ren (renI ρ t)).fix (look (backH ⟨[], own⟩ ρ t ownB)) = valT full base d)
    (hfix : ∀ p ∈ full ++ base, p.2.fix (look (backH ⟨[], own⟩ ρ t ownB)) = p.2) : Eff P N full base o own own' := fun σ e0 e1 e2 K hK => by
  have key := eff_proc (P := P) (N := N) (σ := ⟨σ.tmps, own⟩) (full := full) (base := base) (own0 := own) (own1 := own') (o := o) (K := K) t hp hd hdk hc hx ho hh hR hb h1 hv hfix rfl (fun x hx => by rw [← e1 x hx]; cases x <;> rfl) (fun t' => e2 t') fun σ' h2 h3 => hK σ' h2 h3
  obtain ⟨k1, k2⟩ := key
  refine ⟨k1, ?_⟩
  rw [vval_plain hp, wstep_none (plain_notW hp)] at k2 ⊢
  have hsh : σ.h = look own := e0
  have hkk : ∀ i, hasKey σ.own i = hasKey own i := fun i => by
    have : look σ.own i = look own i := congrFun e0 i
    cases hq : hasKey own i with
    | true => obtain ⟨x, hx⟩ := hasKey_iff.1 hq; exact hasKey_iff.2 ⟨x, by rw [this, hx]⟩
    | false =>
      cases hq2 : hasKey σ.own i with
      | false => rfl
      | true => obtain ⟨x, hx⟩ := hasKey_iff.1 hq2; rw [this] at hx; rw [hasKey_iff.2 ⟨x, hx⟩] at hq; cases hq
  have hbo : ∀ own', backOk σ ρ t own' = backOk ⟨[], own⟩ ρ t own' := fun own' => by
    unfold backOk
    simp only [hkk]
  have hfil : ∀ (p : Nat → Bool) (l : List (Nat × Ow)) (i : Nat), look (filK p l) i = if p i then look l i else none := fun p l i => by
    induction l with
    | nil => simp [filK, look]
    | cons q l ih =>
      obtain ⟨k, x⟩ := q
      simp only [filK]
      cases hpk : p k with
      | true =>
        simp only [look]
        by_cases e : k = i
        · subst e; simp [hpk]
        · simp only [if_neg e]; exact ih
      | false =>
        simp only [look]
        by_cases e : k = i
        · subst e; rw [ih]; simp [hpk]
        · simp only [if_neg e]; exact ih
  have hbh : ∀ own', look (backH σ ρ t own') = look (backH ⟨[], own⟩ ρ t own') := fun own' => by
    funext i
    unfold backH
    rw [look_append, look_append, hfil, hfil]
    have : look σ.own i = look own i := congrFun e0 i
    simp only [this]
  have hfx : ∀ t', (σ.tmp t').fix (look (backH ⟨[], own⟩ ρ t ownB)) = σ.tmp t' := fun t' => by
    have hl : ∀ {l : List (Nat × Av)}, (∀ p ∈ l, p ∈ full ++ base) → ∀ x, look l t' = some x → x.fix (look (backH ⟨[], own⟩ ρ t ownB)) = x := fun {l} hl x hx => hfix _ (hl _ (look_mem hx))
    rcases e2 t' with h | h <;> rw [h]
    · unfold valT
      cases hq : look full t' with
      | some x => exact hl (fun p hp => List.mem_append_left _ hp) x hq
      | none =>
        cases hq2 : look base t' with
        | some x => exact hl (fun p hp => List.mem_append_right _ hp) x hq2
        | none => rfl
    · cases hq2 : look base t' with
      | some x => exact hl (fun p hp => List.mem_append_right _ hp) x hq2
      | none => rfl
  refine .inr (.proc (t := t) (ρ := ρ) (own0 := ownA) (args := args) (by rw [calleeOf_congr e1 hsh]; exact hc) (by rw [hsh]; exact hx) ho (by rw [hsh]; exact hh) hR ?_)
  rintro r own'' ⟨rfl, rfl⟩
  refine ⟨by rw [hbo]; exact hb, hK _ ?_ fun t' => ?_⟩
  · rw [put_h]
    show look (mapV (Ow.fix (look (backH σ ρ t own''))) (backH σ ρ t own'')) = look own'
    rw [← h1]
    funext i
    simp only [mapV_eq, look_map, hbh]
  · rw [put_tmp, hbh, hv, hd]
    by_cases e : some d = some t'
    · rw [if_pos e, if_pos e]; cases e; rfl
    · rw [if_neg e, if_neg e]
      have : (σ.back ρ t own'').tmp t' = (σ.tmp t').fix (look (backH σ ρ t own'')) := by
        unfold St.back St.tmp
        simp only [mapV_eq, look_map, look_dedup]
        cases look σ.tmps t' <;> rfl
      rw [this, hbh]; exact hfx t'
theorem eff_l {full base : List (Nat × Av)} {own : List (Nat × Ow)} {o : Oper} {f : FuncId} {args : List Av} {F : List Nat} {r : Av} {d : Tmp} (hp : plainCall o.op = true) (hd : o.dst = some d) (hdk : dstOk N o = true)
    (hc : callOf P ⟨full ++ base, own⟩ o = some (f, args, F)) (ha : args.all Av.isD = true) (hR : ACalls P f args fun x => x = r) (hpl : r.plain = true) {own' : List (Nat × Ow)} (hoo : own = own') (hv : r = valT full base d) : Eff P N full base o own own' := fun σ e0 e1 e2 K hK => by
  subst hoo
  refine ⟨hdk, ?_⟩
  rw [vval_plain hp, wstep_none (plain_notW hp)]
  refine .inr (.lend (by rw [callOf_congr e1 (τ := ⟨full ++ base, own⟩) e0]; exact hc) ha hR (fun x hx => by subst hx; exact hpl) ?_)
  rintro x rfl _
  refine hK _ (by rw [put_h]; exact e0) fun t => ?_
  rw [put_tmp, hd]
  by_cases e : some d = some t
  · rw [if_pos e, if_pos e]; cases e; exact hv
  · rw [if_neg e, if_neg e]
theorem eff_d {full base : List (Nat × Av)} {own own' : List (Nat × Ow)} {o : Oper} {x : Operand} {name : String} {args : Array Operand} {Ts : Array TypeId} {y : Av} (hop : o.op = .defer ⟨.invoke x name, args, Ts⟩) (hd : o.dst = none) (hdk : dstOk N o = true) (hx : (St.mk (full ++ base) own).ev x = y) (hdl : IdleAv P name y) (hoo : own = own') : Eff P N full base o own own' := fun σ e0 e1 e2 K hK => by
  subst hoo
  refine ⟨hdk, ?_⟩
  have hv : vval P σ o = none := by unfold vval; rw [hop]
  have hw : wstep P σ o = none := by unfold wstep wres; rw [hop]
  rw [hv, hw]
  have hxe : σ.ev x = y := by rw [e1 x (by rw [hop]; simp [Op.operands, Call.operands]), hx]
  refine .inr (.defer hop hxe hdl ?_)
  refine hK _ (by rw [put_h]; exact e0) fun t => ?_
  rw [put_tmp, hd]; simp
attribute [simp] lastO
end
end Go.Smd
end
section
set_option linter.unusedSimpArgs false
namespace Go.Smd
open Go.RowKit Go.Proofs
@[simp] theorem meth_0 : Try.prog.meth 102 "AsBool" = some (86, false) := by kernel_rfl
@[simp] theorem meth_1 : Try.prog.meth 102 "AsFloat" = some (87, false) := by kernel_rfl
@[simp] theorem meth_2 : Try.prog.meth 102 "AsInt" = some (88, false) := by kernel_rfl
@[simp] theorem meth_3 : Try.prog.meth 102 "AsList" = some (89, false) := by kernel_rfl
@[simp] theorem meth_4 : Try.prog.meth 102 "AsListUsing" = some (90, false) := by kernel_rfl
@[simp] theorem meth_5 : Try.prog.meth 102 "AsMap" = some (91, false) := by kernel_rfl
@[simp] theorem meth_6 : Try.prog.meth 102 "AsMapUsing" = some (92, false) := by kernel_rfl
@[simp] theorem meth_7 : Try.prog.meth 102 "AsString" = some (93, false) := by kernel_rfl
@[simp] theorem meth_8 : Try.prog.meth 102 "IsBool" = some (94, false) := by kernel_rfl
@[simp] theorem meth_9 : Try.prog.meth 102 "IsFloat" = some (95, false) := by kernel_rfl
@[simp] theorem meth_10 : Try.prog.meth 102 "IsInt" = some (96, false) := by kernel_rfl
@[simp] theorem meth_11 : Try.prog.meth 102 "IsList" = some (97, false) := by kernel_rfl
@[simp] theorem meth_12 : Try.prog.meth 102 "IsMap" = some (98, false) := by kernel_rfl
@[simp] theorem meth_13 : Try.prog.meth 102 "IsNull" = some (99, false) := by kernel_rfl
@[simp] theorem meth_14 : Try.prog.meth 102 "IsString" = some (100, false) := by kernel_rfl
@[simp] theorem meth_15 : Try.prog.meth 102 "Unstructured" = some (101, false) := by kernel_rfl
@[simp] theorem meth_16 : Try.prog.meth 158 "At" = some (103, false) := by kernel_rfl
@[simp] theorem meth_17 : Try.prog.meth 169 "At" = some (103, false) := by kernel_rfl
@[simp] theorem meth_18 : Try.prog.meth 158 "AtUsing" = some (104, false) := by kernel_rfl
@[simp] theorem meth_19 : Try.prog.meth 169 "AtUsing" = some (104, false) := by kernel_rfl
@[simp] theorem meth_20 : Try.prog.meth 158 "Equals" = some (105, false) := by kernel_rfl
@[simp] theorem meth_21 : Try.prog.meth 169 "Equals" = some (105, false) := by kernel_rfl
@[simp] theorem meth_22 : Try.prog.meth 158 "EqualsUsing" = some (106, false) := by kernel_rfl
@[simp] theorem meth_23 : Try.prog.meth 169 "EqualsUsing" = some (106, false) := by kernel_rfl
@[simp] theorem meth_24 : Try.prog.meth 158 "Length" = some (107, false) := by kernel_rfl
@[simp] theorem meth_25 : Try.prog.meth 169 "Length" = some (107, false) := by kernel_rfl
@[simp] theorem meth_26 : Try.prog.meth 158 "Range" = some (108, false) := by kernel_rfl
@[simp] theorem meth_27 : Try.prog.meth 169 "Range" = some (108, false) := by kernel_rfl
@[simp] theorem meth_28 : Try.prog.meth 158 "RangeUsing" = some (109, false) := by kernel_rfl
@[simp] theorem meth_29 : Try.prog.meth 169 "RangeUsing" = some (109, false) := by kernel_rfl
@[simp] theorem meth_30 : Try.prog.meth 159 "Delete" = some (110, false) := by kernel_rfl
@[simp] theorem meth_31 : Try.prog.meth 159 "Empty" = some (111, false) := by kernel_rfl
@[simp] theorem meth_32 : Try.prog.meth 159 "Equals" = some (112, false) := by kernel_rfl
@[simp] theorem meth_33 : Try.prog.meth 159 "EqualsUsing" = some (113, false) := by kernel_rfl
@[simp] theorem meth_34 : Try.prog.meth 159 "Get" = some (114, false) := by kernel_rfl
@[simp] theorem meth_35 : Try.prog.meth 159 "GetUsing" = some (115, false) := by kernel_rfl
@[simp] theorem meth_36 : Try.prog.meth 159 "Has" = some (116, false) := by kernel_rfl
@[simp] theorem meth_37 : Try.prog.meth 159 "Iterate" = some (117, false) := by kernel_rfl
@[simp] theorem meth_38 : Try.prog.meth 159 "IterateUsing" = some (118, false) := by kernel_rfl
@[simp] theorem meth_39 : Try.prog.meth 159 "Length" = some (119, false) := by kernel_rfl
@[simp] theorem meth_40 : Try.prog.meth 159 "Set" = some (120, false) := by kernel_rfl
@[simp] theorem meth_41 : Try.prog.meth 159 "Zip" = some (121, false) := by kernel_rfl
@[simp] theorem meth_42 : Try.prog.meth 159 "ZipUsing" = some (122, false) := by kernel_rfl
@[simp] theorem meth_43 : Try.prog.meth 170 "Next" = some (134, true) := by kernel_rfl
@[simp] theorem meth_44 : Try.prog.meth 167 "Next" = some (132, true) := by kernel_rfl
@[simp] theorem meth_45 : Try.prog.meth 170 "Item" = some (133, true) := by kernel_rfl
@[simp] theorem meth_46 : Try.prog.meth 167 "Item" = some (131, true) := by kernel_rfl
@[simp] theorem meth_47 : Try.prog.meth 62 "Free" = some (85, true) := by kernel_rfl
@[simp] theorem meth_48 : Try.prog.meth 62 "pub-coparcener/pub/structuredmerge/value.allocValueUnstructured" = some (57, true) := by kernel_rfl
@[simp] theorem meth_49 : Try.prog.meth 62 "pub-coparcener/pub/structuredmerge/value.allocListUnstructuredRange" = some (135, true) := by kernel_rfl
@[simp] theorem treeOk_p : treeOk Try.prog = true := by kernel_rfl
@[simp] theorem treeMap_a : Try.prog.treeMap 105 = true := by kernel_rfl
@[simp] theorem treeMap_b : Try.prog.treeMap 159 = true := by kernel_rfl
abbrev dAlloc : D := .ifc 62 (.pt [])
abbrev aAlloc : Av := .c (.d dAlloc)
abbrev dV (t : Tree) : D := .ifc 102 (.pt [.tr t])
abbrev dM (m : List (ByteArray × Tree)) : D := .ifc 159 (.mp m)
abbrev dL (l : List Tree) : D := .ifc 158 (.sl 20 (l.map fun t => [.tr t]))
theorem idle_free (y : Value) (us : Array Value) : Idle Try.prog { target := .fn (.method "Free") #[], args := #[.iface 62 y] ++ us } :=
  idle_of (E := 64) (f := 85) (by kernel_rfl) (by kernel_rfl) Try.func85 (by kernel_rfl) rfl Try.results85 y us
theorem free_any {xs : List D} : IdleAv Try.prog "Free" (.c (.d (.ifc 62 (.pt xs)))) := fun S β h w v us hv => by
  cases (show RepD Try.prog w S (.ifc 62 (.pt xs)) v from hv) with
  | ifc hv => exact idle_free _ us.toArray
end Go.Smd
end
section
set_option linter.unusedSimpArgs false
set_option maxRecDepth 100000
set_option maxHeartbeats 4000000
namespace Go.Smd
open Go.RowKit Go.Proofs
def isBoolT : Tree → Bool
  | .bool _ => true
  | _ => false
theorem isBool_a (t : Tree) : ACalls Try.prog 94 [.agg [.d (.tr t)]] (fun r => r = aV (.bool (isBoolT t))) := by
  cases t
  all_goals
    refine acalls_ex [] Try.func94 (by kernel_rfl) rfl Try.ntmps94 Try.results94 (Nat.le_of_ble_eq_true (by kernel_rfl)) ?_; intro hok w0 S0
    (repeat' (first
                                                            | (with_reducible refine br_d (fun _ => ?_) (fun _ => ?_))
                                                            | (with_reducible refine br_i (fun _ => ?_) (fun _ => ?_))
                                                            | ((with_reducible apply nd_next); (case hx => simp -dsimp; first | done | with_reducible rfl); (case hid => simp -dsimp; first | done | with_reducible rfl | exact ⟨rfl, rfl, rfl⟩ | exact ⟨rfl, rfl⟩); (case' h1 => intro _ _ _); (case' h0 => intro _))
                                                            | ((with_reducible apply nd_entry); (case hx => simp -dsimp; first | done | with_reducible rfl); (case hid => simp -dsimp; first | done | with_reducible rfl | exact ⟨rfl, rfl, rfl⟩ | exact ⟨rfl, rfl⟩))
                                                            | ((with_reducible apply nd_range); (case hx => simp -dsimp; with_reducible rfl); (case hT => simp -dsimp); (case hnd => assumption); (case hz => simp -dsimp))
                                                            | (with_reducible refine dn_i follows_any (by kernel_rfl) ?_)
                                                            | (with_reducible exact done_eq rfl)
                                                            | (simp -dsimp))); (all_goals try with_reducible refine done_eq ?_)
    all_goals rfl
def isFloatT : Tree → Bool
  | .float _ => true
  | _ => false
theorem isFloat_a (t : Tree) : ACalls Try.prog 95 [.agg [.d (.tr t)]] (fun r => r = aV (.bool (isFloatT t))) := by
  cases t
  all_goals
    refine acalls_ex [] Try.func95 (by kernel_rfl) rfl Try.ntmps95 Try.results95 (Nat.le_of_ble_eq_true (by kernel_rfl)) ?_; intro hok w0 S0
    (repeat' (first
                                                            | (with_reducible refine br_d (fun _ => ?_) (fun _ => ?_))
                                                            | (with_reducible refine br_i (fun _ => ?_) (fun _ => ?_))
                                                            | ((with_reducible apply nd_next); (case hx => simp -dsimp; first | done | with_reducible rfl); (case hid => simp -dsimp; first | done | with_reducible rfl | exact ⟨rfl, rfl, rfl⟩ | exact ⟨rfl, rfl⟩); (case' h1 => intro _ _ _); (case' h0 => intro _))
                                                            | ((with_reducible apply nd_entry); (case hx => simp -dsimp; first | done | with_reducible rfl); (case hid => simp -dsimp; first | done | with_reducible rfl | exact ⟨rfl, rfl, rfl⟩ | exact ⟨rfl, rfl⟩))
                                                            | ((with_reducible apply nd_range); (case hx => simp -dsimp; with_reducible rfl); (case hT => simp -dsimp); (case hnd => assumption); (case hz => simp -dsimp))
                                                            | (with_reducible refine dn_i follows_any (by kernel_rfl) ?_)
                                                            | (with_reducible exact done_eq rfl)
                                                            | (simp -dsimp))); (all_goals try with_reducible refine done_eq ?_)
    all_goals rfl
def isIntT : Tree → Bool
  | .int _ => true
  | _ => false
theorem isInt_a (t : Tree) : ACalls Try.prog 96 [.agg [.d (.tr t)]] (fun r => r = aV (.bool (isIntT t))) := by
  cases t
  all_goals
    refine acalls_ex [] Try.func96 (by kernel_rfl) rfl Try.ntmps96 Try.results96 (Nat.le_of_ble_eq_true (by kernel_rfl)) ?_; intro hok w0 S0
    (repeat' (first
                                                            | (with_reducible refine br_d (fun _ => ?_) (fun _ => ?_))
                                                            | (with_reducible refine br_i (fun _ => ?_) (fun _ => ?_))
                                                            | ((with_reducible apply nd_next); (case hx => simp -dsimp; first | done | with_reducible rfl); (case hid => simp -dsimp; first | done | with_reducible rfl | exact ⟨rfl, rfl, rfl⟩ | exact ⟨rfl, rfl⟩); (case' h1 => intro _ _ _); (case' h0 => intro _))
                                                            | ((with_reducible apply nd_entry); (case hx => simp -dsimp; first | done | with_reducible rfl); (case hid => simp -dsimp; first | done | with_reducible rfl | exact ⟨rfl, rfl, rfl⟩ | exact ⟨rfl, rfl⟩))
                                                            | ((with_reducible apply nd_range); (case hx => simp -dsimp; with_reducible rfl); (case hT => simp -dsimp); (case hnd => assumption); (case hz => simp -dsimp))
                                                            | (with_reducible refine dn_i follows_any (by kernel_rfl) ?_)
                                                            | (with_reducible exact done_eq rfl)
                                                            | (simp -dsimp))); (all_goals try with_reducible refine done_eq ?_)
    all_goals rfl
def isListT : Tree → Bool
  | .list _ => true
  | _ => false
theorem isList_a (t : Tree) : ACalls Try.prog 97 [.agg [.d (.tr t)]] (fun r => r = aV (.bool (isListT t))) := by
  cases t
  all_goals
    refine acalls_ex [] Try.func97 (by kernel_rfl) rfl Try.ntmps97 Try.results97 (Nat.le_of_ble_eq_true (by kernel_rfl)) ?_; intro hok w0 S0
    (repeat' (first
                                                            | (with_reducible refine br_d (fun _ => ?_) (fun _ => ?_))
                                                            | (with_reducible refine br_i (fun _ => ?_) (fun _ => ?_))
                                                            | ((with_reducible apply nd_next); (case hx => simp -dsimp; first | done | with_reducible rfl); (case hid => simp -dsimp; first | done | with_reducible rfl | exact ⟨rfl, rfl, rfl⟩ | exact ⟨rfl, rfl⟩); (case' h1 => intro _ _ _); (case' h0 => intro _))
                                                            | ((with_reducible apply nd_entry); (case hx => simp -dsimp; first | done | with_reducible rfl); (case hid => simp -dsimp; first | done | with_reducible rfl | exact ⟨rfl, rfl, rfl⟩ | exact ⟨rfl, rfl⟩))
                                                            | ((with_reducible apply nd_range); (case hx => simp -dsimp; with_reducible rfl); (case hT => simp -dsimp); (case hnd => assumption); (case hz => simp -dsimp))
                                                            | (with_reducible refine dn_i follows_any (by kernel_rfl) ?_)
                                                            | (with_reducible exact done_eq rfl)
                                                            | (simp -dsimp))); (all_goals try with_reducible refine done_eq ?_)
    all_goals rfl
def isMapT : Tree → Bool
  | .map _ => true
  | _ => false
theorem isMap_a (t : Tree) : ACalls Try.prog 98 [.agg [.d (.tr t)]] (fun r => r = aV (.bool (isMapT t))) := by
  cases t
  all_goals
    refine acalls_ex [] Try.func98 (by kernel_rfl) rfl Try.ntmps98 Try.results98 (Nat.le_of_ble_eq_true (by kernel_rfl)) ?_; intro hok w0 S0
    (repeat' (first
                                                            | (with_reducible refine br_d (fun _ => ?_) (fun _ => ?_))
                                                            | (with_reducible refine br_i (fun _ => ?_) (fun _ => ?_))
                                                            | ((with_reducible apply nd_next); (case hx => simp -dsimp; first | done | with_reducible rfl); (case hid => simp -dsimp; first | done | with_reducible rfl | exact ⟨rfl, rfl, rfl⟩ | exact ⟨rfl, rfl⟩); (case' h1 => intro _ _ _); (case' h0 => intro _))
                                                            | ((with_reducible apply nd_entry); (case hx => simp -dsimp; first | done | with_reducible rfl); (case hid => simp -dsimp; first | done | with_reducible rfl | exact ⟨rfl, rfl, rfl⟩ | exact ⟨rfl, rfl⟩))
                                                            | ((with_reducible apply nd_range); (case hx => simp -dsimp; with_reducible rfl); (case hT => simp -dsimp); (case hnd => assumption); (case hz => simp -dsimp))
                                                            | (with_reducible refine dn_i follows_any (by kernel_rfl) ?_)
                                                            | (with_reducible exact done_eq rfl)
                                                            | (simp -dsimp))); (all_goals try with_reducible refine done_eq ?_)
    all_goals rfl
def isStringT : Tree → Bool
  | .str _ => true
  | _ => false
theorem isString_a (t : Tree) : ACalls Try.prog 100 [.agg [.d (.tr t)]] (fun r => r = aV (.bool (isStringT t))) := by
  cases t
  all_goals
    refine acalls_ex [] Try.func100 (by kernel_rfl) rfl Try.ntmps100 Try.results100 (Nat.le_of_ble_eq_true (by kernel_rfl)) ?_; intro hok w0 S0
    (repeat' (first
                                                            | (with_reducible refine br_d (fun _ => ?_) (fun _ => ?_))
                                                            | (with_reducible refine br_i (fun _ => ?_) (fun _ => ?_))
                                                            | ((with_reducible apply nd_next); (case hx => simp -dsimp; first | done | with_reducible rfl); (case hid => simp -dsimp; first | done | with_reducible rfl | exact ⟨rfl, rfl, rfl⟩ | exact ⟨rfl, rfl⟩); (case' h1 => intro _ _ _); (case' h0 => intro _))
                                                            | ((with_reducible apply nd_entry); (case hx => simp -dsimp; first | done | with_reducible rfl); (case hid => simp -dsimp; first | done | with_reducible rfl | exact ⟨rfl, rfl, rfl⟩ | exact ⟨rfl, rfl⟩))
                                                            | ((with_reducible apply nd_range); (case hx => simp -dsimp; with_reducible rfl); (case hT => simp -dsimp); (case hnd => assumption); (case hz => simp -dsimp))
                                                            | (with_reducible refine dn_i follows_any (by kernel_rfl) ?_)
                                                            | (with_reducible exact done_eq rfl)
                                                            | (simp -dsimp))); (all_goals try with_reducible refine done_eq ?_)
    all_goals rfl
theorem isNull_a (t : Tree) : ACalls Try.prog 99 [.agg [.d (.tr t)]] (fun r => r = aV (.bool (isNilT t))) := by
  refine acalls_ex [] Try.func99 (by kernel_rfl) rfl Try.ntmps99 Try.results99 (Nat.le_of_ble_eq_true (by kernel_rfl)) ?_; intro hok w0 S0
  (repeat' (first
                                                            | (with_reducible refine br_d (fun _ => ?_) (fun _ => ?_))
                                                            | (with_reducible refine br_i (fun _ => ?_) (fun _ => ?_))
                                                            | ((with_reducible apply nd_next); (case hx => simp -dsimp; first | done | with_reducible rfl); (case hid => simp -dsimp; first | done | with_reducible rfl | exact ⟨rfl, rfl, rfl⟩ | exact ⟨rfl, rfl⟩); (case' h1 => intro _ _ _); (case' h0 => intro _))
                                                            | ((with_reducible apply nd_entry); (case hx => simp -dsimp; first | done | with_reducible rfl); (case hid => simp -dsimp; first | done | with_reducible rfl | exact ⟨rfl, rfl, rfl⟩ | exact ⟨rfl, rfl⟩))
                                                            | ((with_reducible apply nd_range); (case hx => simp -dsimp; with_reducible rfl); (case hT => simp -dsimp); (case hnd => assumption); (case hz => simp -dsimp))
                                                            | (with_reducible refine dn_i follows_any (by kernel_rfl) ?_)
                                                            | (with_reducible exact done_eq rfl)
                                                            | (simp -dsimp))); (all_goals try with_reducible refine done_eq ?_)
  all_goals rfl
theorem unstructured_a (t : Tree) : ACalls Try.prog 101 [.agg [.d (.tr t)]] (fun r => r = .c (.d (.tr t))) := by
  refine acalls_ex [] Try.func101 (by kernel_rfl) rfl Try.ntmps101 Try.results101 (Nat.le_of_ble_eq_true (by kernel_rfl)) ?_; intro hok w0 S0
  (repeat' (first
                                                            | (with_reducible refine br_d (fun _ => ?_) (fun _ => ?_))
                                                            | (with_reducible refine br_i (fun _ => ?_) (fun _ => ?_))
                                                            | ((with_reducible apply nd_next); (case hx => simp -dsimp; first | done | with_reducible rfl); (case hid => simp -dsimp; first | done | with_reducible rfl | exact ⟨rfl, rfl, rfl⟩ | exact ⟨rfl, rfl⟩); (case' h1 => intro _ _ _); (case' h0 => intro _))
                                                            | ((with_reducible apply nd_entry); (case hx => simp -dsimp; first | done | with_reducible rfl); (case hid => simp -dsimp; first | done | with_reducible rfl | exact ⟨rfl, rfl, rfl⟩ | exact ⟨rfl, rfl⟩))
                                                            | ((with_reducible apply nd_range); (case hx => simp -dsimp; with_reducible rfl); (case hT => simp -dsimp); (case hnd => assumption); (case hz => simp -dsimp))
                                                            | (with_reducible refine dn_i follows_any (by kernel_rfl) ?_)
                                                            | (with_reducible exact done_eq rfl)
                                                            | (simp -dsimp))); (all_goals try with_reducible refine done_eq ?_)
  all_goals rfl
theorem asBool_a (b : Bool) : ACalls Try.prog 86 [.agg [.d (.tr (.bool b))]] (fun r => r = aV (.bool b)) := by
  refine acalls_ex [] Try.func86 (by kernel_rfl) rfl Try.ntmps86 Try.results86 (Nat.le_of_ble_eq_true (by kernel_rfl)) ?_; intro hok w0 S0
  (repeat' (first
                                                            | (with_reducible refine br_d (fun _ => ?_) (fun _ => ?_))
                                                            | (with_reducible refine br_i (fun _ => ?_) (fun _ => ?_))
                                                            | ((with_reducible apply nd_next); (case hx => simp -dsimp; first | done | with_reducible rfl); (case hid => simp -dsimp; first | done | with_reducible rfl | exact ⟨rfl, rfl, rfl⟩ | exact ⟨rfl, rfl⟩); (case' h1 => intro _ _ _); (case' h0 => intro _))
                                                            | ((with_reducible apply nd_entry); (case hx => simp -dsimp; first | done | with_reducible rfl); (case hid => simp -dsimp; first | done | with_reducible rfl | exact ⟨rfl, rfl, rfl⟩ | exact ⟨rfl, rfl⟩))
                                                            | ((with_reducible apply nd_range); (case hx => simp -dsimp; with_reducible rfl); (case hT => simp -dsimp); (case hnd => assumption); (case hz => simp -dsimp))
                                                            | (with_reducible refine dn_i follows_any (by kernel_rfl) ?_)
                                                            | (with_reducible exact done_eq rfl)
                                                            | (simp -dsimp))); (all_goals try with_reducible refine done_eq ?_)
  all_goals rfl
theorem asFloat_a (b : Nat) : ACalls Try.prog 87 [.agg [.d (.tr (.float b))]] (fun r => r = aV (.float .f64 b)) := by
  refine acalls_ex [] Try.func87 (by kernel_rfl) rfl Try.ntmps87 Try.results87 (Nat.le_of_ble_eq_true (by kernel_rfl)) ?_; intro hok w0 S0
  (repeat' (first
                                                            | (with_reducible refine br_d (fun _ => ?_) (fun _ => ?_))
                                                            | (with_reducible refine br_i (fun _ => ?_) (fun _ => ?_))
                                                            | ((with_reducible apply nd_next); (case hx => simp -dsimp; first | done | with_reducible rfl); (case hid => simp -dsimp; first | done | with_reducible rfl | exact ⟨rfl, rfl, rfl⟩ | exact ⟨rfl, rfl⟩); (case' h1 => intro _ _ _); (case' h0 => intro _))
                                                            | ((with_reducible apply nd_entry); (case hx => simp -dsimp; first | done | with_reducible rfl); (case hid => simp -dsimp; first | done | with_reducible rfl | exact ⟨rfl, rfl, rfl⟩ | exact ⟨rfl, rfl⟩))
                                                            | ((with_reducible apply nd_range); (case hx => simp -dsimp; with_reducible rfl); (case hT => simp -dsimp); (case hnd => assumption); (case hz => simp -dsimp))
                                                            | (with_reducible refine dn_i follows_any (by kernel_rfl) ?_)
                                                            | (with_reducible exact done_eq rfl)
                                                            | (simp -dsimp))); (all_goals try with_reducible refine done_eq ?_)
  all_goals rfl
theorem asInt_a (b : Int) : ACalls Try.prog 88 [.agg [.d (.tr (.int b))]] (fun r => r = aV (.int .i64 b)) := by
  refine acalls_ex [] Try.func88 (by kernel_rfl) rfl Try.ntmps88 Try.results88 (Nat.le_of_ble_eq_true (by kernel_rfl)) ?_; intro hok w0 S0
  (repeat' (first
                                                            | (with_reducible refine br_d (fun _ => ?_) (fun _ => ?_))
                                                            | (with_reducible refine br_i (fun _ => ?_) (fun _ => ?_))
                                                            | ((with_reducible apply nd_next); (case hx => simp -dsimp; first | done | with_reducible rfl); (case hid => simp -dsimp; first | done | with_reducible rfl | exact ⟨rfl, rfl, rfl⟩ | exact ⟨rfl, rfl⟩); (case' h1 => intro _ _ _); (case' h0 => intro _))
                                                            | ((with_reducible apply nd_entry); (case hx => simp -dsimp; first | done | with_reducible rfl); (case hid => simp -dsimp; first | done | with_reducible rfl | exact ⟨rfl, rfl, rfl⟩ | exact ⟨rfl, rfl⟩))
                                                            | ((with_reducible apply nd_range); (case hx => simp -dsimp; with_reducible rfl); (case hT => simp -dsimp); (case hnd => assumption); (case hz => simp -dsimp))
                                                            | (with_reducible refine dn_i follows_any (by kernel_rfl) ?_)
                                                            | (with_reducible exact done_eq rfl)
                                                            | (simp -dsimp))); (all_goals try with_reducible refine done_eq ?_)
  all_goals rfl
theorem asString_a (b : ByteArray) : ACalls Try.prog 93 [.agg [.d (.tr (.str b))]] (fun r => r = aV (.string b)) := by
  refine acalls_ex [] Try.func93 (by kernel_rfl) rfl Try.ntmps93 Try.results93 (Nat.le_of_ble_eq_true (by kernel_rfl)) ?_; intro hok w0 S0
  (repeat' (first
                                                            | (with_reducible refine br_d (fun _ => ?_) (fun _ => ?_))
                                                            | (with_reducible refine br_i (fun _ => ?_) (fun _ => ?_))
                                                            | ((with_reducible apply nd_next); (case hx => simp -dsimp; first | done | with_reducible rfl); (case hid => simp -dsimp; first | done | with_reducible rfl | exact ⟨rfl, rfl, rfl⟩ | exact ⟨rfl, rfl⟩); (case' h1 => intro _ _ _); (case' h0 => intro _))
                                                            | ((with_reducible apply nd_entry); (case hx => simp -dsimp; first | done | with_reducible rfl); (case hid => simp -dsimp; first | done | with_reducible rfl | exact ⟨rfl, rfl, rfl⟩ | exact ⟨rfl, rfl⟩))
                                                            | ((with_reducible apply nd_range); (case hx => simp -dsimp; with_reducible rfl); (case hT => simp -dsimp); (case hnd => assumption); (case hz => simp -dsimp))
                                                            | (with_reducible refine dn_i follows_any (by kernel_rfl) ?_)
                                                            | (with_reducible exact done_eq rfl)
                                                            | (simp -dsimp))); (all_goals try with_reducible refine done_eq ?_)
  all_goals rfl
theorem asListUsing_a (l : List Tree) (x : D) : ACalls Try.prog 90 [.agg [.d (.tr (.list l))], .c (.d x)] (fun r => r = .c (.d (dL l))) := by
  refine acalls_ex [] Try.func90 (by kernel_rfl) rfl Try.ntmps90 Try.results90 (Nat.le_of_ble_eq_true (by kernel_rfl)) ?_; intro hok w0 S0
  (repeat' (first
                                                            | (with_reducible refine br_d (fun _ => ?_) (fun _ => ?_))
                                                            | (with_reducible refine br_i (fun _ => ?_) (fun _ => ?_))
                                                            | ((with_reducible apply nd_next); (case hx => simp -dsimp; first | done | with_reducible rfl); (case hid => simp -dsimp; first | done | with_reducible rfl | exact ⟨rfl, rfl, rfl⟩ | exact ⟨rfl, rfl⟩); (case' h1 => intro _ _ _); (case' h0 => intro _))
                                                            | ((with_reducible apply nd_entry); (case hx => simp -dsimp; first | done | with_reducible rfl); (case hid => simp -dsimp; first | done | with_reducible rfl | exact ⟨rfl, rfl, rfl⟩ | exact ⟨rfl, rfl⟩))
                                                            | ((with_reducible apply nd_range); (case hx => simp -dsimp; with_reducible rfl); (case hT => simp -dsimp); (case hnd => assumption); (case hz => simp -dsimp))
                                                            | (with_reducible refine dn_i follows_any (by kernel_rfl) ?_)
                                                            | (with_reducible exact done_eq rfl)
                                                            | (simp -dsimp))); (all_goals try with_reducible refine done_eq ?_)
  all_goals rfl
theorem asMapUsing_a (m : List (ByteArray × Tree)) (x : D) : ACalls Try.prog 92 [.agg [.d (.tr (.map m))], .c (.d x)] (fun r => r = .c (.d (dM m))) := by
  refine acalls_ex [] Try.func92 (by kernel_rfl) rfl Try.ntmps92 Try.results92 (Nat.le_of_ble_eq_true (by kernel_rfl)) ?_; intro hok w0 S0
  (repeat' (first
                                                            | (with_reducible refine br_d (fun _ => ?_) (fun _ => ?_))
                                                            | (with_reducible refine br_i (fun _ => ?_) (fun _ => ?_))
                                                            | ((with_reducible apply nd_next); (case hx => simp -dsimp; first | done | with_reducible rfl); (case hid => simp -dsimp; first | done | with_reducible rfl | exact ⟨rfl, rfl, rfl⟩ | exact ⟨rfl, rfl⟩); (case' h1 => intro _ _ _); (case' h0 => intro _))
                                                            | ((with_reducible apply nd_entry); (case hx => simp -dsimp; first | done | with_reducible rfl); (case hid => simp -dsimp; first | done | with_reducible rfl | exact ⟨rfl, rfl, rfl⟩ | exact ⟨rfl, rfl⟩))
                                                            | ((with_reducible apply nd_range); (case hx => simp -dsimp; with_reducible rfl); (case hT => simp -dsimp); (case hnd => assumption); (case hz => simp -dsimp))
                                                            | (with_reducible refine dn_i follows_any (by kernel_rfl) ?_)
                                                            | (with_reducible exact done_eq rfl)
                                                            | (simp -dsimp))); (all_goals try with_reducible refine done_eq ?_)
  all_goals rfl
end Go.Smd
end
