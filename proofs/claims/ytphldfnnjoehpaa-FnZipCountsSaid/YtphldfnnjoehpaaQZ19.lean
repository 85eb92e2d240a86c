/- Part 19 of the proof: Az Zn Pb. -/
import Derived.Test.YtphldfnnjoehpaaQZ13
import Derived.Test.YtphldfnnjoehpaaQZ17
import Derived.Test.YtphldfnnjoehpaaQZ18
import Derived.Test.YtphldfnnjoehpaaQZ16
set_option linter.unusedVariables false
section
set_option linter.unusedSimpArgs false
namespace Go.Smd
open Go.RowKit
section
variable {P : Program} {N : Nat} {w0 : World} {S0 : Env} {ops : Array Oper}
def valsOz (P : Program) (N : Nat) (ops : Array Oper) (full base : List (Nat × Av)) (own : List (Nat × Ow)) (skip : Nat → Bool) : List Nat → Prop
  | [] => True
  | i :: is => (skip i = true ∨ ∃ o, nth ops.toList i = some o ∧ Eff P N full base o own own) ∧ valsOz P N ops full base own skip is
theorem valsOz_spec {full base : List (Nat × Av)} {own : List (Nat × Ow)} {skip : Nat → Bool} : ∀ {is : List Nat}, valsOz P N ops full base own skip is → ∀ i ∈ is, skip i = false → ∀ o, ops[i]? = some o → Eff P N full base o own own
  | [], _, i, hi, _, _, _ => by cases hi
  | j :: is, ⟨h, t⟩, i, hi, hs, o, ho => by
    rcases List.mem_cons.1 hi with rfl | hi
    · rcases h with h | ⟨o', h1, h3⟩
      · rw [hs] at h; cases h
      · have := op_of_nth h1
        rw [ho] at this; cases this; exact h3
    · exact valsOz_spec t i hi hs o ho
def stOz (P : Program) (N : Nat) (ops : Array Oper) (full base : List (Nat × Av)) (is cs : List Nat) : List Nat → List (Nat × Ow) → List (Nat × List (Nat × Ow)) → Prop
  | ps, own, [] => valsOz P N ops full base own (fun i => cs.contains i || ps.any fun p => waits ops 64 p i) is
  | ps, own, (c, own') :: es => valsOz P N ops full base own (fun i => cs.contains i || waits ops 64 i c || ps.any fun p => waits ops 64 p i) is ∧ (∃ o, nth ops.toList c = some o ∧ Eff P N full base o own own') ∧ stOz P N ops full base is cs (c :: ps) own' es
theorem anyX_z {cs : List Nat} {full base : List (Nat × Av)} {K : St → Prop} (D : DQ N ops cs full) {is : List Nat} (ht : topo ops [] is = true) (hall : ∀ i, i < ops.size → i ∈ is) {ownF : List (Nat × Ow)}
    (hK : ∀ σ : St, σ.h = look ownF → (∀ t, σ.tmp t = valT full base t) → K σ) : ∀ (n : Nat) (ps : List Nat) (own : List (Nat × Ow)) (es : List (Nat × List (Nat × Ow))) (listed : Array Bool) (σ : St), (∀ c, c ∈ cs ↔ c ∈ ps ∨ c ∈ es.map (·.1)) → inOrder ops (es.map (·.1)) = true → stOz P N ops full base is cs ps own es → lastO own es = ownF →
      listed.size = ops.size → unl ops.size listed ≤ n → Closed ops listed → AtQ ops full base ps own (es.map (·.1)) listed σ → anyX P N ops K n listed σ := by
  have fin : ∀ (ps : List Nat) (own : List (Nat × Ow)) (es : List (Nat × List (Nat × Ow))) (listed : Array Bool) (σ : St), (∀ c, c ∈ cs ↔ c ∈ ps ∨ c ∈ es.map (·.1)) → lastO own es = ownF → listed.size = ops.size → Region.ready .any ops listed = [] → AtQ ops full base ps own (es.map (·.1)) listed σ → K σ := fun ps own es listed σ hcs hlo hs hr A => by
    have hl : ∀ i, i < ops.size → listed.getD i false = true := fun i hi => by
      rw [getD_two (by rw [hs]; exact hi) false true]
      cases hq : listed.getD i true with
      | true => rfl
      | false =>
        obtain ⟨j, hj⟩ := topo_ready ht (fun _ h => by cases h) hs ⟨i, hall i hi, hq⟩
        rw [hr] at hj; cases hj
    cases es with
    | cons e es =>
      have h1 := A.rl e.1 (by simp)
      rw [hl e.1 (D.lt e.1 ((hcs e.1).2 (.inr (by simp))))] at h1; cases h1
    | nil =>
      simp only [lastO] at hlo
      subst hlo
      refine hK σ A.o fun t => ?_
      by_cases hj : ∃ (j : Nat) (oj : Oper), ops[j]? = some oj ∧ oj.dst = some t
      · obtain ⟨j, oj, h1, h2⟩ := hj
        exact A.t1 j oj t h1 h2 (hl j (Array.getElem?_eq_some_iff.1 h1).1)
      · rw [A.t0 t fun j oj h1 h2 => absurd ⟨j, oj, h1, h2⟩ hj]
        unfold valT
        cases hf : look full t with
        | none => rfl
        | some x => obtain ⟨j, oj, h1, h2⟩ := D.key t (by rw [hf]; rfl); exact absurd ⟨j, oj, h1, h2⟩ hj
  intro n
  induction n with
  | zero =>
    intro ps own es listed σ hcs hio hst hlo hs hu hcl A
    have hr : Region.ready .any ops listed = [] := by
      cases hq : Region.ready .any ops listed with
      | nil => rfl
      | cons i l =>
        obtain ⟨h1, o, ho, _⟩ := mem_ready.1 (show i ∈ Region.ready .any ops listed by rw [hq]; exact List.mem_cons_self ..)
        have := unl_set hs (Array.getElem?_eq_some_iff.1 ho).1 h1
        omega
    exact ⟨hr, fin ps own es listed σ hcs hlo hs hr A⟩
  | succ n ih =>
    intro ps own es listed σ hcs hio hst hlo hs hu hcl A
    refine ⟨fun hr => fin ps own es listed σ hcs hlo hs hr A, fun i hi => ?_⟩
    obtain ⟨hl, o, ho, hr⟩ := mem_ready.1 hi
    have hin := (Array.getElem?_eq_some_iff.1 ho).1
    have hli : listed.getD i false = false := by rw [getD_two (by rw [hs]; exact hin) false true]; exact hl
    have hg := D.gd i o ho
    have hset : ∀ j, (listed.setIfInBounds i true).getD j false = if i = j then true else listed.getD j false := fun j => by
      by_cases e : i = j
      · subst e; simp [hs, hin]
      · rw [if_neg e]; exact getD_set_ne false e
    have hip : i ∉ ps := fun h => by rw [A.pl i h] at hli; cases hli
    have tt : ∀ (σ' : St) (ps' : List Nat) (own' : List (Nat × Ow)) (rest' : List Nat), σ'.h = look own' → (∀ p ∈ ps', p = i ∨ p ∈ ps) → (∀ c ∈ rest', c ≠ i ∧ c ∈ es.map (·.1)) → (∀ t, σ'.tmp t = if o.dst = some t then valT full base t else σ.tmp t) → AtQ ops full base ps' own' rest' (listed.setIfInBounds i true) σ' := fun σ' ps' own' rest' h1 h2 h3 h4 => by
      refine ⟨h1, fun p hp => ?_, fun c hc => ?_, fun j oj t hj hd hlj => ?_, fun t hno => ?_⟩
      · rw [hset]
        split
        · rfl
        · next e => exact A.pl p ((h2 p hp).resolve_left (Ne.symm e))
      · rw [hset, if_neg (Ne.symm (h3 c hc).1)]; exact A.rl c (h3 c hc).2
      · rw [h4]
        by_cases e : o.dst = some t
        · rw [if_pos e]
        · rw [if_neg e]
          rw [hset] at hlj
          by_cases ej : i = j
          · subst ej; rw [ho] at hj; cases hj; exact absurd hd e
          · rw [if_neg ej] at hlj; exact A.t1 j oj t hj hd hlj
      · rw [h4]
        have hne : o.dst ≠ some t := fun e => by
          have := hno i o ho e
          rw [hset, if_pos rfl] at this; cases this
        rw [if_neg hne]
        refine A.t0 t fun j oj hj hd => ?_
        have := hno j oj hj hd
        rw [hset] at this
        by_cases ej : i = j
        · rw [if_pos ej] at this; cases this
        · rw [if_neg ej] at this; exact this
    refine ⟨o, ho, ?_⟩
    unfold opX
    have hgo : guardA ops σ o = some true := by unfold guardA; rw [hg]
    rw [hgo]
    refine ⟨fun _ => ?_, fun h => by cases h⟩
    by_cases hic : i ∈ cs
    ·
      have hie : i ∈ es.map (·.1) := ((hcs i).1 hic).resolve_left hip
      cases es with
      | nil => cases hie
      | cons e es =>
        obtain ⟨c, own'⟩ := e
        have hci : i = c := by
          rcases List.mem_cons.1 hie with h | h
          · exact h
          · exfalso
            simp only [List.map_cons, inOrder, Bool.and_eq_true, List.all_eq_true] at hio
            have h1 := (hio.1 i h).1
            have := waits_listed hcl 64 i h1 fun o' ho' => by rw [ho] at ho'; cases ho'; exact hr
            rw [A.rl c (by simp)] at this; cases this
        subst hci
        obtain ⟨_, ⟨o', ho', heff⟩, hst'⟩ := hst
        have := op_of_nth ho'
        rw [ho] at this; cases this
        simp only [List.map_cons, inOrder, Bool.and_eq_true, List.all_eq_true] at hio
        refine heff σ A.o (A.sees D ho hr own) (fun t => ?_) _ fun σ' h1 h2 => ih (i :: ps) own' es _ σ' (fun c => ?_) hio.2 hst' hlo (by simp [hs]) (by have := unl_set hs hin hl; omega) (hcl.set hi) (tt σ' _ _ _ h1 (fun p hp => List.mem_cons.1 hp) (fun c hc => ⟨by have := (hio.1 c hc).2; simpa using this, by simp only [List.map_cons]; exact List.mem_cons_of_mem _ hc⟩) h2)
        · by_cases hj : ∃ (j : Nat) (oj : Oper), ops[j]? = some oj ∧ oj.dst = some t ∧ listed.getD j false = true
          · obtain ⟨j, oj, h1, h2, h3⟩ := hj
            exact .inl (A.t1 j oj t h1 h2 h3)
          · refine .inr (A.t0 t fun j oj h1 h2 => ?_)
            cases hq : listed.getD j false with
            | false => rfl
            | true => exact absurd ⟨j, oj, h1, h2, hq⟩ hj
        · rw [hcs c]; simp only [List.map_cons, List.mem_cons]; constructor
          · rintro (h | h | h)
            · exact .inl (.inr h)
            · exact .inl (.inl h)
            · exact .inr h
          · rintro ((h | h) | h)
            · exact .inr (.inl h)
            · exact .inl h
            · exact .inr (.inr h)
    · obtain ⟨hdk, hdd⟩ := D.dst i o ho
      obtain ⟨d, hd⟩ := hdd hic
      have hcf : cs.contains i = false := by simpa using hic
      have hpw : (ps.any fun p => waits ops 64 p i) = false := by
        cases hq : ps.any fun p => waits ops 64 p i with
        | false => rfl
        | true =>
          obtain ⟨p, hp, hw⟩ := List.any_eq_true.1 hq
          have := waits_listed hcl 64 p hw fun o' ho' => hcl p o' ho' (A.pl p hp)
          rw [hli] at this; cases this
      have heff : Eff P N full base o own own := by
        cases es with
        | nil => exact valsOz_spec hst i (hall i hin) (by rw [hcf, hpw]; rfl) o ho
        | cons e es =>
          obtain ⟨c, own'⟩ := e
          have hw : waits ops 64 i c = false := by
            cases hq : waits ops 64 i c with
            | false => rfl
            | true =>
              have := waits_listed hcl 64 i hq fun o' ho' => by rw [ho] at ho'; cases ho'; exact hr
              rw [A.rl c (by simp)] at this; cases this
          exact valsOz_spec hst.1 i (hall i hin) (by rw [hcf, hpw, hw]; rfl) o ho
      refine heff σ A.o (A.sees D ho hr own) (fun t => ?_) _ fun σ' h1 h2 => ih ps own es _ σ' hcs hio hst hlo (by simp [hs]) (by have := unl_set hs hin hl; omega) (hcl.set hi) (tt σ' ps own _ h1 (fun p hp => .inr hp) (fun c hc => ⟨fun e => ?_, hc⟩) h2)
      · by_cases hj : ∃ (j : Nat) (oj : Oper), ops[j]? = some oj ∧ oj.dst = some t ∧ listed.getD j false = true
        · obtain ⟨j, oj, h1, h2, h3⟩ := hj
          exact .inl (A.t1 j oj t h1 h2 h3)
        · refine .inr (A.t0 t fun j oj h1 h2 => ?_)
          cases hq : listed.getD j false with
          | false => rfl
          | true => exact absurd ⟨j, oj, h1, h2, hq⟩ hj
      · subst e; exact hic ((hcs c).2 (.inr hc))
theorem aw_drawn_z {id : Nat} {l : List Oper} {Q : Exit → St → Prop} {base : List (Nat × Av)} {own0 : List (Nat × Ow)} (hm : P.follows .mixedOrders = true) (is : List Nat) (full : List (Nat × Av)) (es : List (Nat × List (Nat × Ow)))
    (hok : dqOk N l.toArray (es.map (·.1)) is (full.map (·.1)) = true) (hst : stOz P N l.toArray full base is (es.map (·.1)) [] own0 es)
    (h : Q .normal ⟨full ++ base, lastO own0 es⟩) : AWp P N w0 S0 (.region id l.toArray true) Q ⟨base, own0⟩ := fun β a w s => by
  simp only [dqOk, Bool.and_eq_true] at hok
  obtain ⟨⟨⟨⟨⟨k1, k2⟩, k3⟩, k4⟩, k5⟩, k6⟩ := hok
  have kk : ∀ i o, l.toArray[i]? = some o → o.guard = none ∧ dstOk N o = true ∧ (i ∉ es.map (·.1) → ∃ d, o.dst = some d) ∧ ∀ t ∈ o.looksAt l.toArray, ∀ (j : Nat) (oj : Oper), l.toArray[j]? = some oj → oj.dst = some t → ∃ e ∈ o.after, Region.binds .any e = true ∧ e.on = j := fun i o ho => by
    have := List.all_eq_true.1 k1 i (List.mem_range.2 (Array.getElem?_eq_some_iff.1 ho).1)
    rw [ho] at this
    simp only [Bool.and_eq_true] at this
    obtain ⟨⟨⟨h1, h2⟩, h3⟩, h4⟩ := this
    refine ⟨Option.isNone_iff_eq_none.1 h1, h2, fun hi => ?_, fun t ht j oj hj hd => ?_⟩
    · cases hd : o.dst with
      | none =>
        rw [hd] at h3
        exact absurd (by simpa using h3) hi
      | some d => exact ⟨d, rfl⟩
    · have h5 := List.all_eq_true.1 (List.all_eq_true.1 h4 t ht) j (List.mem_range.2 (Array.getElem?_eq_some_iff.1 hj).1)
      rw [hj] at h5
      simp only [hd, beq_self_eq_true, Bool.not_true, Bool.false_or] at h5
      obtain ⟨e, he, hb⟩ := Array.any_eq_true'.1 h5
      simp only [Bool.and_eq_true, beq_iff_eq] at hb
      exact ⟨e, he, hb.1, hb.2⟩
  have D : DQ N l.toArray (es.map (·.1)) full := ⟨fun i o ho => (kk i o ho).1, fun i o ho => ⟨(kk i o ho).2.1, (kk i o ho).2.2.1⟩, fun i o ho => (kk i o ho).2.2.2, fun t ht => by
    obtain ⟨x, hx⟩ := Option.isSome_iff_exists.1 ht
    have := List.all_eq_true.1 k2 t (List.mem_map.2 ⟨_, look_mem hx, rfl⟩)
    obtain ⟨j, hj, h6⟩ := List.any_eq_true.1 this
    cases ho : l.toArray[j]? with
    | none => rw [ho] at h6; cases h6
    | some oj => rw [ho] at h6; exact ⟨j, oj, ho, by simpa using h6⟩, fun c hc => by have := List.all_eq_true.1 k5 c hc; simpa using this⟩
  have hcl : Closed l.toArray (Array.replicate l.toArray.size false) := fun j o ho hl => by
    rw [Array.getD_eq_getD_getElem?, Array.getElem?_replicate] at hl
    split at hl <;> cases hl
  have hlf : ∀ i, (Array.replicate l.toArray.size false).getD i false = false := fun i => by
    rw [Array.getD_eq_getD_getElem?, Array.getElem?_replicate]; split <;> rfl
  have h1 := anyX_z (P := P) (base := base) (K := fun σ => ∃ τ, Eqv τ σ ∧ Q .normal τ) D k3 (fun i hi => by simpa using List.all_eq_true.1 k4 i (List.mem_range.2 hi))
    (fun σ h2 h3 => ⟨⟨full ++ base, lastO own0 es⟩, ⟨fun t => by rw [full_tmp, h3], h2.symm⟩, h⟩) l.toArray.size [] own0 es (Array.replicate l.toArray.size false) ⟨base, own0⟩ (fun c => by simp) k6 hst rfl (by simp) (by
      have := List.length_filter_le (fun i => !(Array.replicate l.toArray.size false).getD i true) (List.range l.toArray.size)
      rw [List.length_range] at this; exact this) hcl ⟨rfl, fun p h => (by cases h), fun c _ => hlf c, fun j oj t _ _ h => (by rw [hlf] at h; cases h), fun t _ => rfl⟩
  refine wp_region_any hm (anyX_run (fun β σ a w ⟨τ, e, hq⟩ s => ⟨β, τ, hq, s.eqv e.symm⟩) _ _ β _ a _ h1 (s.grow (w' := w.drew) ?_).1)
  exact (Ext.refl w).drew
theorem eff_v {full base : List (Nat × Av)} {own : List (Nat × Ow)} {o : Oper} {d : Tmp} (hd : o.dst = some d) (hdk : dstOk N o = true) (hv : vval P ⟨full ++ base, own⟩ o = some (valT full base d)) : Eff P N full base o own own := fun σ e0 e1 e2 K hK => by
  refine ⟨hdk, ?_⟩
  have : vval P σ o = some (valT full base d) := by rw [← hv]; exact vval_congr e1 e0
  rw [this]
  refine hK _ (by rw [put_h]; exact e0) fun t => ?_
  rw [put_tmp, hd]
  by_cases e : some d = some t
  · rw [if_pos e, if_pos e]; cases e; rfl
  · rw [if_neg e, if_neg e]
theorem eff_c {full base : List (Nat × Av)} {own : List (Nat × Ow)} {o : Oper} {f : FuncId} {args : List Av} {r : Av} {d : Tmp} (hR : ACalls P f args fun x => x = r) (hp : plainCall o.op = true) (hd : o.dst = some d) (hdk : dstOk N o = true)
    (hc : callOf P ⟨full ++ base, own⟩ o = some (f, args, [])) (ha : args.all Av.isD = true) (hv : r = valT full base d) : Eff P N full base o own own := fun σ e0 e1 e2 K hK => by
  refine ⟨hdk, ?_⟩
  rw [vval_plain hp, wstep_none (plain_notW hp)]
  refine .inl ?_
  unfold callK
  rw [callOf_congr e1 (τ := ⟨full ++ base, own⟩) e0, hc]
  refine ⟨ha, _, hR, fun x hx _ => ?_⟩
  subst hx
  refine hK _ (by rw [put_h]; exact e0) fun t => ?_
  show (St.put σ o.dst x).tmp t = _
  rw [put_tmp, hd]
  by_cases e : some d = some t
  · rw [if_pos e, if_pos e]; cases e; exact hv
  · rw [if_neg e, if_neg e]
theorem eff_f {full base : List (Nat × Av)} {own own' : List (Nat × Ow)} {o : Oper} {fn : Fn} {first caps : Array Operand} {d : Tmp} {q : Wres} (hop : o.op = .makeFunc fn first caps) (hd : o.dst = some d) (hdk : dstOk N o = true) (hv0 : funcV fn first.isEmpty caps.isEmpty = none)
    (hq : funcA (look own) d fn first.isEmpty (caps.toList.map (St.mk (full ++ base) own).ev) = some q) (hoo : (q.1, q.2.1) :: own = own') (hv : valT full base d = q.2.2) : Eff P N full base o own own' := fun σ e0 e1 e2 K hK => by
  subst hoo
  refine ⟨hdk, ?_⟩
  have h1 : vval P σ o = none := by obtain ⟨d0, op, ty, pos, af, g⟩ := o; subst hop; exact hv0
  have h2 : wstep P σ o = none := by obtain ⟨d0, op, ty, pos, af, g⟩ := o; subst hop; exact wstep_none rfl
  rw [h1, h2]
  refine .inr (.clo hop hd (q := q) ?_ ?_)
  · rw [e0, ← hq]
    congr 1
    refine List.map_congr_left fun x hx => e1 x ?_
    rw [hop]
    simp only [Op.operands, Array.toList_append, List.mem_append]
    first | exact .inr hx | exact .inr (by simpa using hx) | (simp; exact .inr (by simpa using hx))
  · refine hK _ ?_ fun t => ?_
    · rw [put_h, new_h, e0]; funext i
      simp only [look]
      by_cases e : q.1 = i
      · subst e; simp
      · simp [e, Ne.symm e]
    · rw [put_tmp, hd]
      by_cases e : some d = some t
      · rw [if_pos e, if_pos e]; cases e; exact hv.symm
      · rw [if_neg e, if_neg e]; rfl
end
end Go.Smd
end
section
set_option linter.unusedSimpArgs false
set_option maxRecDepth 100000
set_option maxHeartbeats 8000000
namespace Go.Smd
open Go.RowKit Go.Proofs
def uks (m1 m2 : List (ByteArray × Tree)) : List ByteArray := (fromMs (m1 ++ m2)).map (·.1)
theorem uks_is {m1 m2 : List (ByteArray × Tree)} {ss : List ByteArray} (h : unionKeys m1 m2 ss) : ss = uks m1 m2 :=
  sorted_eq h.1 (fromMs_sorted _) fun q => by rw [uks, fromMs_keys, List.map_append, List.mem_append, h.2]
theorem uks_mem {m1 m2 : List (ByteArray × Tree)} {q : ByteArray} : q ∈ uks m1 m2 ↔ q ∈ m1.map (·.1) ∨ q ∈ m2.map (·.1) := by
  rw [uks, fromMs_keys, List.map_append, List.mem_append]
theorem zipMaps_d (m1 m2 : List (ByteArray × Tree)) (hnd1 : (m1.map (·.1)).Nodup) (hnd2 : (m2.map (·.1)).Nodup) (hl0 : m1.length + m2.length ≤ 8000000000) (hne : ¬ (m1.length = 0 ∧ m2.length = 0)) (f1 : ∀ p ∈ m1, Fits p.2) (f2 : ∀ p ∈ m2, Fits p.2) :
    AProc Try.prog 199 [aAlloc, .c (.d (dM m1)), .c (.d (dM m2)), .c (.fn 1000000000)]
      [(1000000000, .clo (.fn fZip1) [.own 1000000001 0]), (1000000001, cZ (.d (.v (.slice none 0 0))))]
      (fun r own' => r = aV (.bool true) ∧ own' = [(1000000000, .clo (.fn fZip1) [.own 1000000001 0]), (1000000001, cZ (.gs 121026 (uks m1 m2).length)), (121026, .arr (uks m1 m2).length tZ ((uks m1 m2).map (zRow m1 m2)))]) :=
  (zipMaps_p m1 m2 hnd1 hnd2 hl0 hne f1 f2).drop fun r own' ⟨ss, hu, hr, h0, h1, h2⟩ => by
    have := uks_is hu
    subst this
    exact ⟨_, ⟨hr, rfl⟩, by
      intro p hp
      simp only [List.mem_cons, List.not_mem_nil, or_false] at hp
      rcases hp with rfl | rfl | rfl
      · exact h0
      · exact h1
      · exact h2, by rfl, by rw [hr]; rfl⟩
theorem AProc.frz {P : Program} {f : FuncId} {args args' : List Av} {own own' : List (Nat × Ow)} {R : Av → List (Nat × Ow) → Prop} (F : List Nat) (h : AProc P f args' own' R) (ho : (St.mk [] own).frz P F = ⟨[], own'⟩) (ha : args.map (frzA P F (look own)) = args') : AProc P f args own R :=
  ⟨h.1, fun w E β vs s hv => by
    have k := s.frzAll F
    have k2 := k.2
    rw [ho] at k k2
    refine h.2 w E β vs k.1 ?_
    subst ha
    refine All2.of (by rw [List.length_map]; exact hv.length) fun i x v hx hy => ?_
    rw [List.getElem?_map] at hx
    obtain ⟨y, hy', rfl⟩ := Option.map_eq_some_iff.1 hx
    obtain ⟨u, hu, hr⟩ := hv.at hy'
    rw [hy] at hu; cases hu
    exact k2 y v hr⟩
theorem zipMaps_e (m1 m2 : List (ByteArray × Tree)) (hnd1 : (m1.map (·.1)).Nodup) (hnd2 : (m2.map (·.1)).Nodup) (hl0 : m1.length + m2.length ≤ 8000000000) (hne : ¬ (m1.length = 0 ∧ m2.length = 0)) (f1 : ∀ p ∈ m1, Fits p.2) (f2 : ∀ p ∈ m2, Fits p.2) :
    AProc Try.prog 199 [.c (.io 190 1000000002 0), .c (.d (dM m1)), .c (.d (dM m2)), .c (.fn 1000000000)]
      [(1000000000, .clo (.fn fZip1) [.own 1000000001 0]), (1000000001, cZ (.d (.v (.slice none 0 0)))), (1000000002, .cells [] 192)]
      (fun r own' => r = aV (.bool true) ∧ own' = [(1000000000, .clo (.fn fZip1) [.own 1000000001 0]), (1000000001, cZ (.gs 121026 (uks m1 m2).length)), (121026, .arr (uks m1 m2).length tZ ((uks m1 m2).map (zRow m1 m2)))]) :=
  (zipMaps_d m1 m2 hnd1 hnd2 hl0 hne f1 f2).frz [1000000002] rfl rfl
theorem mapZip_q (m1 m2 : List (ByteArray × Tree)) (hnd1 : (m1.map (·.1)).Nodup) (hnd2 : (m2.map (·.1)).Nodup) (hl0 : m1.length + m2.length ≤ 8000000000) (hne : ¬ (m1.length = 0 ∧ m2.length = 0)) (f1 : ∀ p ∈ m1, Fits p.2) (f2 : ∀ p ∈ m2, Fits p.2) :
    AProc Try.prog 84 [.c (.d (dM m1)), .c (.d (dM m2)), aI 1, .c (.fn 1000000000)]
      [(1000000000, .clo (.fn fZip1) [.own 1000000001 0]), (1000000001, cZ (.d (.v (.slice none 0 0))))]
      (fun r own' => r = aV (.bool true) ∧ look own' 1000000000 = some (.clo (.fn fZip1) [.own 1000000001 0]) ∧ look own' 1000000001 = some (cZ (.gs 183026 (uks m1 m2).length)) ∧ look own' 183026 = some (.arr (uks m1 m2).length tZ ((uks m1 m2).map (zRow m1 m2)))) := by
  refine aproc_ex [] Try.func84 (by kernel_rfl) rfl Try.ntmps84 Try.results84 (Nat.le_of_ble_eq_true (by kernel_rfl)) ?_; intro hok w0 S0
  (repeat' (first
                                                            | (with_reducible refine br_d (fun _ => ?_) (fun _ => ?_))
                                                            | (with_reducible refine br_i (fun _ => ?_) (fun _ => ?_))
                                                            | ((with_reducible apply nd_i [] (f := 110)); (case hc => simp -dsimp [funcV]; first | exact ⟨rfl, rfl⟩ | exact ⟨rfl, rfl, rfl⟩); (case hf => exact Try.func110); (case hA => simp -dsimp [funcV] <;> with_reducible rfl); (case hok => simp -dsimp [funcV]); (case hY => simp -dsimp [funcV] <;> with_reducible rfl); (case hO => simp -dsimp [funcV] <;> with_reducible rfl); (case hn => kernel_rfl); (case hb => rfl); (case hN => exact Try.ntmps110); (case hrs => exact Try.results110); (case hl => exact Nat.le_of_ble_eq_true (by kernel_rfl)); intro hok w0 S0)
                                                            | ((with_reducible apply nd_i [] (f := 195)); (case hc => simp -dsimp [funcV]; first | exact ⟨rfl, rfl⟩ | exact ⟨rfl, rfl, rfl⟩); (case hf => exact Try.func195); (case hA => simp -dsimp [funcV] <;> with_reducible rfl); (case hok => simp -dsimp [funcV]); (case hY => simp -dsimp [funcV] <;> with_reducible rfl); (case hO => simp -dsimp [funcV] <;> with_reducible rfl); (case hn => kernel_rfl); (case hb => rfl); (case hN => exact Try.ntmps195); (case hrs => exact Try.results195); (case hl => exact Nat.le_of_ble_eq_true (by kernel_rfl)); intro hok w0 S0)
                                                            | ((with_reducible apply nd_i [] (f := 197)); (case hc => simp -dsimp [funcV]; first | exact ⟨rfl, rfl⟩ | exact ⟨rfl, rfl, rfl⟩); (case hf => exact Try.func197); (case hA => simp -dsimp [funcV] <;> with_reducible rfl); (case hok => simp -dsimp [funcV]); (case hY => simp -dsimp [funcV] <;> with_reducible rfl); (case hO => simp -dsimp [funcV] <;> with_reducible rfl); (case hn => kernel_rfl); (case hb => rfl); (case hN => exact Try.ntmps197); (case hrs => exact Try.results197); (case hl => exact Nat.le_of_ble_eq_true (by kernel_rfl)); intro hok w0 S0)
                                                            | ((with_reducible apply nd_q (ρ := [(1000000000, 4000000000), (1000000001, 4000000001), (1000000002, 3000000010)]) 7 (zipMaps_e m1 m2 hnd1 hnd2 hl0 hne f1 f2)); (case hc => simp -dsimp [funcV] <;> first | exact ⟨rfl, rfl, rfl⟩ | exact ⟨rfl, rfl⟩ | done); (case hx => simp -dsimp [funcV] <;> with_reducible rfl); (case ho => simp -dsimp [funcV]); (case hh => simp -dsimp [funcV]); (case hb => simp -dsimp [funcV]))
                                                            | ((with_reducible apply nd_next); (case hx => simp -dsimp [funcV]; first | done | with_reducible rfl); (case hid => simp -dsimp [funcV]; first | done | with_reducible rfl | exact ⟨rfl, rfl, rfl⟩ | exact ⟨rfl, rfl⟩); (case' h1 => intro _ _ _); (case' h0 => intro _))
                                                            | ((with_reducible apply nd_entry); (case hx => simp -dsimp [funcV]; first | done | with_reducible rfl); (case hid => simp -dsimp [funcV]; first | done | with_reducible rfl | exact ⟨rfl, rfl, rfl⟩ | exact ⟨rfl, rfl⟩))
                                                            | ((with_reducible apply nd_range); (case hx => simp -dsimp [funcV]; with_reducible rfl); (case hT => simp -dsimp [funcV]); (case hnd => assumption); (case hz => simp -dsimp [funcV]))
                                                            | (with_reducible refine dn_i follows_any (by kernel_rfl) ?_)
                                                            | (with_reducible exact done_eq rfl)
                                                            | (simp -dsimp [funcV]))); (all_goals try with_reducible refine done_eq ?_)
  refine ⟨rfl, by simp [look], by simp [look], by simp [look]⟩
def mOf : GV → List (ByteArray × Tree)
  | .mk _ _ _ _ keys l => mapOf keys (treesOf l) []
theorem toMapping_a (g : GV) : ACalls Try.prog 54 [gvA g] (fun r => r = .c (.d (dM (mOf g)))) := by
  obtain ⟨k, n, f, s, keys, l⟩ := g
  refine ⟨⟨_, Try.func54, by kernel_rfl, rfl⟩, fun w S vs hS ha => ?_⟩
  obtain ⟨v, _, rfl, h, ha⟩ := ha.inv
  cases ha.inv0
  obtain ⟨cs, rfl, hg⟩ := gvA_iff.1 h
  refine (toMapping_c keys l k n f s cs w S hg).mono ?_
  rintro e w' ⟨v, rfl, ⟨r, es, clock, rfl, h1, h2, h3⟩, hE⟩
  exact ⟨_, _, rfl, rfl, (RepD.ifc (.mp h3)).mono fun b hb => .inr hb, hE⟩
theorem mOf_ok {k n : Int} {f : Nat} {s : ByteArray} {keys : List ByteArray} {l : List GV} (h : okA Try.prog (gvA (.mk k n f s keys l))) : ((mapOf keys (treesOf l) []).map (·.1)).Nodup ∧ (∀ p ∈ mapOf keys (treesOf l) [], Fits p.2) ∧ (mapOf keys (treesOf l) []).length ≤ l.length := by
  have hk := gv_ok h
  obtain ⟨a, b, c⟩ := mapOf_fits keys (treesOf l) [] (by simp) (by simp) fun t ht => by
    rw [treesOf_eq] at ht
    obtain ⟨x, hx, rfl⟩ := List.mem_map.1 ht
    exact gv_fits (hk.hitem x hx)
  have hl : (treesOf l).length = l.length := by rw [treesOf_eq, List.length_map]
  rw [hl] at c
  exact ⟨a, b, by simpa using c⟩
theorem mOf_len (g : GV) : (mOf g).length = (fldsOf g).length := by
  obtain ⟨k, n, f, s, keys, l⟩ := g
  exact count_eq keys l [] [] .nil (by simp) rfl
theorem mapZip_p (m1 m2 : List (ByteArray × Tree)) (hnd1 : (m1.map (·.1)).Nodup) (hnd2 : (m2.map (·.1)).Nodup) (hl0 : m1.length + m2.length ≤ 8000000000) (hne : ¬ (m1.length = 0 ∧ m2.length = 0)) (f1 : ∀ p ∈ m1, Fits p.2) (f2 : ∀ p ∈ m2, Fits p.2) :
    AProc Try.prog 84 [.c (.d (dM m1)), .c (.d (dM m2)), aI 1, .c (.fn 1000000000)]
      [(1000000000, .clo (.fn fZip1) [.own 1000000001 0]), (1000000001, cZ (.d (.v (.slice none 0 0))))]
      (fun r own' => r = aV (.bool true) ∧ own' = [(1000000000, .clo (.fn fZip1) [.own 1000000001 0]), (1000000001, cZ (.gs 183026 (uks m1 m2).length)), (183026, .arr (uks m1 m2).length tZ ((uks m1 m2).map (zRow m1 m2)))]) :=
  (mapZip_q m1 m2 hnd1 hnd2 hl0 hne f1 f2).drop fun r own' ⟨hr, h0, h1, h2⟩ => ⟨_, ⟨hr, rfl⟩, by
    intro p hp
    simp only [List.mem_cons, List.not_mem_nil, or_false] at hp
    rcases hp with rfl | rfl | rfl
    · exact h0
    · exact h1
    · exact h2, by rfl, by rw [hr]; rfl⟩
theorem zip0_q : AProc Try.prog 199 [aAlloc, .c (.d (dM [])), .c (.d (dM [])), .c (.fn 1000000000)]
      [(1000000000, .clo (.fn fZip1) [.own 1000000001 0]), (1000000001, cZ (.d (.v (.slice none 0 0))))]
      (fun r own' => r = aV (.bool true) ∧ look own' 1000000000 = some (.clo (.fn fZip1) [.own 1000000001 0]) ∧ look own' 1000000001 = some (cZ (.d (.v (.slice none 0 0))))) := by
  refine aproc_ex [(21, ([], [(0, []), (1, []), (2, []), (3, []), (4, []), (5, []), (6, []), (7, []), (8, []), (9, []), (10, []), (11, []), (12, []), (13, [])])), (23, ([], [(0, []), (1, []), (3, []), (4, []), (5, []), (6, []), (7, []), (8, []), (9, []), (10, []), (11, []), (12, []), (13, []), (14, []), (2, [15]), (15, []), (16, []), (17, [])]))] Try.func199 (by kernel_rfl) rfl Try.ntmps199 Try.results199 (Nat.le_of_ble_eq_true (by kernel_rfl)) ?_; intro hok w0 S0
  (repeat' (first
                                                            | (with_reducible refine br_d (fun _ => ?_) (fun _ => ?_))
                                                            | (with_reducible refine br_i (fun _ => ?_) (fun _ => ?_))
                                                            | (with_reducible refine nd_v (length_a []) (by first | rfl | (simp -dsimp [funcV]; done)) ?_)
                                                            | (with_reducible refine nw_v (length_a []) rfl (by first | rfl | (simp -dsimp [funcV]; done)) (by first | rfl | (simp -dsimp [funcV]; done)) ?_)
                                                            | ((with_reducible apply nd_next); (case hx => simp -dsimp [funcV]; first | done | with_reducible rfl); (case hid => simp -dsimp [funcV]; first | done | with_reducible rfl | exact ⟨rfl, rfl, rfl⟩ | exact ⟨rfl, rfl⟩); (case' h1 => intro _ _ _); (case' h0 => intro _))
                                                            | ((with_reducible apply nd_entry); (case hx => simp -dsimp [funcV]; first | done | with_reducible rfl); (case hid => simp -dsimp [funcV]; first | done | with_reducible rfl | exact ⟨rfl, rfl, rfl⟩ | exact ⟨rfl, rfl⟩))
                                                            | ((with_reducible apply nd_range); (case hx => simp -dsimp [funcV]; with_reducible rfl); (case hT => simp -dsimp [funcV]); (case hnd => assumption); (case hz => simp -dsimp [funcV]))
                                                            | (with_reducible refine dn_i follows_any (by kernel_rfl) ?_)
                                                            | (with_reducible exact done_eq rfl)
                                                            | (simp -dsimp [funcV]))); (all_goals try with_reducible refine done_eq ?_)
  refine ⟨rfl, by simp [look], by simp [look]⟩
theorem zip0_e : AProc Try.prog 199 [.c (.io 190 1000000002 0), .c (.d (dM [])), .c (.d (dM [])), .c (.fn 1000000000)]
      [(1000000000, .clo (.fn fZip1) [.own 1000000001 0]), (1000000001, cZ (.d (.v (.slice none 0 0)))), (1000000002, .cells [] 192)]
      (fun r own' => r = aV (.bool true) ∧ own' = [(1000000000, .clo (.fn fZip1) [.own 1000000001 0]), (1000000001, cZ (.d (.v (.slice none 0 0))))]) :=
  (zip0_q.drop fun r own' ⟨hr, h0, h1⟩ => ⟨_, ⟨hr, rfl⟩, by
    intro p hp
    simp only [List.mem_cons, List.not_mem_nil, or_false] at hp
    rcases hp with rfl | rfl
    · exact h0
    · exact h1, by rfl, by rw [hr]; rfl⟩).frz [1000000002] rfl rfl
theorem mapZip_0q : AProc Try.prog 84 [.c (.d (dM [])), .c (.d (dM [])), aI 1, .c (.fn 1000000000)]
      [(1000000000, .clo (.fn fZip1) [.own 1000000001 0]), (1000000001, cZ (.d (.v (.slice none 0 0))))]
      (fun r own' => r = aV (.bool true) ∧ look own' 1000000000 = some (.clo (.fn fZip1) [.own 1000000001 0]) ∧ look own' 1000000001 = some (cZ (.d (.v (.slice none 0 0))))) := by
  refine aproc_ex [] Try.func84 (by kernel_rfl) rfl Try.ntmps84 Try.results84 (Nat.le_of_ble_eq_true (by kernel_rfl)) ?_; intro hok w0 S0
  (repeat' (first
                                                            | (with_reducible refine br_d (fun _ => ?_) (fun _ => ?_))
                                                            | (with_reducible refine br_i (fun _ => ?_) (fun _ => ?_))
                                                            | ((with_reducible apply nd_i [] (f := 110)); (case hc => simp -dsimp [funcV]; first | exact ⟨rfl, rfl⟩ | exact ⟨rfl, rfl, rfl⟩); (case hf => exact Try.func110); (case hA => simp -dsimp [funcV] <;> with_reducible rfl); (case hok => simp -dsimp [funcV]); (case hY => simp -dsimp [funcV] <;> with_reducible rfl); (case hO => simp -dsimp [funcV] <;> with_reducible rfl); (case hn => kernel_rfl); (case hb => rfl); (case hN => exact Try.ntmps110); (case hrs => exact Try.results110); (case hl => exact Nat.le_of_ble_eq_true (by kernel_rfl)); intro hok w0 S0)
                                                            | ((with_reducible apply nd_i [] (f := 195)); (case hc => simp -dsimp [funcV]; first | exact ⟨rfl, rfl⟩ | exact ⟨rfl, rfl, rfl⟩); (case hf => exact Try.func195); (case hA => simp -dsimp [funcV] <;> with_reducible rfl); (case hok => simp -dsimp [funcV]); (case hY => simp -dsimp [funcV] <;> with_reducible rfl); (case hO => simp -dsimp [funcV] <;> with_reducible rfl); (case hn => kernel_rfl); (case hb => rfl); (case hN => exact Try.ntmps195); (case hrs => exact Try.results195); (case hl => exact Nat.le_of_ble_eq_true (by kernel_rfl)); intro hok w0 S0)
                                                            | ((with_reducible apply nd_i [] (f := 197)); (case hc => simp -dsimp [funcV]; first | exact ⟨rfl, rfl⟩ | exact ⟨rfl, rfl, rfl⟩); (case hf => exact Try.func197); (case hA => simp -dsimp [funcV] <;> with_reducible rfl); (case hok => simp -dsimp [funcV]); (case hY => simp -dsimp [funcV] <;> with_reducible rfl); (case hO => simp -dsimp [funcV] <;> with_reducible rfl); (case hn => kernel_rfl); (case hb => rfl); (case hN => exact Try.ntmps197); (case hrs => exact Try.results197); (case hl => exact Nat.le_of_ble_eq_true (by kernel_rfl)); intro hok w0 S0)
                                                            | ((with_reducible apply nd_q (ρ := [(1000000000, 4000000000), (1000000001, 4000000001), (1000000002, 3000000010)]) 7 (zip0_e)); (case hc => simp -dsimp [funcV] <;> first | exact ⟨rfl, rfl, rfl⟩ | exact ⟨rfl, rfl⟩ | done); (case hx => simp -dsimp [funcV] <;> with_reducible rfl); (case ho => simp -dsimp [funcV]); (case hh => simp -dsimp [funcV]); (case hb => simp -dsimp [funcV]))
                                                            | ((with_reducible apply nd_next); (case hx => simp -dsimp [funcV]; first | done | with_reducible rfl); (case hid => simp -dsimp [funcV]; first | done | with_reducible rfl | exact ⟨rfl, rfl, rfl⟩ | exact ⟨rfl, rfl⟩); (case' h1 => intro _ _ _); (case' h0 => intro _))
                                                            | ((with_reducible apply nd_entry); (case hx => simp -dsimp [funcV]; first | done | with_reducible rfl); (case hid => simp -dsimp [funcV]; first | done | with_reducible rfl | exact ⟨rfl, rfl, rfl⟩ | exact ⟨rfl, rfl⟩))
                                                            | ((with_reducible apply nd_range); (case hx => simp -dsimp [funcV]; with_reducible rfl); (case hT => simp -dsimp [funcV]); (case hnd => assumption); (case hz => simp -dsimp [funcV]))
                                                            | (with_reducible refine dn_i follows_any (by kernel_rfl) ?_)
                                                            | (with_reducible exact done_eq rfl)
                                                            | (simp -dsimp [funcV]))); (all_goals try with_reducible refine done_eq ?_)
  refine ⟨rfl, by simp [look], by simp [look]⟩
theorem mapZip_0 : AProc Try.prog 84 [.c (.d (dM [])), .c (.d (dM [])), aI 1, .c (.fn 1000000000)]
      [(1000000000, .clo (.fn fZip1) [.own 1000000001 0]), (1000000001, cZ (.d (.v (.slice none 0 0))))]
      (fun r own' => r = aV (.bool true) ∧ own' = [(1000000000, .clo (.fn fZip1) [.own 1000000001 0]), (1000000001, cZ (.d (.v (.slice none 0 0))))]) :=
  mapZip_0q.drop fun r own' ⟨hr, h0, h1⟩ => ⟨_, ⟨hr, rfl⟩, by
    intro p hp
    simp only [List.mem_cons, List.not_mem_nil, or_false] at hp
    rcases hp with rfl | rfl
    · exact h0
    · exact h1, by rfl, by rw [hr]; rfl⟩
def zRows (m1 m2 : List (ByteArray × Tree)) : List (List D) := (uks m1 m2).map (zRow m1 m2)
theorem zipMaps_0 (a : Int) (b : Int) (c : Nat) (d : ByteArray) (e : List ByteArray) (f : List GV) (a' : Int) (b' : Int) (c' : Nat) (d' : ByteArray) (e' : List ByteArray) (f' : List GV) (t1 : ACalls Try.prog 54 [gvX a b c d e f] (fun r => r = .c (.d (dM [])))) (t2 : ACalls Try.prog 54 [gvX a' b' c' d' e' f'] (fun r => r = .c (.d (dM [])))) :
    ACalls Try.prog 40 [gvX a b c d e f, gvX a' b' c' d' e' f'] (fun r => r = .c (.d (.v (.slice none 0 0)))) := by
  refine acalls_ex [] Try.func40 (by kernel_rfl) rfl Try.ntmps40 Try.results40 (Nat.le_of_ble_eq_true (by kernel_rfl)) ?_; intro hok w0 S0
  clear hok
  have hp := mapZip_0
  (repeat' (first
                                                            | (with_reducible refine br_d (fun _ => ?_) (fun _ => ?_))
                                                            | (with_reducible refine br_i (fun _ => ?_) (fun _ => ?_))
                                                            | ((with_reducible apply nd_next); (case hx => simp -dsimp [funcV]; first | done | with_reducible rfl); (case hid => simp -dsimp [funcV]; first | done | with_reducible rfl | exact ⟨rfl, rfl, rfl⟩ | exact ⟨rfl, rfl⟩); (case' h1 => intro _ _ _); (case' h0 => intro _))
                                                            | ((with_reducible apply nd_entry); (case hx => simp -dsimp [funcV]; first | done | with_reducible rfl); (case hid => simp -dsimp [funcV]; first | done | with_reducible rfl | exact ⟨rfl, rfl, rfl⟩ | exact ⟨rfl, rfl⟩))
                                                            | ((with_reducible apply nd_range); (case hx => simp -dsimp [funcV]; with_reducible rfl); (case hT => simp -dsimp [funcV]); (case hnd => assumption); (case hz => simp -dsimp [funcV]))
                                                            | (with_reducible refine dn_i follows_any (by kernel_rfl) ?_)
                                                            | (with_reducible exact done_eq rfl)
                                                            | (simp -dsimp [funcV]))); (all_goals try with_reducible refine done_eq ?_)
  refine exD_p ?_
  refine aw_drawn_z follows_any [0, 1, 2, 3, 4, 5] [(6, ?m6), (7, ?m7), (8, ?m8), (9, ?m9), (10, ?m10), (11, ?m11)] [(4, ?o4), (5, ?o5)] ?hok ?hst ?hk
  case' hst => refine ⟨?hv0, ⟨_, rfl, ?he0⟩, ⟨?hv1, ⟨_, rfl, ?he1⟩, ?hv2⟩⟩
  case hv0 =>
    refine ⟨.inr ⟨_, rfl, eff_v rfl rfl (by simp -dsimp [valT, funcV] <;> with_reducible rfl)⟩, ?_⟩
    refine ⟨.inr ⟨_, rfl, eff_c (d := 7) (t1) rfl rfl rfl (by simp -dsimp [valT, funcV] <;> (first | done | rfl | exact ⟨rfl, rfl⟩ | exact ⟨rfl, rfl, rfl⟩)) (by simp -dsimp [valT, funcV]) (by simp -dsimp [valT, funcV] <;> with_reducible rfl)⟩, ?_⟩
    refine ⟨.inr ⟨_, rfl, eff_v rfl rfl (by simp -dsimp [valT, funcV] <;> with_reducible rfl)⟩, ?_⟩
    refine ⟨.inr ⟨_, rfl, eff_c (d := 9) (t2) rfl rfl rfl (by simp -dsimp [valT, funcV] <;> (first | done | rfl | exact ⟨rfl, rfl⟩ | exact ⟨rfl, rfl, rfl⟩)) (by simp -dsimp [valT, funcV]) (by simp -dsimp [valT, funcV] <;> with_reducible rfl)⟩, ?_⟩
    refine ⟨.inl (by kernel_rfl), ?_⟩
    refine ⟨.inl (by kernel_rfl), ?_⟩
    exact trivial
  case' he0 => (with_reducible apply eff_f); (case hop => rfl); (case hd => rfl); (case hdk => rfl); (case hv0 => rfl); (case hq => simp -dsimp [valT, funcV] <;> (first | done | rfl | exact ⟨rfl, rfl⟩ | exact ⟨rfl, rfl, rfl⟩)); (case hoo => rfl); (case hv => simp -dsimp [valT, funcV] <;> with_reducible rfl)
  case hv1 =>
    refine ⟨.inr ⟨_, rfl, eff_v rfl rfl (by simp -dsimp [valT, funcV] <;> with_reducible rfl)⟩, ?_⟩
    refine ⟨.inr ⟨_, rfl, eff_c (d := 7) (t1) rfl rfl rfl (by simp -dsimp [valT, funcV] <;> (first | done | rfl | exact ⟨rfl, rfl⟩ | exact ⟨rfl, rfl, rfl⟩)) (by simp -dsimp [valT, funcV]) (by simp -dsimp [valT, funcV] <;> with_reducible rfl)⟩, ?_⟩
    refine ⟨.inr ⟨_, rfl, eff_v rfl rfl (by simp -dsimp [valT, funcV] <;> with_reducible rfl)⟩, ?_⟩
    refine ⟨.inr ⟨_, rfl, eff_c (d := 9) (t2) rfl rfl rfl (by simp -dsimp [valT, funcV] <;> (first | done | rfl | exact ⟨rfl, rfl⟩ | exact ⟨rfl, rfl, rfl⟩)) (by simp -dsimp [valT, funcV]) (by simp -dsimp [valT, funcV] <;> with_reducible rfl)⟩, ?_⟩
    refine ⟨.inl (by kernel_rfl), ?_⟩
    refine ⟨.inl (by kernel_rfl), ?_⟩
    exact trivial
  case' he1 => refine eff_p (d := 11) (ρ := [(1000000000, 10), (1000000001, 5)]) (t := 1) (hR := hp) (hp := rfl) (hd := rfl) (hdk := rfl) (hc := by simp -dsimp [valT, funcV] <;> (first | done | rfl | exact ⟨rfl, rfl⟩ | exact ⟨rfl, rfl, rfl⟩)) (hx := by simp -dsimp [valT, funcV] <;> with_reducible rfl) (ho := by simp -dsimp [valT, funcV]) (hh := by simp -dsimp [valT, funcV]) (hb := by simp -dsimp [valT, funcV]) (h1 := by simp -dsimp [valT, funcV] <;> with_reducible rfl) (hv := by simp -dsimp [valT, funcV] <;> with_reducible rfl) (hfix := ?hf1)
  case hv2 =>
    refine ⟨.inl (by kernel_rfl), ?_⟩
    refine ⟨.inl (by kernel_rfl), ?_⟩
    refine ⟨.inl (by kernel_rfl), ?_⟩
    refine ⟨.inl (by kernel_rfl), ?_⟩
    refine ⟨.inl (by kernel_rfl), ?_⟩
    refine ⟨.inl (by kernel_rfl), ?_⟩
    exact trivial
  case he1 => simp -dsimp [valT, funcV]
  case hok => kernel_rfl
  refine ⟨rfl, ?_⟩
  (repeat' (first
                                                            | (with_reducible refine br_d (fun _ => ?_) (fun _ => ?_))
                                                            | (with_reducible refine br_i (fun _ => ?_) (fun _ => ?_))
                                                            | ((with_reducible apply nd_next); (case hx => simp -dsimp [funcV]; first | done | with_reducible rfl); (case hid => simp -dsimp [funcV]; first | done | with_reducible rfl | exact ⟨rfl, rfl, rfl⟩ | exact ⟨rfl, rfl⟩); (case' h1 => intro _ _ _); (case' h0 => intro _))
                                                            | ((with_reducible apply nd_entry); (case hx => simp -dsimp [funcV]; first | done | with_reducible rfl); (case hid => simp -dsimp [funcV]; first | done | with_reducible rfl | exact ⟨rfl, rfl, rfl⟩ | exact ⟨rfl, rfl⟩))
                                                            | ((with_reducible apply nd_range); (case hx => simp -dsimp [funcV]; with_reducible rfl); (case hT => simp -dsimp [funcV]); (case hnd => assumption); (case hz => simp -dsimp [funcV]))
                                                            | (with_reducible refine dn_i follows_any (by kernel_rfl) ?_)
                                                            | (with_reducible exact done_eq rfl)
                                                            | (simp -dsimp [funcV]))); (all_goals try with_reducible refine done_eq ?_)
theorem zipMaps_a (g1 g2 : GV) (hl1 : (mOf g1).length ≤ 4000000000) (hl2 : (mOf g2).length ≤ 4000000000) : ACalls Try.prog 40 [gvA g1, gvA g2] (fun r => r = .c (.d (oSl tZ (zRows (mOf g1) (mOf g2))))) := by
  have t1 := toMapping_a g1
  have t2 := toMapping_a g2
  obtain ⟨a, b, c, d, e, f⟩ := g1
  obtain ⟨a', b', c', d', e', f'⟩ := g2
  rw [gvA_x] at t1 t2
  rw [gvA_x, gvA_x]
  by_cases hne : (mOf (.mk a b c d e f)).length = 0 ∧ (mOf (.mk a' b' c' d' e' f')).length = 0
  · have e1 := List.eq_nil_of_length_eq_zero hne.1
    have e2 := List.eq_nil_of_length_eq_zero hne.2
    rw [e1] at t1 ⊢
    rw [e2] at t2 ⊢
    exact zipMaps_0 _ _ _ _ _ _ _ _ _ _ _ _ t1 t2
  · refine acalls_ex [] Try.func40 (by kernel_rfl) rfl Try.ntmps40 Try.results40 (Nat.le_of_ble_eq_true (by kernel_rfl)) ?_; intro hok w0 S0
    obtain ⟨n1, f1, _⟩ := mOf_ok (by rw [gvA_x]; exact hok _ (List.mem_cons_self ..) : okA Try.prog (gvA (.mk a b c d e f)))
    obtain ⟨n2, f2, _⟩ := mOf_ok (by rw [gvA_x]; exact hok _ (List.mem_cons_of_mem _ (List.mem_cons_self ..)) : okA Try.prog (gvA (.mk a' b' c' d' e' f')))
    clear hok
    change ((mOf (.mk a b c d e f)).map (·.1)).Nodup at n1
    change ((mOf (.mk a' b' c' d' e' f')).map (·.1)).Nodup at n2
    change ∀ p ∈ mOf (.mk a b c d e f), Fits p.2 at f1
    change ∀ p ∈ mOf (.mk a' b' c' d' e' f'), Fits p.2 at f2
    obtain ⟨m1, hm1⟩ : ∃ m, m = mOf (.mk a b c d e f) := ⟨_, rfl⟩
    obtain ⟨m2, hm2⟩ : ∃ m, m = mOf (.mk a' b' c' d' e' f') := ⟨_, rfl⟩
    rw [← hm1] at t1 n1 f1 hl1 hne ⊢
    rw [← hm2] at t2 n2 f2 hl2 hne ⊢
    clear hm1 hm2
    have hp := mapZip_p m1 m2 n1 n2 (by omega) hne f1 f2
    obtain ⟨n, hn⟩ : ∃ n, n = (uks m1 m2).length := ⟨_, rfl⟩
    have hz : (uks m1 m2).map (zRow m1 m2) = zRows m1 m2 := rfl
    rw [← hn, hz] at hp
    have hnz : zRows m1 m2 ≠ [] := by
      intro h
      have h2 : uks m1 m2 = [] := by simpa [zRows] using h
      have h3 : ∀ q, ¬ (q ∈ m1.map (·.1) ∨ q ∈ m2.map (·.1)) := fun q hq => by have := uks_mem.2 hq; rw [h2] at this; cases this
      apply hne
      constructor
      · cases m1 with
        | nil => rfl
        | cons p l => exact absurd (.inl (by simp)) (h3 p.1)
      · cases m2 with
        | nil => rfl
        | cons p l => exact absurd (.inr (by simp)) (h3 p.1)
    rw [oSl_ne hnz]
    (repeat' (first
                                                            | (with_reducible refine br_d (fun _ => ?_) (fun _ => ?_))
                                                            | (with_reducible refine br_i (fun _ => ?_) (fun _ => ?_))
                                                            | ((with_reducible apply nd_next); (case hx => simp -dsimp [funcV]; first | done | with_reducible rfl); (case hid => simp -dsimp [funcV]; first | done | with_reducible rfl | exact ⟨rfl, rfl, rfl⟩ | exact ⟨rfl, rfl⟩); (case' h1 => intro _ _ _); (case' h0 => intro _))
                                                            | ((with_reducible apply nd_entry); (case hx => simp -dsimp [funcV]; first | done | with_reducible rfl); (case hid => simp -dsimp [funcV]; first | done | with_reducible rfl | exact ⟨rfl, rfl, rfl⟩ | exact ⟨rfl, rfl⟩))
                                                            | ((with_reducible apply nd_range); (case hx => simp -dsimp [funcV]; with_reducible rfl); (case hT => simp -dsimp [funcV]); (case hnd => assumption); (case hz => simp -dsimp [funcV]))
                                                            | (with_reducible refine dn_i follows_any (by kernel_rfl) ?_)
                                                            | (with_reducible exact done_eq rfl)
                                                            | (simp -dsimp [funcV]))); (all_goals try with_reducible refine done_eq ?_)
    refine exD_p ?_
    refine aw_drawn_z follows_any [0, 1, 2, 3, 4, 5] [(6, ?m6), (7, ?m7), (8, ?m8), (9, ?m9), (10, ?m10), (11, ?m11)] [(4, ?o4), (5, ?o5)] ?hok ?hst ?hk
    case' hst => refine ⟨?hv0, ⟨_, rfl, ?he0⟩, ⟨?hv1, ⟨_, rfl, ?he1⟩, ?hv2⟩⟩
    case hv0 =>
      refine ⟨.inr ⟨_, rfl, eff_v rfl rfl (by simp -dsimp [valT, funcV] <;> with_reducible rfl)⟩, ?_⟩
      refine ⟨.inr ⟨_, rfl, eff_c (d := 7) (t1) rfl rfl rfl (by simp -dsimp [valT, funcV] <;> (first | done | rfl | exact ⟨rfl, rfl⟩ | exact ⟨rfl, rfl, rfl⟩)) (by simp -dsimp [valT, funcV]) (by simp -dsimp [valT, funcV] <;> with_reducible rfl)⟩, ?_⟩
      refine ⟨.inr ⟨_, rfl, eff_v rfl rfl (by simp -dsimp [valT, funcV] <;> with_reducible rfl)⟩, ?_⟩
      refine ⟨.inr ⟨_, rfl, eff_c (d := 9) (t2) rfl rfl rfl (by simp -dsimp [valT, funcV] <;> (first | done | rfl | exact ⟨rfl, rfl⟩ | exact ⟨rfl, rfl, rfl⟩)) (by simp -dsimp [valT, funcV]) (by simp -dsimp [valT, funcV] <;> with_reducible rfl)⟩, ?_⟩
      refine ⟨.inl (by kernel_rfl), ?_⟩
      refine ⟨.inl (by kernel_rfl), ?_⟩
      exact trivial
    case' he0 => (with_reducible apply eff_f); (case hop => rfl); (case hd => rfl); (case hdk => rfl); (case hv0 => rfl); (case hq => simp -dsimp [valT, funcV] <;> (first | done | rfl | exact ⟨rfl, rfl⟩ | exact ⟨rfl, rfl, rfl⟩)); (case hoo => rfl); (case hv => simp -dsimp [valT, funcV] <;> with_reducible rfl)
    case hv1 =>
      refine ⟨.inr ⟨_, rfl, eff_v rfl rfl (by simp -dsimp [valT, funcV] <;> with_reducible rfl)⟩, ?_⟩
      refine ⟨.inr ⟨_, rfl, eff_c (d := 7) (t1) rfl rfl rfl (by simp -dsimp [valT, funcV] <;> (first | done | rfl | exact ⟨rfl, rfl⟩ | exact ⟨rfl, rfl, rfl⟩)) (by simp -dsimp [valT, funcV]) (by simp -dsimp [valT, funcV] <;> with_reducible rfl)⟩, ?_⟩
      refine ⟨.inr ⟨_, rfl, eff_v rfl rfl (by simp -dsimp [valT, funcV] <;> with_reducible rfl)⟩, ?_⟩
      refine ⟨.inr ⟨_, rfl, eff_c (d := 9) (t2) rfl rfl rfl (by simp -dsimp [valT, funcV] <;> (first | done | rfl | exact ⟨rfl, rfl⟩ | exact ⟨rfl, rfl, rfl⟩)) (by simp -dsimp [valT, funcV]) (by simp -dsimp [valT, funcV] <;> with_reducible rfl)⟩, ?_⟩
      refine ⟨.inl (by kernel_rfl), ?_⟩
      refine ⟨.inl (by kernel_rfl), ?_⟩
      exact trivial
    case' he1 => refine eff_p (d := 11) (ρ := [(1000000000, 10), (1000000001, 5)]) (t := 1) (hR := hp) (hp := rfl) (hd := rfl) (hdk := rfl) (hc := by simp -dsimp [valT, funcV] <;> (first | done | rfl | exact ⟨rfl, rfl⟩ | exact ⟨rfl, rfl, rfl⟩)) (hx := by simp -dsimp [valT, funcV] <;> with_reducible rfl) (ho := by simp -dsimp [valT, funcV]) (hh := by simp -dsimp [valT, funcV]) (hb := by simp -dsimp [valT, funcV]) (h1 := by simp -dsimp [valT, funcV] <;> with_reducible rfl) (hv := by simp -dsimp [valT, funcV] <;> with_reducible rfl) (hfix := ?hf1)
    case hv2 =>
      refine ⟨.inl (by kernel_rfl), ?_⟩
      refine ⟨.inl (by kernel_rfl), ?_⟩
      refine ⟨.inl (by kernel_rfl), ?_⟩
      refine ⟨.inl (by kernel_rfl), ?_⟩
      refine ⟨.inl (by kernel_rfl), ?_⟩
      refine ⟨.inl (by kernel_rfl), ?_⟩
      exact trivial
    case he1 => simp -dsimp [valT, funcV]
    case hok => kernel_rfl
    refine ⟨rfl, ?_⟩
    (repeat' (first
                                                            | (with_reducible refine br_d (fun _ => ?_) (fun _ => ?_))
                                                            | (with_reducible refine br_i (fun _ => ?_) (fun _ => ?_))
                                                            | ((with_reducible apply nd_next); (case hx => simp -dsimp [funcV]; first | done | with_reducible rfl); (case hid => simp -dsimp [funcV]; first | done | with_reducible rfl | exact ⟨rfl, rfl, rfl⟩ | exact ⟨rfl, rfl⟩); (case' h1 => intro _ _ _); (case' h0 => intro _))
                                                            | ((with_reducible apply nd_entry); (case hx => simp -dsimp [funcV]; first | done | with_reducible rfl); (case hid => simp -dsimp [funcV]; first | done | with_reducible rfl | exact ⟨rfl, rfl, rfl⟩ | exact ⟨rfl, rfl⟩))
                                                            | ((with_reducible apply nd_range); (case hx => simp -dsimp [funcV]; with_reducible rfl); (case hT => simp -dsimp [funcV]); (case hnd => assumption); (case hz => simp -dsimp [funcV]))
                                                            | (with_reducible refine dn_i follows_any (by kernel_rfl) ?_)
                                                            | (with_reducible exact done_eq rfl)
                                                            | (simp -dsimp [funcV]))); (all_goals try with_reducible refine done_eq ?_)
end Go.Smd
end
section
set_option linter.unusedSimpArgs false
set_option maxRecDepth 100000
set_option maxHeartbeats 8000000
namespace Go.Smd
open Go.RowKit Go.Proofs
theorem raw_b {S : Nat → Prop} {w : World} {x : Value} (hx : okVb x = true) {e : Ending} {w' : World} (h : Makes (fun _ u => u = x) w e w') : ∃ v r, e = .returned v ∧ r = aV x ∧ RepA Try.prog (fun b => S b ∨ w.heap.size ≤ b) noB noH w' r v ∧ Ext w w' := by
  obtain ⟨v, rfl, rfl, hE⟩ := h
  exact ⟨_, _, rfl, rfl, RepD.v hx, hE⟩
theorem identical_a (g : GV) : ACalls Try.prog 55 [gvA g, gvA g] (fun r => r = aV (.bool true)) := by
  refine ⟨⟨_, Try.func55, by kernel_rfl, rfl⟩, fun w S vs hS ha => ?_⟩
  obtain ⟨v, _, rfl, h, ha⟩ := ha.inv
  obtain ⟨u, _, rfl, h2, ha⟩ := ha.inv
  cases ha.inv0
  obtain ⟨cs, rfl, hg⟩ := gvA_iff.1 h
  obtain ⟨cv, rfl, hg2⟩ := gvA_iff.1 h2
  exact (ident_c g cs cv w S hg hg2).mono fun e w' h => raw_b rfl h
theorem identical_x (k n : Int) (f : Nat) (s : ByteArray) (ks : List ByteArray) (l : List GV) : ACalls Try.prog 55 [gvX k n f s ks l, gvX k n f s ks l] (fun r => r = aV (.bool true)) := by
  have h := identical_a (.mk k n f s ks l)
  rw [gvA_x] at h; exact h
end Go.Smd
end
