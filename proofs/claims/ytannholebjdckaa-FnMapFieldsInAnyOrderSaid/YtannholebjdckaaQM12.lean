/- Part 12 of the proof: Aq Mn. -/
import Derived.Test.YtannholebjdckaaQM10
import Derived.Test.YtannholebjdckaaQM09
import Derived.Test.YtannholebjdckaaQM11
set_option linter.unusedVariables false
section
set_option linter.unusedSimpArgs false
namespace Go.Smd
open Go.RowKit
section
variable {P : Program} {N : Nat} {w0 : World} {S0 : Env} {ops : Array Oper}
variable (P N ops) in
def anyX (K : St → Prop) : Nat → Array Bool → St → Prop
  | 0, listed, σ => Region.ready .any ops listed = [] ∧ K σ
  | n + 1, listed, σ => (Region.ready .any ops listed = [] → K σ) ∧ ∀ i ∈ Region.ready .any ops listed, ∃ o, ops[i]? = some o ∧ opX P N ops σ o fun σ' => anyX K n (listed.setIfInBounds i true) σ'
theorem anyX_run {K : St → Prop} {Q : Exit → Act → World → Prop} (hQ : ∀ β σ a w, K σ → Sim P N w0 S0 β σ a w → Q .normal a w) : ∀ (n : Nat) (listed : Array Bool) (β : Nat → Value) (σ : St) (a : Act) (w : World), anyX P N ops K n listed σ → Sim P N w0 S0 β σ a w → wpAny P .any ops Q n listed a w
  | 0, listed, β, σ, a, w, h, s => ⟨h.1, hQ β σ a w h.2 s⟩
  | n + 1, listed, β, σ, a, w, h, s => ⟨fun hr => hQ β σ a w (h.1 hr) s, fun i hi => by
    obtain ⟨o, ho, hop⟩ := h.2 i hi
    have h1 := opX_run (Q := Q) s hop
    unfold wpOp
    simp only [ho]
    split at h1
    · next hw => rw [if_pos hw]; exact .inl (Oper.wp_mono (fun a w ⟨β', σ', h2, h3⟩ => anyX_run hQ n _ β' σ' a w h2 h3) h1)
    · next hw =>
      rw [if_neg hw]
      obtain ⟨β', σ', h2, h3⟩ := h1
      exact anyX_run hQ n _ β' σ' _ w h2 h3⟩
def unl (n : Nat) (listed : Array Bool) : Nat := ((List.range n).filter fun i => !listed.getD i true).length
theorem filter_le {α : Type} {p q : α → Bool} : ∀ {l : List α}, (∀ x ∈ l, q x = true → p x = true) → (l.filter q).length ≤ (l.filter p).length
  | [], _ => by simp
  | y :: l, h => by
    have ih := filter_le (l := l) fun x hx => h x (List.mem_cons_of_mem _ hx)
    have hy := h y (List.mem_cons_self ..)
    cases hq : q y with
    | true => simp [List.filter_cons, hq, hy hq]; exact ih
    | false => cases hp : p y <;> simp [List.filter_cons, hq, hp] <;> omega
theorem filter_less {α : Type} {p q : α → Bool} : ∀ {l : List α}, (∀ x ∈ l, q x = true → p x = true) → (∃ x ∈ l, p x = true ∧ q x = false) → (l.filter q).length < (l.filter p).length
  | [], _, h => by obtain ⟨x, hx, _⟩ := h; cases hx
  | y :: l, hpq, h => by
    have hle : (l.filter q).length ≤ (l.filter p).length := filter_le fun x hx => hpq x (List.mem_cons_of_mem _ hx)
    obtain ⟨x, hx, h1, h2⟩ := h
    rcases List.mem_cons.1 hx with rfl | hx
    · simp [List.filter_cons, h1, h2]; omega
    · have ih := filter_less (fun x hx => hpq x (List.mem_cons_of_mem _ hx)) ⟨x, hx, h1, h2⟩
      have hy := hpq y (List.mem_cons_self ..)
      cases hq : q y with
      | true => simp [List.filter_cons, hq, hy hq]; exact ih
      | false => cases hp : p y <;> simp [List.filter_cons, hq, hp] <;> omega
theorem getD_two {listed : Array Bool} {i : Nat} (h : i < listed.size) (x y : Bool) : listed.getD i x = listed.getD i y := by simp [h]
theorem unl_set {n : Nat} {listed : Array Bool} {i : Nat} (hs : listed.size = n) (hi : i < n) (h : listed.getD i true = false) : unl n (listed.setIfInBounds i true) < unl n listed := by
  refine filter_less (fun x hx hq => ?_) ⟨i, List.mem_range.2 hi, by rw [h]; rfl, ?_⟩
  · by_cases e : i = x
    · subst e; rw [h]; rfl
    · have hx := List.mem_range.1 hx
      simpa [Array.getElem?_setIfInBounds, e, hs, hx] using hq
  · simp [hs, hi]
def topo (ops : Array Oper) : List Nat → List Nat → Bool
  | _, [] => true
  | done, i :: is => (match ops[i]? with | some o => o.after.all fun e => !Region.binds .any e || done.contains e.on | none => false) && topo ops (i :: done) is
theorem topo_ready {listed : Array Bool} : ∀ {is done : List Nat}, topo ops done is = true → (∀ i ∈ done, listed.getD i false = true) → listed.size = ops.size → (∃ i ∈ is, listed.getD i true = false) → ∃ i, i ∈ Region.ready .any ops listed
  | [], _, _, _, _, h => by obtain ⟨i, hi, _⟩ := h; cases hi
  | i :: is, done, ht, hd, hs, h => by
    simp only [topo, Bool.and_eq_true] at ht
    obtain ⟨h1, h2⟩ := ht
    cases hl : listed.getD i true with
    | false =>
      refine ⟨i, mem_ready.2 ⟨hl, ?_⟩⟩
      cases ho : ops[i]? with
      | none => rw [ho] at h1; cases h1
      | some o =>
        rw [ho] at h1
        refine ⟨o, rfl, fun e he hb => ?_⟩
        have := (Array.all_eq_true_iff_forall_mem.1 h1) e he
        simp only [hb, Bool.not_true, Bool.false_or] at this
        exact hd e.on (by simpa using this)
    | true =>
      obtain ⟨j, hj, hjl⟩ := h
      have hij : j ≠ i := fun e => by rw [e, hl] at hjl; cases hjl
      refine topo_ready h2 (fun k hk => ?_) hs ⟨j, (List.mem_cons.1 hj).resolve_left hij, hjl⟩
      rcases List.mem_cons.1 hk with rfl | hk
      · have hlt : k < listed.size := by
          rw [hs]
          cases ho : ops[k]? with
          | none => rw [ho] at h1; cases h1
          | some o => exact (Array.getElem?_eq_some_iff.1 ho).1
        rw [getD_two hlt false true]; exact hl
      · exact hd k hk
def valT (full base : List (Nat × Av)) (t : Nat) : Av := match look full t with | some x => x | none => (look base t).getD .any
structure DOk (P : Program) (N : Nat) (ops : Array Oper) (c : Nat) (full base : List (Nat × Av)) (own0 own1 : List (Nat × Ow)) : Prop where
  gd : ∀ (i : Nat) (o : Oper), ops[i]? = some o → o.guard = none
  dst : ∀ (i : Nat) (o : Oper), ops[i]? = some o → i ≠ c → dstOk N o = true ∧ ∃ d, o.dst = some d ∧ (look full d).isSome = true
  dep : ∀ (i : Nat) (o : Oper), ops[i]? = some o → ∀ t ∈ o.looksAt ops, ∀ (j : Nat) (oj : Oper), ops[j]? = some oj → oj.dst = some t → ∃ e ∈ o.after, Region.binds .any e = true ∧ e.on = j
  key : ∀ t, (look full t).isSome = true → ∃ (j : Nat) (oj : Oper), ops[j]? = some oj ∧ oj.dst = some t
  v0 : ∀ (i : Nat) (o : Oper) (d : Tmp), ops[i]? = some o → i ≠ c → o.dst = some d → waits ops 64 i c = true ∨ vval P ⟨full ++ base, own0⟩ o = some (valT full base d)
  v1 : ∀ (i : Nat) (o : Oper) (d : Tmp), ops[i]? = some o → i ≠ c → o.dst = some d → waits ops 64 c i = true ∨ vval P ⟨full ++ base, own1⟩ o = some (valT full base d)
  eff : ∀ (o : Oper), ops[c]? = some o → ∀ σ : St, σ.own = own0 → (∀ x ∈ o.op.operands, σ.ev x = (St.mk (full ++ base) own0).ev x) → (∀ t, σ.tmp t = valT full base t ∨ σ.tmp t = (look base t).getD .any) →
    ∀ K : St → Prop, (∀ σ' : St, σ'.h = look own1 → (∀ t, σ'.tmp t = if o.dst = some t then valT full base t else σ.tmp t) → K σ') → execX P N σ o K
theorem full_tmp (full base : List (Nat × Av)) (own : List (Nat × Ow)) (t : Nat) : (St.mk (full ++ base) own).tmp t = valT full base t := by
  simp only [St.tmp, look_append, valT]
  cases look full t <;> rfl
structure AtL (ops : Array Oper) (c : Nat) (full base : List (Nat × Av)) (own0 own1 : List (Nat × Ow)) (listed : Array Bool) (σ : St) : Prop where
  o0 : listed.getD c false = false → σ.own = own0
  o1 : listed.getD c false = true → σ.h = look own1
  t1 : ∀ (j : Nat) (oj : Oper) (t : Tmp), ops[j]? = some oj → oj.dst = some t → listed.getD j false = true → σ.tmp t = valT full base t
  t0 : ∀ t : Tmp, (∀ (j : Nat) (oj : Oper), ops[j]? = some oj → oj.dst = some t → listed.getD j false = false) → σ.tmp t = (look base t).getD .any
theorem AtL.sees {c : Nat} {full base : List (Nat × Av)} {own0 own1 : List (Nat × Ow)} {listed : Array Bool} {σ : St} (A : AtL ops c full base own0 own1 listed σ) (D : DOk P N ops c full base own0 own1) {i : Nat} {o : Oper} (ho : ops[i]? = some o) (hr : ∀ e ∈ o.after, Region.binds .any e = true → listed.getD e.on false = true) (own : List (Nat × Ow)) :
    ∀ x ∈ o.op.operands, σ.ev x = (St.mk (full ++ base) own).ev x := by
  refine ops_looks (ops := ops) fun t ht => ?_
  rw [full_tmp]
  by_cases hj : ∃ (j : Nat) (oj : Oper), ops[j]? = some oj ∧ oj.dst = some t
  · obtain ⟨j, oj, h1, h2⟩ := hj
    obtain ⟨e, he, hb, rfl⟩ := D.dep i o ho t ht j oj h1 h2
    exact A.t1 _ oj t h1 h2 (hr e he hb)
  · rw [A.t0 t fun j oj h1 h2 => absurd ⟨j, oj, h1, h2⟩ hj]
    unfold valT
    cases hf : look full t with
    | none => rfl
    | some x => obtain ⟨j, oj, h1, h2⟩ := D.key t (by rw [hf]; rfl); exact absurd ⟨j, oj, h1, h2⟩ hj
theorem anyX_of {c : Nat} {full base : List (Nat × Av)} {own0 own1 : List (Nat × Ow)} {K : St → Prop} (D : DOk P N ops c full base own0 own1) {is : List Nat} (ht : topo ops [] is = true) (hall : ∀ i, i < ops.size → i ∈ is) (hc : c < ops.size)
    (hK : ∀ σ : St, σ.h = look own1 → (∀ t, σ.tmp t = valT full base t) → K σ) : ∀ (n : Nat) (listed : Array Bool) (σ : St), listed.size = ops.size → unl ops.size listed ≤ n → Closed ops listed → AtL ops c full base own0 own1 listed σ → anyX P N ops K n listed σ := by
  have fin : ∀ (listed : Array Bool) (σ : St), listed.size = ops.size → Region.ready .any ops listed = [] → AtL ops c full base own0 own1 listed σ → K σ := fun listed σ hs hr A => by
    have hl : ∀ i, i < ops.size → listed.getD i false = true := fun i hi => by
      rw [getD_two (by rw [hs]; exact hi) false true]
      cases hq : listed.getD i true with
      | true => rfl
      | false =>
        obtain ⟨j, hj⟩ := topo_ready ht (fun _ h => by cases h) hs ⟨i, hall i hi, hq⟩
        rw [hr] at hj; cases hj
    refine hK σ (A.o1 (hl c hc)) fun t => ?_
    by_cases hj : ∃ (j : Nat) (oj : Oper), ops[j]? = some oj ∧ oj.dst = some t
    · obtain ⟨j, oj, h1, h2⟩ := hj
      exact A.t1 j oj t h1 h2 (hl j (Array.getElem?_eq_some_iff.1 h1).1)
    · rw [A.t0 t fun j oj h1 h2 => absurd ⟨j, oj, h1, h2⟩ hj]
      unfold valT
      cases hf : look full t with
      | none => rfl
      | some x => obtain ⟨j, oj, h1, h2⟩ := D.key t (by rw [hf]; rfl); exact absurd ⟨j, oj, h1, h2⟩ hj
  intro n
  induction n with
  | zero =>
    intro listed σ hs hu hcl A
    have hr : Region.ready .any ops listed = [] := by
      cases hq : Region.ready .any ops listed with
      | nil => rfl
      | cons i l =>
        obtain ⟨h1, o, ho, _⟩ := mem_ready.1 (show i ∈ Region.ready .any ops listed by rw [hq]; exact List.mem_cons_self ..)
        have := unl_set hs (Array.getElem?_eq_some_iff.1 ho).1 h1
        omega
    exact ⟨hr, fin listed σ hs hr A⟩
  | succ n ih =>
    intro listed σ hs hu hcl A
    refine ⟨fun hr => fin listed σ hs hr A, fun i hi => ?_⟩
    obtain ⟨hl, o, ho, hr⟩ := mem_ready.1 hi
    have hin := (Array.getElem?_eq_some_iff.1 ho).1
    have hli : listed.getD i false = false := by rw [getD_two (by rw [hs]; exact hin) false true]; exact hl
    have hg := D.gd i o ho
    have hset : ∀ j, (listed.setIfInBounds i true).getD j false = if i = j then true else listed.getD j false := fun j => by
      by_cases e : i = j
      · subst e; simp [hs, hin]
      · rw [if_neg e]; exact getD_set_ne false e
    have nxt : ∀ σ', (i ≠ c → σ'.own = σ.own) → (i = c → σ'.h = look own1) → (∀ t, σ'.tmp t = if o.dst = some t then valT full base t else σ.tmp t) → anyX P N ops K n (listed.setIfInBounds i true) σ' := fun σ' h1 h2 h3 => by
      refine ih _ σ' (by simp [hs]) (by have := unl_set hs hin hl; omega) (hcl.set hi) ⟨fun h => ?_, fun h => ?_, fun j oj t hj hd hlj => ?_, fun t hno => ?_⟩
      · rw [hset] at h
        by_cases e : i = c
        · rw [if_pos e] at h; cases h
        · rw [if_neg e] at h; rw [h1 e]; exact A.o0 h
      · rw [hset] at h
        by_cases e : i = c
        · exact h2 e
        · rw [if_neg e] at h
          have : σ'.h = σ.h := by show look σ'.own = look σ.own; rw [h1 e]
          rw [this]; exact A.o1 h
      · rw [h3]
        by_cases e : o.dst = some t
        · rw [if_pos e]
        · rw [if_neg e]
          rw [hset] at hlj
          by_cases ej : i = j
          · subst ej; rw [ho] at hj; cases hj; exact absurd hd e
          · rw [if_neg ej] at hlj; exact A.t1 j oj t hj hd hlj
      · rw [h3]
        have hne : o.dst ≠ some t := fun e => by
          have := hno i o ho e
          rw [hset, if_pos rfl] at this; cases this
        rw [if_neg hne]
        refine A.t0 t fun j oj hj hd => ?_
        have := hno j oj hj hd
        rw [hset] at this
        by_cases ej : i = j
        · rw [if_pos ej] at this; cases this
        · rw [if_neg ej] at this; exact this
    refine ⟨o, ho, ?_⟩
    unfold opX
    have hgo : guardA ops σ o = some true := by unfold guardA; rw [hg]
    rw [hgo]
    refine ⟨fun _ => ?_, fun h => by cases h⟩
    by_cases hic : i = c
    · subst hic
      refine D.eff o ho σ (A.o0 hli) (A.sees D ho hr own0) (fun t => ?_) _ fun σ' h1 h2 => nxt σ' (fun h => absurd rfl h) (fun _ => h1) h2
      by_cases hj : ∃ (j : Nat) (oj : Oper), ops[j]? = some oj ∧ oj.dst = some t ∧ listed.getD j false = true
      · obtain ⟨j, oj, h1, h2, h3⟩ := hj
        exact .inl (A.t1 j oj t h1 h2 h3)
      · refine .inr (A.t0 t fun j oj h1 h2 => ?_)
        cases hq : listed.getD j false with
        | false => rfl
        | true => exact absurd ⟨j, oj, h1, h2, hq⟩ hj
    · obtain ⟨hdk, d, hd, hfd⟩ := D.dst i o ho hic
      have hv : vval P σ o = some (valT full base d) := by
        cases hq : listed.getD c false with
        | false =>
          rcases D.v0 i o d ho hic hd with h | h
          · have := waits_listed hcl 64 i h fun o' ho' => by rw [ho] at ho'; cases ho'; exact hr
            rw [hq] at this; cases this
          · rw [← h]
            refine vval_congr (A.sees D ho hr own0) ?_
            show look σ.own = look own0
            rw [A.o0 hq]
        | true =>
          rcases D.v1 i o d ho hic hd with h | h
          · have := waits_listed hcl 64 c h fun o' ho' => hcl c o' ho' hq
            rw [hli] at this; cases this
          · rw [← h]
            refine vval_congr (A.sees D ho hr own1) ?_
            exact A.o1 hq
      refine ⟨hdk, ?_⟩
      rw [hv]
      refine nxt _ (fun _ => by rw [hd]; rfl) (fun h => absurd h hic) fun t => ?_
      rw [put_tmp]
      by_cases e : o.dst = some t
      · rw [if_pos e, if_pos e]
        rw [hd] at e; cases e; rfl
      · rw [if_neg e, if_neg e]
theorem aw_drawn1 {id : Nat} {l : List Oper} {Q : Exit → St → Prop} {base : List (Nat × Av)} {own0 : List (Nat × Ow)} (hm : P.follows .mixedOrders = true) (c : Nat) (is : List Nat) (full : List (Nat × Av)) (own1 : List (Nat × Ow))
    (D : DOk P N l.toArray c full base own0 own1) (ht : topo l.toArray [] is = true) (hall : (List.range l.toArray.size).all is.contains = true) (hc : c < l.toArray.size) (h : Q .normal ⟨full ++ base, own1⟩) : AWp P N w0 S0 (.region id l.toArray true) Q ⟨base, own0⟩ := fun β a w s => by
  have hcl : Closed l.toArray (Array.replicate l.toArray.size false) := fun j o ho hl => by
    rw [Array.getD_eq_getD_getElem?, Array.getElem?_replicate] at hl
    split at hl <;> cases hl
  have hlf : ∀ i, (Array.replicate l.toArray.size false).getD i false = false := fun i => by
    rw [Array.getD_eq_getD_getElem?, Array.getElem?_replicate]; split <;> rfl
  have h1 := anyX_of (K := fun σ => ∃ τ, Eqv τ σ ∧ Q .normal τ) D ht (fun i hi => by simpa using List.all_eq_true.1 hall i (List.mem_range.2 hi)) hc
    (fun σ h2 h3 => ⟨⟨full ++ base, own1⟩, ⟨fun t => by rw [full_tmp, h3], h2.symm⟩, h⟩) l.toArray.size (Array.replicate l.toArray.size false) ⟨base, own0⟩ (by simp) (by
      have := List.length_filter_le (fun i => !(Array.replicate l.toArray.size false).getD i true) (List.range l.toArray.size)
      rw [List.length_range] at this; exact this) hcl ⟨fun _ => rfl, fun h => (by rw [hlf] at h; cases h), fun j oj t _ _ h => (by rw [hlf] at h; cases h), fun t _ => rfl⟩
  refine wp_region_any hm (anyX_run (fun β σ a w ⟨τ, e, hq⟩ s => ⟨β, τ, hq, s.eqv e.symm⟩) _ _ β _ a _ h1 (s.grow (w' := w.drew) ?_).1)
  exact (Ext.refl w).drew
theorem vval_plain {σ : St} {o : Oper} (hp : plainCall o.op = true) : vval P σ o = none := by
  obtain ⟨dst, op, type, pos, after, guard⟩ := o
  cases op <;> simp only [plainCall, Bool.false_eq_true] at hp <;> simp only [vval]
  case call c =>
    unfold lenCall
    split
    · next hc => simp [hc] at hp
    · next hc => simp [hc] at hp
    · rfl
theorem eff_proc {σ : St} {full base : List (Nat × Av)} {own0 own1 : List (Nat × Ow)} {o : Oper} {f : FuncId} {xs args : List Av} {Ts : List TypeId} {ownA ownB : List (Nat × Ow)} {ρ : List (Nat × Nat)} {r0 : Av} {d : Tmp} (t : Nat) (hp : plainCall o.op = true) (hd : o.dst = some d) (hdk : dstOk N o = true)
    (hc : calleeOf P ⟨full ++ base, own0⟩ o = some (f, xs, Ts)) (hx : argsC P [] (look own0) xs Ts = args.map (Av.ren (renI ρ t))) (ho : handOk ρ args ownA = true) (hh : handed (look own0) (renI ρ t) ownA) (hR : AProc P f args ownA fun r own' => r = r0 ∧ own' = ownB)
    (hb : backOk ⟨[], own0⟩ ρ t ownB = true) (h1 : mapV (Ow.fix (look (backH ⟨[], own0⟩ ρ t ownB))) (backH ⟨[], own0⟩ ρ t ownB) = own1) (hv : (r0.ren (renI ρ t)).fix (look (backH ⟨[], own0⟩ ρ t ownB)) = valT full base d)
    (hfix : ∀ p ∈ full ++ base, p.2.fix (look (backH ⟨[], own0⟩ ρ t ownB)) = p.2)
    (e0 : σ.own = own0) (e1 : ∀ x ∈ o.op.operands, σ.ev x = (St.mk (full ++ base) own0).ev x) (e2 : ∀ t, σ.tmp t = valT full base t ∨ σ.tmp t = (look base t).getD .any) (K : St → Prop)
    (hK : ∀ σ' : St, σ'.h = look own1 → (∀ t, σ'.tmp t = if o.dst = some t then valT full base t else σ.tmp t) → K σ') : execX P N σ o K := by
  have hsh : σ.h = look own0 := by show look σ.own = _; rw [e0]
  have hH : backH σ ρ t ownB = backH ⟨[], own0⟩ ρ t ownB := by unfold backH; rw [e0]
  have hfx : ∀ t', (σ.tmp t').fix (look (backH ⟨[], own0⟩ ρ t ownB)) = σ.tmp t' := fun t' => by
    have hl : ∀ {l : List (Nat × Av)}, (∀ p ∈ l, p ∈ full ++ base) → ∀ x, look l t' = some x → x.fix (look (backH ⟨[], own0⟩ ρ t ownB)) = x := fun {l} hl x hx => hfix _ (hl _ (look_mem hx))
    rcases e2 t' with h | h <;> rw [h]
    · unfold valT
      cases hq : look full t' with
      | some x => exact hl (fun p hp => List.mem_append_left _ hp) x hq
      | none =>
        cases hq2 : look base t' with
        | some x => exact hl (fun p hp => List.mem_append_right _ hp) x hq2
        | none => rfl
    · cases hq2 : look base t' with
      | some x => exact hl (fun p hp => List.mem_append_right _ hp) x hq2
      | none => rfl
  refine ⟨hdk, ?_⟩
  rw [vval_plain hp, wstep_none (plain_notW hp)]
  refine .inr (.proc (t := t) (ρ := ρ) (own0 := ownA) (args := args) (by rw [calleeOf_congr e1 hsh, hc]) (by rw [hsh]; exact hx) ho (by rw [hsh]; exact hh) hR ?_)
  rintro r own' ⟨rfl, rfl⟩
  refine ⟨by unfold backOk at hb ⊢; rw [e0]; exact hb, hK _ ?_ fun t' => ?_⟩
  · rw [put_h]
    show look (σ.back ρ t own').own = _
    unfold St.back
    simp only [hH, h1]
  · rw [put_tmp, hH, hv, hd]
    by_cases e : some d = some t'
    · rw [if_pos e, if_pos e]; cases e; rfl
    · rw [if_neg e, if_neg e]
      have : (σ.back ρ t own').tmp t' = (σ.tmp t').fix (look (backH σ ρ t own')) := by
        unfold St.back St.tmp
        simp only [mapV_eq, look_map, look_dedup]
        cases look σ.tmps t' <;> rfl
      rw [this, hH]; exact hfx t'
def d1Ok (N : Nat) (ops : Array Oper) (c : Nat) (is : List Nat) (ks : List Nat) : Bool :=
  (List.range ops.size).all (fun i => match ops[i]? with
    | some o => o.guard.isNone && dstOk N o && (match o.dst with | some d => ks.contains d | none => false) &&
      (o.looksAt ops).all (fun t => (List.range ops.size).all fun j => (match ops[j]? with | some oj => !(oj.dst == some t) || o.after.any (fun e => Region.binds .any e && e.on == j) | none => true))
    | none => false) &&
  ks.all (fun t => (List.range ops.size).any fun j => match ops[j]? with | some oj => oj.dst == some t | none => false) &&
  topo ops [] is && (List.range ops.size).all is.contains && decide (c < ops.size)
def valsOk (P : Program) (ops : Array Oper) (full base : List (Nat × Av)) (own : List (Nat × Ow)) (skip : Nat → Bool) : List Nat → Prop
  | [] => True
  | i :: is => (skip i = true ∨ ∃ o d, nth ops.toList i = some o ∧ o.dst = some d ∧ vval P ⟨full ++ base, own⟩ o = some (valT full base d)) ∧ valsOk P ops full base own skip is
theorem valsOk_spec {full base : List (Nat × Av)} {own : List (Nat × Ow)} {skip : Nat → Bool} : ∀ {is : List Nat}, valsOk P ops full base own skip is → ∀ i ∈ is, skip i = false → ∀ o d, ops[i]? = some o → o.dst = some d → vval P ⟨full ++ base, own⟩ o = some (valT full base d)
  | [], _, i, hi, _, _, _, _, _ => by cases hi
  | j :: is, ⟨h, t⟩, i, hi, hs, o, d, ho, hd => by
    rcases List.mem_cons.1 hi with rfl | hi
    · rcases h with h | ⟨o', d', h1, h2, h3⟩
      · rw [hs] at h; cases h
      · have := op_of_nth h1
        rw [ho] at this; cases this
        rw [hd] at h2; cases h2
        exact h3
    · exact valsOk_spec t i hi hs o d ho hd
theorem aw_drawn_p {id : Nat} {l : List Oper} {Q : Exit → St → Prop} {base : List (Nat × Av)} {own0 : List (Nat × Ow)} (hm : P.follows .mixedOrders = true) (c : Nat) (is : List Nat) (full : List (Nat × Av)) (own1 : List (Nat × Ow))
    (hok : d1Ok N l.toArray c is (full.map (·.1)) = true) (h0 : valsOk P l.toArray full base own0 (fun i => i == c || waits l.toArray 64 i c) is) (h1 : valsOk P l.toArray full base own1 (fun i => i == c || waits l.toArray 64 c i) is)
    (he : ∀ (o : Oper), l.toArray[c]? = some o → ∀ σ : St, σ.own = own0 → (∀ x ∈ o.op.operands, σ.ev x = (St.mk (full ++ base) own0).ev x) → (∀ t, σ.tmp t = valT full base t ∨ σ.tmp t = (look base t).getD .any) →
      ∀ K : St → Prop, (∀ σ' : St, σ'.h = look own1 → (∀ t, σ'.tmp t = if o.dst = some t then valT full base t else σ.tmp t) → K σ') → execX P N σ o K)
    (h : Q .normal ⟨full ++ base, own1⟩) : AWp P N w0 S0 (.region id l.toArray true) Q ⟨base, own0⟩ := by
  simp only [d1Ok, Bool.and_eq_true, decide_eq_true_eq] at hok
  obtain ⟨⟨⟨⟨k1, k2⟩, k3⟩, k4⟩, k5⟩ := hok
  have hall : ∀ i, i < l.toArray.size → i ∈ is := fun i hi => by simpa using List.all_eq_true.1 k4 i (List.mem_range.2 hi)
  have kk : ∀ i o, l.toArray[i]? = some o → o.guard = none ∧ dstOk N o = true ∧ (∃ d, o.dst = some d ∧ (look full d).isSome = true) ∧ ∀ t ∈ o.looksAt l.toArray, ∀ (j : Nat) (oj : Oper), l.toArray[j]? = some oj → oj.dst = some t → ∃ e ∈ o.after, Region.binds .any e = true ∧ e.on = j := fun i o ho => by
    have := List.all_eq_true.1 k1 i (List.mem_range.2 (Array.getElem?_eq_some_iff.1 ho).1)
    rw [ho] at this
    simp only [Bool.and_eq_true] at this
    obtain ⟨⟨⟨h1, h2⟩, h3⟩, h4⟩ := this
    refine ⟨Option.isNone_iff_eq_none.1 h1, h2, ?_, fun t ht j oj hj hd => ?_⟩
    · cases hd : o.dst with
      | none => rw [hd] at h3; cases h3
      | some d =>
        rw [hd] at h3
        refine ⟨d, rfl, ?_⟩
        have : d ∈ full.map (·.1) := by simpa using h3
        obtain ⟨p, hp, rfl⟩ := List.mem_map.1 this
        have := hasKey_iff.1 (key_mem.2 ⟨p, hp, rfl⟩ : hasKey full p.1 = true)
        obtain ⟨x, hx⟩ := this; rw [hx]; rfl
    · have h5 := List.all_eq_true.1 (List.all_eq_true.1 h4 t ht) j (List.mem_range.2 (Array.getElem?_eq_some_iff.1 hj).1)
      rw [hj] at h5
      simp only [hd, beq_self_eq_true, Bool.not_true, Bool.false_or] at h5
      obtain ⟨e, he, hb⟩ := Array.any_eq_true'.1 h5
      simp only [Bool.and_eq_true, beq_iff_eq] at hb
      exact ⟨e, he, hb.1, hb.2⟩
  refine aw_drawn1 hm c is full own1 ⟨fun i o ho => (kk i o ho).1, fun i o ho _ => ⟨(kk i o ho).2.1, (kk i o ho).2.2.1⟩, fun i o ho => (kk i o ho).2.2.2, fun t ht => ?_, fun i o d ho hic hd => ?_, fun i o d ho hic hd => ?_, he⟩ k3 k4 k5 h
  · obtain ⟨x, hx⟩ := Option.isSome_iff_exists.1 ht
    have := List.all_eq_true.1 k2 t (List.mem_map.2 ⟨_, look_mem hx, rfl⟩)
    obtain ⟨j, hj, h6⟩ := List.any_eq_true.1 this
    cases ho : l.toArray[j]? with
    | none => rw [ho] at h6; cases h6
    | some oj => rw [ho] at h6; exact ⟨j, oj, ho, by simpa using h6⟩
  · cases hw : waits l.toArray 64 i c with
    | true => exact .inl rfl
    | false => exact .inr (valsOk_spec h0 i (hall i (Array.getElem?_eq_some_iff.1 ho).1) (by simp [hic, hw]) o d ho hd)
  · cases hw : waits l.toArray 64 c i with
    | true => exact .inl rfl
    | false => exact .inr (valsOk_spec h1 i (hall i (Array.getElem?_eq_some_iff.1 ho).1) (by simp [hic, hw]) o d ho hd)
end
end Go.Smd
end
section
set_option linter.unusedSimpArgs false
namespace Go.Smd
open Go.RowKit
section
variable {P : Program} {N : Nat} {w0 : World} {S0 : Env} {Q : Exit → St → Prop} {sc : Sch} {n : Nat} {k : List Fr} {σ : St} {o : Oper} {K : St → Prop} {t : Tg (σ, o, K)} {cc : Option (FuncId × List Av × List Nat)}
theorem nd_c {f : FuncId} {args : List Av} {F : List Nat} {R : Av → Prop} (hR : ACalls P f args R) (ha : args.all Av.isD = true) (h : ∀ r, R r → okA P r → K ((σ.give P F).put o.dst r)) : Nd P σ o K t (some (f, args, F)) := fun hc => by
  refine .inl ?_
  unfold callK
  rw [← hc]
  exact ⟨ha, R, hR, h⟩
theorem nd_v {f : FuncId} {args : List Av} {F : List Nat} {g : Av} (hR : ACalls P f args fun r => r = g) (ha : args.all Av.isD = true) (h : K ((σ.give P F).put o.dst g)) : Nd P σ o K t (some (f, args, F)) :=
  nd_c hR ha fun r hr _ => by subst hr; exact h
theorem nd_l {f : FuncId} {args : List Av} {F : List Nat} {R : Av → Prop} (hR : ACalls P f args R) (ha : args.all Av.isD = true) (hp : ∀ r, R r → r.plain = true) (h : ∀ r, R r → okA P r → K (σ.put o.dst r)) : Nd P σ o K t (some (f, args, F)) := fun hc => .inr (.lend hc.symm ha hR hp h)
theorem nd_lv {f : FuncId} {args : List Av} {F : List Nat} {g : Av} (hR : ACalls P f args fun r => r = g) (ha : args.all Av.isD = true) (hp : g.plain = true) (h : K (σ.put o.dst g)) : Nd P σ o K t (some (f, args, F)) :=
  nd_l hR ha (fun r hr => by subst hr; exact hp) fun r hr _ => by subst hr; exact h
theorem nd_p {f : FuncId} {xs args : List Av} {Ts : List TypeId} {own0 : List (Nat × Ow)} {ρ : List (Nat × Nat)} {R : Av → List (Nat × Ow) → Prop} (u : Nat) (hR : AProc P f args own0 R) (hc : calleeOf P σ o = some (f, xs, Ts)) (hx : argsC P [] σ.h xs Ts = args.map (Av.ren (renI ρ u))) (ho : handOk ρ args own0 = true) (hh : handed σ.h (renI ρ u) own0)
    (h : ∀ r own', R r own' → backOk σ ρ u own' = true ∧ K ((σ.back ρ u own').put o.dst ((r.ren (renI ρ u)).fix (look (backH σ ρ u own'))))) : Nd P σ o K t cc := fun _ => .inr (.proc hc hx ho hh hR h)
theorem nd_q {f : FuncId} {xs args : List Av} {Ts : List TypeId} {own0 ownB : List (Nat × Ow)} {ρ : List (Nat × Nat)} {r0 : Av} (u : Nat) (hR : AProc P f args own0 fun r own' => r = r0 ∧ own' = ownB) (hc : calleeOf P σ o = some (f, xs, Ts)) (hx : argsC P [] σ.h xs Ts = args.map (Av.ren (renI ρ u))) (ho : handOk ρ args own0 = true) (hh : handed σ.h (renI ρ u) own0)
    (hb : backOk σ ρ u ownB = true) (h : K ((σ.back ρ u ownB).put o.dst ((r0.ren (renI ρ u)).fix (look (backH σ ρ u ownB))))) : Nd P σ o K t cc :=
  nd_p u hR hc hx ho hh fun r own' hr => by obtain ⟨rfl, rfl⟩ := hr; exact ⟨hb, h⟩
theorem nd_qx {X : Type} {f : FuncId} {xs args : List Av} {Ts : List TypeId} {own0 : List (Nat × Ow)} {ownB : X → List (Nat × Ow)} {ρ : List (Nat × Nat)} {r0 : X → Av} {q : X → Prop} (u : Nat) (hR : AProc P f args own0 fun r own' => ∃ x, q x ∧ r = r0 x ∧ own' = ownB x) (hc : calleeOf P σ o = some (f, xs, Ts)) (hx : argsC P [] σ.h xs Ts = args.map (Av.ren (renI ρ u))) (ho : handOk ρ args own0 = true) (hh : handed σ.h (renI ρ u) own0)
    (hb : ∀ x, q x → backOk σ ρ u (ownB x) = true) (h : ∀ x, q x → K ((σ.back ρ u (ownB x)).put o.dst (((r0 x).ren (renI ρ u)).fix (look (backH σ ρ u (ownB x)))))) : Nd P σ o K t cc :=
  nd_p u hR hc hx ho hh fun r own' hr => by obtain ⟨x, hq, rfl, rfl⟩ := hr; exact ⟨hb x hq, h x hq⟩
def BkR (σ : St) (d : Option Tmp) (K : St → Prop) (_ : Tg (σ, d, K)) (r : Av) (own' : List (Nat × Ow)) : Prop := backOk σ (inR σ.own) (d.getD 0) own' = true ∧ K ((σ.back (inR σ.own) (d.getD 0) own').put d ((r.ren (renI (inR σ.own) (d.getD 0))).fix (look (backH σ (inR σ.own) (d.getD 0) own'))))
def BkX (P : Program) (rs : List ResultVar) (σ : St) (d : Option Tmp) (K : St → Prop) : Exit → St → Prop
  | .normal, σ' | .ret, σ' => Ov (resA P σ' rs) (fun r => BkR σ d K () r (dedupK σ'.own)) False ()
  | _, _ => False
theorem BkX_n {rs : List ResultVar} {d : Option Tmp} {tl : List (Nat × Av)} {hl : List (Nat × Ow)} : BkX P rs σ d K .normal ⟨tl, hl⟩ = Ov (resA P ⟨tl, hl⟩ rs) (fun r => BkR σ d K () r (dedupK hl)) False () := _root_.id rfl
theorem BkX_r {rs : List ResultVar} {d : Option Tmp} {tl : List (Nat × Av)} {hl : List (Nat × Ow)} : BkX P rs σ d K .ret ⟨tl, hl⟩ = Ov (resA P ⟨tl, hl⟩ rs) (fun r => BkR σ d K () r (dedupK hl)) False () := _root_.id rfl
theorem call_nw {q : FuncId × List Av × List TypeId} (hc : calleeOf P σ o = some q) : wstep P σ o = none := by
  obtain ⟨dst, op, ty, pos, af, g⟩ := o
  cases op <;> (try (cases hc; done))
  rename_i cl
  obtain ⟨ce, xa, ts⟩ := cl
  cases ce <;> cases dst <;> first | rfl | cases hc
theorem nd_i {f : FuncId} {xs ys args : List Av} {Ts : List TypeId} {own0 : List (Nat × Ow)} {fn : Func} {c : Code} {N' : Nat} {rs : List ResultVar} (sc' : Sch) (hc : calleeOf P σ o = some (f, xs, Ts)) (hA : argsC P [] σ.h xs Ts = ys) (hok : inOk ys σ.own = true)
    (hY : ys.map (Av.ren fun i => i + zed) = args) (hO : inK σ.own = own0) (hf : P.funcs[f]? = some fn) (hn : (fn.name == "runtime.NumGoroutine") = false) (hb : fn.body = some c) (hN : fn.ntmps = N') (hrs : fn.results = rs.toArray) (hl : args.length ≤ N')
    (h : (∀ x ∈ args, x.isD = true → okA P x) → ∀ w0 S0, ex P N' w0 S0 (BkX P rs σ o.dst K) sc' [.code c] () 100000 ⟨startL 0 args, own0⟩) : Nd P σ o K t cc := fun _ => by
  cases hw : wstep P σ o with
  | some σ' => rw [call_nw hc] at hw; cases hw
  | none =>
    have key := vk_i (P := P) (N := 0) (ops := #[]) (os := []) (K := K) (d := o.dst) rfl hw hc hA hok hY hO hf hn hb hN hrs hl fun hk w0 S0 => (ex_aw (h hk w0 S0)).mono fun e σ' q => by
      have key : Ov (resA P σ' rs) (fun r => BkR σ o.dst K () r (dedupK σ'.own)) False () → FinP P rs (BackR P 0 #[] σ [] K o.dst) σ' := fun h => by
        cases hr : resA P σ' rs with
        | none => rw [hr] at h; exact h.elim
        | some r => rw [hr] at h; exact ⟨r, hr, h⟩
      cases e <;> first | exact key q | exact q.elim
    unfold VK at key
    rw [hw] at key
    exact key
theorem nd_range {T : TypeId} {x : Operand} {d : Tmp} {m : List (ByteArray × Tree)} {ty : TypeId} {pos : String} {af : Array Edge} {g : Option (Nat × Bool)} {t : Tg (σ, (⟨some d, .range T x, ty, pos, af, g⟩ : Oper), K)} (hx : σ.ev x = .c (.d (.mp m))) (hT : P.treeMap T = true) (hnd : (m.map (·.1)).Nodup) (hz : ((σ.h d).isNone && decide (d < zed)) = true)
    (h : K ((σ.new d (.clo (.it m (m.map (·.1)) none) [])).put (some d) (.c (.fn d)))) : Nd P σ ⟨some d, .range T x, ty, pos, af, g⟩ K t cc := fun _ => by
  simp only [Bool.and_eq_true, decide_eq_true_eq] at hz
  exact .inr (.range rfl rfl hx hT hnd hz h)
theorem nd_next {x : Operand} {id : Nat} {m : List (ByteArray × Tree)} {left : List ByteArray} {cur : Option ByteArray} {d : Option Tmp} {ty : TypeId} {pos : String} {af : Array Edge} {g : Option (Nat × Bool)} {t : Tg (σ, (⟨d, .next x false, ty, pos, af, g⟩ : Oper), K)} (hx : σ.ev x = .c (.fn id)) (hid : σ.h id = some (.clo (.it m left cur) []))
    (h0 : left = [] → K (σ.put d (.tup [(false, [.d (.v (.bool false))])])))
    (h1 : ∀ k, k ∈ left → k.size ≤ 140737488351232 → K ((σ.new id (.clo (.it m (left.filter fun x => decide (x ≠ k)) (some k)) [])).put d (.tup [(false, [.d (.v (.bool true))]), (false, [.d (.v (.string k))]), (false, [.d (.tr ((mget m k).getD .nil))])]))) : Nd P σ ⟨d, .next x false, ty, pos, af, g⟩ K t cc := fun _ => .inr (.next rfl hx hid h0 h1)
theorem nd_entry {x : Operand} {id : Nat} {m : List (ByteArray × Tree)} {left : List ByteArray} {key : ByteArray} {d : Option Tmp} {ty : TypeId} {pos : String} {af : Array Edge} {g : Option (Nat × Bool)} {t : Tg (σ, (⟨d, .entry x, ty, pos, af, g⟩ : Oper), K)} (hx : σ.ev x = .c (.fn id)) (hid : σ.h id = some (.clo (.it m left (some key)) []))
    (h : K (σ.put d (.tup [(false, [.d (.v (.string key))]), (false, [.d (.tr ((mget m key).getD .nil))])]))) : Nd P σ ⟨d, .entry x, ty, pos, af, g⟩ K t cc := fun _ => .inr (.entry rfl hx hid h)
theorem nd_defer {x : Operand} {name : String} {args : Array Operand} {Ts : Array TypeId} {y : Av} {d : Option Tmp} {ty : TypeId} {pos : String} {af : Array Edge} {g : Option (Nat × Bool)} {t : Tg (σ, (⟨d, .defer ⟨.invoke x name, args, Ts⟩, ty, pos, af, g⟩ : Oper), K)} (hx : σ.ev x = y) (hd : IdleAv P name y) (h : K (σ.put d .any)) : Nd P σ ⟨d, .defer ⟨.invoke x name, args, Ts⟩, ty, pos, af, g⟩ K t cc := fun _ => .inr (.defer rfl hx hd h)
theorem nw_c {B : List Nat} {i : Nat} {t : Tg (B, i, σ, o, K)} {f : FuncId} {args : List Av} {F : List Nat} {R : Av → Prop} (hR : ACalls P f args R) (hp : plainCall o.op = true) (hB : (B.contains i || (F.isEmpty && (calleeOf P ⟨σ.tmps, []⟩ o).isSome)) = true) (ha : args.all Av.isD = true) (h : ∀ r, R r → okA P r → K ((σ.give P F).put o.dst r)) : Nw P B i σ o K t (some (f, args, F)) := fun hc => by
  refine ⟨?_, by unfold callK; rw [← hc]; exact ⟨ha, R, hR, h⟩⟩
  rcases (Bool.or_eq_true ..).mp hB with h1 | h1
  · exact .inl h1
  · rw [Bool.and_eq_true] at h1
    have : F = [] := by simpa using h1.1
    subst this
    obtain ⟨⟨f', xs, Ts⟩, hq⟩ := Option.isSome_iff_exists.1 h1.2
    refine .inr ⟨hp, f', xs, Ts, hq, ?_⟩
    have := calleeOf_none σ.h hq (τ := σ) fun _ _ => rfl
    unfold callOf at hc
    rw [this] at hc
    simp only [Option.map_some, Option.some.injEq, Prod.mk.injEq] at hc
    exact hc.2.2.symm
theorem nw_v {B : List Nat} {i : Nat} {t : Tg (B, i, σ, o, K)} {f : FuncId} {args : List Av} {F : List Nat} {g : Av} (hR : ACalls P f args fun r => r = g) (hp : plainCall o.op = true) (hB : (B.contains i || (F.isEmpty && (calleeOf P ⟨σ.tmps, []⟩ o).isSome)) = true) (ha : args.all Av.isD = true) (h : K ((σ.give P F).put o.dst g)) : Nw P B i σ o K t (some (f, args, F)) :=
  nw_c hR hp hB ha fun r hr _ => by subst hr; exact h
theorem dn_i {ops : List Oper} {B : List Nat} {is : List (Nat × List Nat)} {X : Prop} {t : Tg (ops, B, is, X)} (hm : P.follows .mixedOrders = true) (hok : drawOk ops.toArray B is = true) (h : X) : Dn P ops B is X t := ⟨⟨hm, hok⟩, h⟩
theorem exD_p {i : Nat} {l : List Oper} {tl : List (Nat × Av)} {hl : List (Nat × Ow)} {t : Tg (P, N, w0, S0, Q, sc, k, l, n, tl, hl)} (h : AWp P N w0 S0 (.region i l.toArray true) (fun e σ => e = .normal ∧ ex P N w0 S0 Q sc k () 100000 σ) ⟨tl, hl⟩) : exD P N w0 S0 Q sc k i l n tl hl t none := by
  refine (show AWp P N w0 S0 (.region i l.toArray true) (KQ P N w0 S0 Q k) ⟨tl, hl⟩ from h.mono fun e σ q => ?_)
  obtain ⟨rfl, q⟩ := q
  exact ex_run _ _ _ q
theorem ex_loop {X : Type} {c : Code} {t : Tx P N w0 S0 Q sc (.code (.loop c) :: k)} (inv : X → St) (ok : X → Prop) (μ : X → Nat) (x0 : X) (h0 : Weak P N w0 S0 σ (inv x0)) (k0 : ok x0)
    (round : ∀ x, ok x → ∀ K : St → Prop, (∀ σ' x', Weak P N w0 S0 σ' (inv x') → ok x' → μ x' < μ x → K σ') → ex P N w0 S0 Q sc (.code c :: .lp K :: k) () 100000 (inv x)) : ex P N w0 S0 Q sc (.code (.loop c) :: k) t (n + 1) σ := by
  show AWp P N w0 S0 (.loop c) (KQ P N w0 S0 Q k) σ
  refine aw_loop inv ok μ x0 h0 k0 fun x hx K hK => ?_
  refine (show AWp P N w0 S0 c (KQ P N w0 S0 Q (.lp K :: k)) (inv x) from ex_run 100000 (.code c :: .lp K :: k) (inv x) (round x hx K hK)).mono fun e σ q => ?_
  cases e <;> exact q
theorem done_eq {g : Av} {t : Tg fun r : Av => r = g} {r : Av} (h : r = g) : Done (fun r => r = g) t r := h
end
end Go.Smd
end
