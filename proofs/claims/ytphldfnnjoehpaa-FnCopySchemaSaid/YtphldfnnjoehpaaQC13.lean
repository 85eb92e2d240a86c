/- Part 13 of the proof: Aq Mn. -/
import Derived.Test.YtphldfnnjoehpaaQC11
import Derived.Test.YtphldfnnjoehpaaQC10
import Derived.Test.YtphldfnnjoehpaaQC12
set_option linter.unusedVariables false
section
set_option linter.unusedSimpArgs false
namespace Go.Smd
open Go.RowKit
section
variable {P : Program} {N : Nat} {w0 : World} {S0 : Env} {ops : Array Oper}
variable (P N ops) in
def anyX (K : St → Prop) : Nat → Array Bool → St → Prop
  | 0, listed, σ => Region.ready .any ops listed = [] ∧ K σ
  | n + 1, listed, σ => (Region.ready .any ops listed = [] → K σ) ∧ ∀ i ∈ Region.ready .any ops listed, ∃ o, ops[i]? = some o ∧ opX P N ops σ o fun σ' => anyX K n (listed.setIfInBounds i true) σ'
theorem anyX_run {K : St → Prop} {Q : Exit → Act → World → Prop} (hQ : ∀ β σ a w, K σ → Sim P N w0 S0 β σ a w → Q .normal a w) : ∀ (n : Nat) (listed : Array Bool) (β : Nat → Value) (σ : St) (a : Act) (w : World), anyX P N ops K n listed σ → Sim P N w0 S0 β σ a w → wpAny P .any ops Q n listed a w
  | 0, listed, β, σ, a, w, h, s => ⟨h.1, hQ β σ a w h.2 s⟩
  | n + 1, listed, β, σ, a, w, h, s => ⟨fun hr => hQ β σ a w (h.1 hr) s, fun i hi => by
    obtain ⟨o, ho, hop⟩ := h.2 i hi
    have h1 := opX_run (Q := Q) s hop
    unfold wpOp
    simp only [ho]
    split at h1
    · next hw => rw [if_pos hw]; exact .inl (Oper.wp_mono (fun a w ⟨β', σ', h2, h3⟩ => anyX_run hQ n _ β' σ' a w h2 h3) h1)
    · next hw =>
      rw [if_neg hw]
      obtain ⟨β', σ', h2, h3⟩ := h1
      exact anyX_run hQ n _ β' σ' _ w h2 h3⟩
def unl (n : Nat) (listed : Array Bool) : Nat := ((List.range n).filter fun i => !listed.getD i true).length
theorem filter_le {α : Type} {p q : α → Bool} : ∀ {l : List α}, (∀ x ∈ l, q x = true → p x = true) → (l.filter q).length ≤ (l.filter p).length
  | [], _ => by simp
  | y :: l, h => by
    have ih := filter_le (l := l) fun x hx => h x (List.mem_cons_of_mem _ hx)
    have hy := h y (List.mem_cons_self ..)
    cases hq : q y with
    | true => simp [List.filter_cons, hq, hy hq]; exact ih
    | false => cases hp : p y <;> simp [List.filter_cons, hq, hp] <;> omega
theorem filter_less {α : Type} {p q : α → Bool} : ∀ {l : List α}, (∀ x ∈ l, q x = true → p x = true) → (∃ x ∈ l, p x = true ∧ q x = false) → (l.filter q).length < (l.filter p).length
  | [], _, h => by obtain ⟨x, hx, _⟩ := h; cases hx
  | y :: l, hpq, h => by
    have hle : (l.filter q).length ≤ (l.filter p).length := filter_le fun x hx => hpq x (List.mem_cons_of_mem _ hx)
    obtain ⟨x, hx, h1, h2⟩ := h
    rcases List.mem_cons.1 hx with rfl | hx
    · simp [List.filter_cons, h1, h2]; omega
    · have ih := filter_less (fun x hx => hpq x (List.mem_cons_of_mem _ hx)) ⟨x, hx, h1, h2⟩
      have hy := hpq y (List.mem_cons_self ..)
      cases hq : q y with
      | true => simp [List.filter_cons, hq, hy hq]; exact ih
      | false => cases hp : p y <;> simp [List.filter_cons, hq, hp] <;> omega
theorem getD_two {listed : Array Bool} {i : Nat} (h : i < listed.size) (x y : Bool) : listed.getD i x = listed.getD i y := by simp [h]
theorem unl_set {n : Nat} {listed : Array Bool} {i : Nat} (hs : listed.size = n) (hi : i < n) (h : listed.getD i true = false) : unl n (listed.setIfInBounds i true) < unl n listed := by
  refine filter_less (fun x hx hq => ?_) ⟨i, List.mem_range.2 hi, by rw [h]; rfl, ?_⟩
  · by_cases e : i = x
    · subst e; rw [h]; rfl
    · have hx := List.mem_range.1 hx
      simpa [Array.getElem?_setIfInBounds, e, hs, hx] using hq
  · simp [hs, hi]
def topo (ops : Array Oper) : List Nat → List Nat → Bool
  | _, [] => true
  | done, i :: is => (match ops[i]? with | some o => o.after.all fun e => !Region.binds .any e || done.contains e.on | none => false) && topo ops (i :: done) is
theorem topo_ready {listed : Array Bool} : ∀ {is done : List Nat}, topo ops done is = true → (∀ i ∈ done, listed.getD i false = true) → listed.size = ops.size → (∃ i ∈ is, listed.getD i true = false) → ∃ i, i ∈ Region.ready .any ops listed
  | [], _, _, _, _, h => by obtain ⟨i, hi, _⟩ := h; cases hi
  | i :: is, done, ht, hd, hs, h => by
    simp only [topo, Bool.and_eq_true] at ht
    obtain ⟨h1, h2⟩ := ht
    cases hl : listed.getD i true with
    | false =>
      refine ⟨i, mem_ready.2 ⟨hl, ?_⟩⟩
      cases ho : ops[i]? with
      | none => rw [ho] at h1; cases h1
      | some o =>
        rw [ho] at h1
        refine ⟨o, rfl, fun e he hb => ?_⟩
        have := (Array.all_eq_true_iff_forall_mem.1 h1) e he
        simp only [hb, Bool.not_true, Bool.false_or] at this
        exact hd e.on (by simpa using this)
    | true =>
      obtain ⟨j, hj, hjl⟩ := h
      have hij : j ≠ i := fun e => by rw [e, hl] at hjl; cases hjl
      refine topo_ready h2 (fun k hk => ?_) hs ⟨j, (List.mem_cons.1 hj).resolve_left hij, hjl⟩
      rcases List.mem_cons.1 hk with rfl | hk
      · have hlt : k < listed.size := by
          rw [hs]
          cases ho : ops[k]? with
          | none => rw [ho] at h1; cases h1
          | some o => exact (Array.getElem?_eq_some_iff.1 ho).1
        rw [getD_two hlt false true]; exact hl
      · exact hd k hk
def valT (full base : List (Nat × Av)) (t : Nat) : Av := match look full t with | some x => x | none => (look base t).getD .any
structure DOk (P : Program) (N : Nat) (ops : Array Oper) (c : Nat) (full base : List (Nat × Av)) (own0 own1 : List (Nat × Ow)) : Prop where
  gd : ∀ (i : Nat) (o : Oper), ops[i]? = some o → o.guard = none
  dst : ∀ (i : Nat) (o : Oper), ops[i]? = some o → i ≠ c → dstOk N o = true ∧ ∃ d, o.dst = some d ∧ (look full d).isSome = true
  dep : ∀ (i : Nat) (o : Oper), ops[i]? = some o → ∀ t ∈ o.looksAt ops, ∀ (j : Nat) (oj : Oper), ops[j]? = some oj → oj.dst = some t → ∃ e ∈ o.after, Region.binds .any e = true ∧ e.on = j
  key : ∀ t, (look full t).isSome = true → ∃ (j : Nat) (oj : Oper), ops[j]? = some oj ∧ oj.dst = some t
  v0 : ∀ (i : Nat) (o : Oper) (d : Tmp), ops[i]? = some o → i ≠ c → o.dst = some d → waits ops 64 i c = true ∨ vval P ⟨full ++ base, own0⟩ o = some (valT full base d)
  v1 : ∀ (i : Nat) (o : Oper) (d : Tmp), ops[i]? = some o → i ≠ c → o.dst = some d → waits ops 64 c i = true ∨ vval P ⟨full ++ base, own1⟩ o = some (valT full base d)
  eff : ∀ (o : Oper), ops[c]? = some o → ∀ σ : St, σ.own = own0 → (∀ x ∈ o.op.operands, σ.ev x = (St.mk (full ++ base) own0).ev x) → (∀ t, σ.tmp t = valT full base t ∨ σ.tmp t = (look base t).getD .any) →
    ∀ K : St → Prop, (∀ σ' : St, σ'.h = look own1 → (∀ t, σ'.tmp t = if o.dst = some t then valT full base t else σ.tmp t) → K σ') → execX P N σ o K
theorem full_tmp (full base : List (Nat × Av)) (own : List (Nat × Ow)) (t : Nat) : (St.mk (full ++ base) own).tmp t = valT full base t := by
  simp only [St.tmp, look_append, valT]
  cases look full t <;> rfl
structure AtL (ops : Array Oper) (c : Nat) (full base : List (Nat × Av)) (own0 own1 : List (Nat × Ow)) (listed : Array Bool) (σ : St) : Prop where
  o0 : listed.getD c false = false → σ.own = own0
  o1 : listed.getD c false = true → σ.h = look own1
  t1 : ∀ (j : Nat) (oj : Oper) (t : Tmp), ops[j]? = some oj → oj.dst = some t → listed.getD j false = true → σ.tmp t = valT full base t
  t0 : ∀ t : Tmp, (∀ (j : Nat) (oj : Oper), ops[j]? = some oj → oj.dst = some t → listed.getD j false = false) → σ.tmp t = (look base t).getD .any
theorem AtL.sees {c : Nat} {full base : List (Nat × Av)} {own0 own1 : List (Nat × Ow)} {listed : Array Bool} {σ : St} (A : AtL ops c full base own0 own1 listed σ) (D : DOk P N ops c full base own0 own1) {i : Nat} {o : Oper} (ho : ops[i]? = some o) (hr : ∀ e ∈ o.after, Region.binds .any e = true → listed.getD e.on false = true) (own : List (Nat × Ow)) :
    ∀ x ∈ o.op.operands, σ.ev x = (St.mk (full ++ base) own).ev x := by
  refine ops_looks (ops := ops) fun t ht => ?_
  rw [full_tmp]
  by_cases hj : ∃ (j : Nat) (oj : Oper), ops[j]? = some oj ∧ oj.dst = some t
  · obtain ⟨j, oj, h1, h2⟩ := hj
    obtain ⟨e, he, hb, rfl⟩ := D.dep i o ho t ht j oj h1 h2
    exact A.t1 _ oj t h1 h2 (hr e he hb)
  · rw [A.t0 t fun j oj h1 h2 => absurd ⟨j, oj, h1, h2⟩ hj]
    unfold valT
    cases hf : look full t with
    | none => rfl
    | some x => obtain ⟨j, oj, h1, h2⟩ := D.key t (by rw [hf]; rfl); exact absurd ⟨j, oj, h1, h2⟩ hj
theorem vval_plain {σ : St} {o : Oper} (hp : plainCall o.op = true) : vval P σ o = none := by
  obtain ⟨dst, op, type, pos, after, guard⟩ := o
  cases op <;> simp only [plainCall, Bool.false_eq_true] at hp <;> simp only [vval]
  case call c =>
    unfold lenCall
    split
    · next hc => simp [hc] at hp
    · next hc => simp [hc] at hp
    · rfl
end
end Go.Smd
end
section
set_option linter.unusedSimpArgs false
namespace Go.Smd
open Go.RowKit
section
variable {P : Program} {N : Nat} {w0 : World} {S0 : Env} {Q : Exit → St → Prop} {sc : Sch} {n : Nat} {k : List Fr} {σ : St} {o : Oper} {K : St → Prop} {t : Tg (σ, o, K)} {cc : Option (FuncId × List Av × List Nat)}
theorem nd_c {f : FuncId} {args : List Av} {F : List Nat} {R : Av → Prop} (hR : ACalls P f args R) (ha : args.all Av.isD = true) (h : ∀ r, R r → okA P r → K ((σ.give P F).put o.dst r)) : Nd P σ o K t (some (f, args, F)) := fun hc => by
  refine .inl ?_
  unfold callK
  rw [← hc]
  exact ⟨ha, R, hR, h⟩
theorem nd_v {f : FuncId} {args : List Av} {F : List Nat} {g : Av} (hR : ACalls P f args fun r => r = g) (ha : args.all Av.isD = true) (h : K ((σ.give P F).put o.dst g)) : Nd P σ o K t (some (f, args, F)) :=
  nd_c hR ha fun r hr _ => by subst hr; exact h
theorem nd_p {f : FuncId} {xs args : List Av} {Ts : List TypeId} {own0 : List (Nat × Ow)} {ρ : List (Nat × Nat)} {R : Av → List (Nat × Ow) → Prop} (u : Nat) (hR : AProc P f args own0 R) (hc : calleeOf P σ o = some (f, xs, Ts)) (hx : argsC P [] σ.h xs Ts = args.map (Av.ren (renI ρ u))) (ho : handOk ρ args own0 = true) (hh : handed σ.h (renI ρ u) own0)
    (h : ∀ r own', R r own' → backOk σ ρ u own' = true ∧ K ((σ.back ρ u own').put o.dst ((r.ren (renI ρ u)).fix (look (backH σ ρ u own'))))) : Nd P σ o K t cc := fun _ => .inr (.proc hc hx ho hh hR h)
theorem nd_q {f : FuncId} {xs args : List Av} {Ts : List TypeId} {own0 ownB : List (Nat × Ow)} {ρ : List (Nat × Nat)} {r0 : Av} (u : Nat) (hR : AProc P f args own0 fun r own' => r = r0 ∧ own' = ownB) (hc : calleeOf P σ o = some (f, xs, Ts)) (hx : argsC P [] σ.h xs Ts = args.map (Av.ren (renI ρ u))) (ho : handOk ρ args own0 = true) (hh : handed σ.h (renI ρ u) own0)
    (hb : backOk σ ρ u ownB = true) (h : K ((σ.back ρ u ownB).put o.dst ((r0.ren (renI ρ u)).fix (look (backH σ ρ u ownB))))) : Nd P σ o K t cc :=
  nd_p u hR hc hx ho hh fun r own' hr => by obtain ⟨rfl, rfl⟩ := hr; exact ⟨hb, h⟩
theorem nd_range {T : TypeId} {x : Operand} {d : Tmp} {m : List (ByteArray × Tree)} {ty : TypeId} {pos : String} {af : Array Edge} {g : Option (Nat × Bool)} {t : Tg (σ, (⟨some d, .range T x, ty, pos, af, g⟩ : Oper), K)} (hx : σ.ev x = .c (.d (.mp m))) (hT : P.treeMap T = true) (hnd : (m.map (·.1)).Nodup) (hz : ((σ.h d).isNone && decide (d < zed)) = true)
    (h : K ((σ.new d (.clo (.it m (m.map (·.1)) none) [])).put (some d) (.c (.fn d)))) : Nd P σ ⟨some d, .range T x, ty, pos, af, g⟩ K t cc := fun _ => by
  simp only [Bool.and_eq_true, decide_eq_true_eq] at hz
  exact .inr (.range rfl rfl hx hT hnd hz h)
theorem nd_next {x : Operand} {id : Nat} {m : List (ByteArray × Tree)} {left : List ByteArray} {cur : Option ByteArray} {d : Option Tmp} {ty : TypeId} {pos : String} {af : Array Edge} {g : Option (Nat × Bool)} {t : Tg (σ, (⟨d, .next x false, ty, pos, af, g⟩ : Oper), K)} (hx : σ.ev x = .c (.fn id)) (hid : σ.h id = some (.clo (.it m left cur) []))
    (h0 : left = [] → K (σ.put d (.tup [(false, [.d (.v (.bool false))])])))
    (h1 : ∀ k, k ∈ left → k.size ≤ 140737488351232 → K ((σ.new id (.clo (.it m (left.filter fun x => decide (x ≠ k)) (some k)) [])).put d (.tup [(false, [.d (.v (.bool true))]), (false, [.d (.v (.string k))]), (false, [.d (.tr ((mget m k).getD .nil))])]))) : Nd P σ ⟨d, .next x false, ty, pos, af, g⟩ K t cc := fun _ => .inr (.next rfl hx hid h0 h1)
theorem nd_entry {x : Operand} {id : Nat} {m : List (ByteArray × Tree)} {left : List ByteArray} {key : ByteArray} {d : Option Tmp} {ty : TypeId} {pos : String} {af : Array Edge} {g : Option (Nat × Bool)} {t : Tg (σ, (⟨d, .entry x, ty, pos, af, g⟩ : Oper), K)} (hx : σ.ev x = .c (.fn id)) (hid : σ.h id = some (.clo (.it m left (some key)) []))
    (h : K (σ.put d (.tup [(false, [.d (.v (.string key))]), (false, [.d (.tr ((mget m key).getD .nil))])]))) : Nd P σ ⟨d, .entry x, ty, pos, af, g⟩ K t cc := fun _ => .inr (.entry rfl hx hid h)
theorem nw_c {B : List Nat} {i : Nat} {t : Tg (B, i, σ, o, K)} {f : FuncId} {args : List Av} {F : List Nat} {R : Av → Prop} (hR : ACalls P f args R) (hp : plainCall o.op = true) (hB : (B.contains i || (F.isEmpty && (calleeOf P ⟨σ.tmps, []⟩ o).isSome)) = true) (ha : args.all Av.isD = true) (h : ∀ r, R r → okA P r → K ((σ.give P F).put o.dst r)) : Nw P B i σ o K t (some (f, args, F)) := fun hc => by
  refine ⟨?_, by unfold callK; rw [← hc]; exact ⟨ha, R, hR, h⟩⟩
  rcases (Bool.or_eq_true ..).mp hB with h1 | h1
  · exact .inl h1
  · rw [Bool.and_eq_true] at h1
    have : F = [] := by simpa using h1.1
    subst this
    obtain ⟨⟨f', xs, Ts⟩, hq⟩ := Option.isSome_iff_exists.1 h1.2
    refine .inr ⟨hp, f', xs, Ts, hq, ?_⟩
    have := calleeOf_none σ.h hq (τ := σ) fun _ _ => rfl
    unfold callOf at hc
    rw [this] at hc
    simp only [Option.map_some, Option.some.injEq, Prod.mk.injEq] at hc
    exact hc.2.2.symm
theorem nw_v {B : List Nat} {i : Nat} {t : Tg (B, i, σ, o, K)} {f : FuncId} {args : List Av} {F : List Nat} {g : Av} (hR : ACalls P f args fun r => r = g) (hp : plainCall o.op = true) (hB : (B.contains i || (F.isEmpty && (calleeOf P ⟨σ.tmps, []⟩ o).isSome)) = true) (ha : args.all Av.isD = true) (h : K ((σ.give P F).put o.dst g)) : Nw P B i σ o K t (some (f, args, F)) :=
  nw_c hR hp hB ha fun r hr _ => by subst hr; exact h
theorem dn_i {ops : List Oper} {B : List Nat} {is : List (Nat × List Nat)} {X : Prop} {t : Tg (ops, B, is, X)} (hm : P.follows .mixedOrders = true) (hok : drawOk ops.toArray B is = true) (h : X) : Dn P ops B is X t := ⟨⟨hm, hok⟩, h⟩
theorem exD_p {i : Nat} {l : List Oper} {tl : List (Nat × Av)} {hl : List (Nat × Ow)} {t : Tg (P, N, w0, S0, Q, sc, k, l, n, tl, hl)} (h : AWp P N w0 S0 (.region i l.toArray true) (fun e σ => e = .normal ∧ ex P N w0 S0 Q sc k () 100000 σ) ⟨tl, hl⟩) : exD P N w0 S0 Q sc k i l n tl hl t none := by
  refine (show AWp P N w0 S0 (.region i l.toArray true) (KQ P N w0 S0 Q k) ⟨tl, hl⟩ from h.mono fun e σ q => ?_)
  obtain ⟨rfl, q⟩ := q
  exact ex_run _ _ _ q
theorem ex_loop {X : Type} {c : Code} {t : Tx P N w0 S0 Q sc (.code (.loop c) :: k)} (inv : X → St) (ok : X → Prop) (μ : X → Nat) (x0 : X) (h0 : Weak P N w0 S0 σ (inv x0)) (k0 : ok x0)
    (round : ∀ x, ok x → ∀ K : St → Prop, (∀ σ' x', Weak P N w0 S0 σ' (inv x') → ok x' → μ x' < μ x → K σ') → ex P N w0 S0 Q sc (.code c :: .lp K :: k) () 100000 (inv x)) : ex P N w0 S0 Q sc (.code (.loop c) :: k) t (n + 1) σ := by
  show AWp P N w0 S0 (.loop c) (KQ P N w0 S0 Q k) σ
  refine aw_loop inv ok μ x0 h0 k0 fun x hx K hK => ?_
  refine (show AWp P N w0 S0 c (KQ P N w0 S0 Q (.lp K :: k)) (inv x) from ex_run 100000 (.code c :: .lp K :: k) (inv x) (round x hx K hK)).mono fun e σ q => ?_
  cases e <;> exact q
theorem done_of {R : Av → Prop} {t : Tg R} {r : Av} (h : R r) : Done R t r := h
theorem done_eq {g : Av} {t : Tg fun r : Av => r = g} {r : Av} (h : r = g) : Done (fun r => r = g) t r := h
end
end Go.Smd
end
