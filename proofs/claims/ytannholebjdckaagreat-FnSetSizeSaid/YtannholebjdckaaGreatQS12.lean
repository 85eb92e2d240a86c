/- Part 12 of the proof: Mn. -/
import Derived.Test.YtannholebjdckaaGreatQS11
set_option linter.unusedVariables false
section
set_option linter.unusedSimpArgs false
namespace Go.Smd
open Go.RowKit
section
variable {P : Program} {N : Nat} {w0 : World} {S0 : Env} {Q : Exit → St → Prop} {sc : Sch} {n : Nat} {k : List Fr} {σ : St} {o : Oper} {K : St → Prop} {t : Tg (σ, o, K)} {cc : Option (FuncId × List Av × List Nat)}
theorem nd_c {f : FuncId} {args : List Av} {F : List Nat} {R : Av → Prop} (hR : ACalls P f args R) (ha : args.all Av.isD = true) (h : ∀ r, R r → okA P r → K ((σ.give P F).put o.dst r)) : Nd P σ o K t (some (f, args, F)) := fun hc => by
  refine .inl ?_
  unfold callK
  rw [← hc]
  exact ⟨ha, R, hR, h⟩
theorem nd_v {f : FuncId} {args : List Av} {F : List Nat} {g : Av} (hR : ACalls P f args fun r => r = g) (ha : args.all Av.isD = true) (h : K ((σ.give P F).put o.dst g)) : Nd P σ o K t (some (f, args, F)) :=
  nd_c hR ha fun r hr _ => by subst hr; exact h
theorem nd_l {f : FuncId} {args : List Av} {F : List Nat} {R : Av → Prop} (hR : ACalls P f args R) (ha : args.all Av.isD = true) (hp : ∀ r, R r → r.plain = true) (h : ∀ r, R r → okA P r → K (σ.put o.dst r)) : Nd P σ o K t (some (f, args, F)) := fun hc => .inr (.lend hc.symm ha hR hp h)
theorem nd_lv {f : FuncId} {args : List Av} {F : List Nat} {g : Av} (hR : ACalls P f args fun r => r = g) (ha : args.all Av.isD = true) (hp : g.plain = true) (h : K (σ.put o.dst g)) : Nd P σ o K t (some (f, args, F)) :=
  nd_l hR ha (fun r hr => by subst hr; exact hp) fun r hr _ => by subst hr; exact h
theorem nd_p {f : FuncId} {xs args : List Av} {Ts : List TypeId} {own0 : List (Nat × Ow)} {ρ : List (Nat × Nat)} {R : Av → List (Nat × Ow) → Prop} (u : Nat) (hR : AProc P f args own0 R) (hc : calleeOf P σ o = some (f, xs, Ts)) (hx : argsC P [] σ.h xs Ts = args.map (Av.ren (renI ρ u))) (ho : handOk ρ args own0 = true) (hh : handed σ.h (renI ρ u) own0)
    (h : ∀ r own', R r own' → backOk σ ρ u own' = true ∧ K ((σ.back ρ u own').put o.dst ((r.ren (renI ρ u)).fix (look (backH σ ρ u own'))))) : Nd P σ o K t cc := fun _ => .inr (.proc hc hx ho hh hR h)
theorem nd_q {f : FuncId} {xs args : List Av} {Ts : List TypeId} {own0 ownB : List (Nat × Ow)} {ρ : List (Nat × Nat)} {r0 : Av} (u : Nat) (hR : AProc P f args own0 fun r own' => r = r0 ∧ own' = ownB) (hc : calleeOf P σ o = some (f, xs, Ts)) (hx : argsC P [] σ.h xs Ts = args.map (Av.ren (renI ρ u))) (ho : handOk ρ args own0 = true) (hh : handed σ.h (renI ρ u) own0)
    (hb : backOk σ ρ u ownB = true) (h : K ((σ.back ρ u ownB).put o.dst ((r0.ren (renI ρ u)).fix (look (backH σ ρ u ownB))))) : Nd P σ o K t cc :=
  nd_p u hR hc hx ho hh fun r own' hr => by obtain ⟨rfl, rfl⟩ := hr; exact ⟨hb, h⟩
theorem nd_qx {X : Type} {f : FuncId} {xs args : List Av} {Ts : List TypeId} {own0 : List (Nat × Ow)} {ownB : X → List (Nat × Ow)} {ρ : List (Nat × Nat)} {r0 : X → Av} {q : X → Prop} (u : Nat) (hR : AProc P f args own0 fun r own' => ∃ x, q x ∧ r = r0 x ∧ own' = ownB x) (hc : calleeOf P σ o = some (f, xs, Ts)) (hx : argsC P [] σ.h xs Ts = args.map (Av.ren (renI ρ u))) (ho : handOk ρ args own0 = true) (hh : handed σ.h (renI ρ u) own0)
    (hb : ∀ x, q x → backOk σ ρ u (ownB x) = true) (h : ∀ x, q x → K ((σ.back ρ u (ownB x)).put o.dst (((r0 x).ren (renI ρ u)).fix (look (backH σ ρ u (ownB x)))))) : Nd P σ o K t cc :=
  nd_p u hR hc hx ho hh fun r own' hr => by obtain ⟨x, hq, rfl, rfl⟩ := hr; exact ⟨hb x hq, h x hq⟩
def BkR (σ : St) (d : Option Tmp) (K : St → Prop) (_ : Tg (σ, d, K)) (r : Av) (own' : List (Nat × Ow)) : Prop := backOk σ (inR σ.own) (d.getD 0) own' = true ∧ K ((σ.back (inR σ.own) (d.getD 0) own').put d ((r.ren (renI (inR σ.own) (d.getD 0))).fix (look (backH σ (inR σ.own) (d.getD 0) own'))))
def BkX (P : Program) (rs : List ResultVar) (σ : St) (d : Option Tmp) (K : St → Prop) : Exit → St → Prop
  | .normal, σ' | .ret, σ' => Ov (resA P σ' rs) (fun r => BkR σ d K () r (dedupK σ'.own)) False ()
  | _, _ => False
theorem BkX_n {rs : List ResultVar} {d : Option Tmp} {tl : List (Nat × Av)} {hl : List (Nat × Ow)} : BkX P rs σ d K .normal ⟨tl, hl⟩ = Ov (resA P ⟨tl, hl⟩ rs) (fun r => BkR σ d K () r (dedupK hl)) False () := _root_.id rfl
theorem BkX_r {rs : List ResultVar} {d : Option Tmp} {tl : List (Nat × Av)} {hl : List (Nat × Ow)} : BkX P rs σ d K .ret ⟨tl, hl⟩ = Ov (resA P ⟨tl, hl⟩ rs) (fun r => BkR σ d K () r (dedupK hl)) False () := _root_.id rfl
theorem call_nw {q : FuncId × List Av × List TypeId} (hc : calleeOf P σ o = some q) : wstep P σ o = none := by
  obtain ⟨dst, op, ty, pos, af, g⟩ := o
  cases op <;> (try (cases hc; done))
  rename_i cl
  obtain ⟨ce, xa, ts⟩ := cl
  cases ce <;> cases dst <;> first | rfl | cases hc
theorem nd_i {f : FuncId} {xs ys args : List Av} {Ts : List TypeId} {own0 : List (Nat × Ow)} {fn : Func} {c : Code} {N' : Nat} {rs : List ResultVar} (sc' : Sch) (hc : calleeOf P σ o = some (f, xs, Ts)) (hA : argsC P [] σ.h xs Ts = ys) (hok : inOk ys σ.own = true)
    (hY : ys.map (Av.ren fun i => i + zed) = args) (hO : inK σ.own = own0) (hf : P.funcs[f]? = some fn) (hn : (fn.name == "runtime.NumGoroutine") = false) (hb : fn.body = some c) (hN : fn.ntmps = N') (hrs : fn.results = rs.toArray) (hl : args.length ≤ N')
    (h : (∀ x ∈ args, x.isD = true → okA P x) → ∀ w0 S0, ex P N' w0 S0 (BkX P rs σ o.dst K) sc' [.code c] () 100000 ⟨startL 0 args, own0⟩) : Nd P σ o K t cc := fun _ => by
  cases hw : wstep P σ o with
  | some σ' => rw [call_nw hc] at hw; cases hw
  | none =>
    have key := vk_i (P := P) (N := 0) (ops := #[]) (os := []) (K := K) (d := o.dst) rfl hw hc hA hok hY hO hf hn hb hN hrs hl fun hk w0 S0 => (ex_aw (h hk w0 S0)).mono fun e σ' q => by
      have key : Ov (resA P σ' rs) (fun r => BkR σ o.dst K () r (dedupK σ'.own)) False () → FinP P rs (BackR P 0 #[] σ [] K o.dst) σ' := fun h => by
        cases hr : resA P σ' rs with
        | none => rw [hr] at h; exact h.elim
        | some r => rw [hr] at h; exact ⟨r, hr, h⟩
      cases e <;> first | exact key q | exact q.elim
    unfold VK at key
    rw [hw] at key
    exact key
theorem nd_range {T : TypeId} {x : Operand} {d : Tmp} {m : List (ByteArray × Tree)} {ty : TypeId} {pos : String} {af : Array Edge} {g : Option (Nat × Bool)} {t : Tg (σ, (⟨some d, .range T x, ty, pos, af, g⟩ : Oper), K)} (hx : σ.ev x = .c (.d (.mp m))) (hT : P.treeMap T = true) (hnd : (m.map (·.1)).Nodup) (hz : ((σ.h d).isNone && decide (d < zed)) = true)
    (h : K ((σ.new d (.clo (.it m (m.map (·.1)) none) [])).put (some d) (.c (.fn d)))) : Nd P σ ⟨some d, .range T x, ty, pos, af, g⟩ K t cc := fun _ => by
  simp only [Bool.and_eq_true, decide_eq_true_eq] at hz
  exact .inr (.range rfl rfl hx hT hnd hz h)
theorem nd_next {x : Operand} {id : Nat} {m : List (ByteArray × Tree)} {left : List ByteArray} {cur : Option ByteArray} {d : Option Tmp} {ty : TypeId} {pos : String} {af : Array Edge} {g : Option (Nat × Bool)} {t : Tg (σ, (⟨d, .next x false, ty, pos, af, g⟩ : Oper), K)} (hx : σ.ev x = .c (.fn id)) (hid : σ.h id = some (.clo (.it m left cur) []))
    (h0 : left = [] → K (σ.put d (.tup [(false, [.d (.v (.bool false))])])))
    (h1 : ∀ k, k ∈ left → k.size ≤ 140737488351232 → K ((σ.new id (.clo (.it m (left.filter fun x => decide (x ≠ k)) (some k)) [])).put d (.tup [(false, [.d (.v (.bool true))]), (false, [.d (.v (.string k))]), (false, [.d (.tr ((mget m k).getD .nil))])]))) : Nd P σ ⟨d, .next x false, ty, pos, af, g⟩ K t cc := fun _ => .inr (.next rfl hx hid h0 h1)
theorem nd_entry {x : Operand} {id : Nat} {m : List (ByteArray × Tree)} {left : List ByteArray} {key : ByteArray} {d : Option Tmp} {ty : TypeId} {pos : String} {af : Array Edge} {g : Option (Nat × Bool)} {t : Tg (σ, (⟨d, .entry x, ty, pos, af, g⟩ : Oper), K)} (hx : σ.ev x = .c (.fn id)) (hid : σ.h id = some (.clo (.it m left (some key)) []))
    (h : K (σ.put d (.tup [(false, [.d (.v (.string key))]), (false, [.d (.tr ((mget m key).getD .nil))])]))) : Nd P σ ⟨d, .entry x, ty, pos, af, g⟩ K t cc := fun _ => .inr (.entry rfl hx hid h)
theorem nd_defer {x : Operand} {name : String} {args : Array Operand} {Ts : Array TypeId} {y : Av} {d : Option Tmp} {ty : TypeId} {pos : String} {af : Array Edge} {g : Option (Nat × Bool)} {t : Tg (σ, (⟨d, .defer ⟨.invoke x name, args, Ts⟩, ty, pos, af, g⟩ : Oper), K)} (hx : σ.ev x = y) (hd : IdleAv P name y) (h : K (σ.put d .any)) : Nd P σ ⟨d, .defer ⟨.invoke x name, args, Ts⟩, ty, pos, af, g⟩ K t cc := fun _ => .inr (.defer rfl hx hd h)
theorem nw_c {B : List Nat} {i : Nat} {t : Tg (B, i, σ, o, K)} {f : FuncId} {args : List Av} {F : List Nat} {R : Av → Prop} (hR : ACalls P f args R) (hp : plainCall o.op = true) (hB : (B.contains i || (F.isEmpty && (calleeOf P ⟨σ.tmps, []⟩ o).isSome)) = true) (ha : args.all Av.isD = true) (h : ∀ r, R r → okA P r → K ((σ.give P F).put o.dst r)) : Nw P B i σ o K t (some (f, args, F)) := fun hc => by
  refine ⟨?_, by unfold callK; rw [← hc]; exact ⟨ha, R, hR, h⟩⟩
  rcases (Bool.or_eq_true ..).mp hB with h1 | h1
  · exact .inl h1
  · rw [Bool.and_eq_true] at h1
    have : F = [] := by simpa using h1.1
    subst this
    obtain ⟨⟨f', xs, Ts⟩, hq⟩ := Option.isSome_iff_exists.1 h1.2
    refine .inr ⟨hp, f', xs, Ts, hq, ?_⟩
    have := calleeOf_none σ.h hq (τ := σ) fun _ _ => rfl
    unfold callOf at hc
    rw [this] at hc
    simp only [Option.map_some, Option.some.injEq, Prod.mk.injEq] at hc
    exact hc.2.2.symm
theorem nw_v {B : List Nat} {i : Nat} {t : Tg (B, i, σ, o, K)} {f : FuncId} {args : List Av} {F : List Nat} {g : Av} (hR : ACalls P f args fun r => r = g) (hp : plainCall o.op = true) (hB : (B.contains i || (F.isEmpty && (calleeOf P ⟨σ.tmps, []⟩ o).isSome)) = true) (ha : args.all Av.isD = true) (h : K ((σ.give P F).put o.dst g)) : Nw P B i σ o K t (some (f, args, F)) :=
  nw_c hR hp hB ha fun r hr _ => by subst hr; exact h
theorem dn_i {ops : List Oper} {B : List Nat} {is : List (Nat × List Nat)} {X : Prop} {t : Tg (ops, B, is, X)} (hm : P.follows .mixedOrders = true) (hok : drawOk ops.toArray B is = true) (h : X) : Dn P ops B is X t := ⟨⟨hm, hok⟩, h⟩
theorem exD_p {i : Nat} {l : List Oper} {tl : List (Nat × Av)} {hl : List (Nat × Ow)} {t : Tg (P, N, w0, S0, Q, sc, k, l, n, tl, hl)} (h : AWp P N w0 S0 (.region i l.toArray true) (fun e σ => e = .normal ∧ ex P N w0 S0 Q sc k () 100000 σ) ⟨tl, hl⟩) : exD P N w0 S0 Q sc k i l n tl hl t none := by
  refine (show AWp P N w0 S0 (.region i l.toArray true) (KQ P N w0 S0 Q k) ⟨tl, hl⟩ from h.mono fun e σ q => ?_)
  obtain ⟨rfl, q⟩ := q
  exact ex_run _ _ _ q
theorem ex_loop {X : Type} {c : Code} {t : Tx P N w0 S0 Q sc (.code (.loop c) :: k)} (inv : X → St) (ok : X → Prop) (μ : X → Nat) (x0 : X) (h0 : Weak P N w0 S0 σ (inv x0)) (k0 : ok x0)
    (round : ∀ x, ok x → ∀ K : St → Prop, (∀ σ' x', Weak P N w0 S0 σ' (inv x') → ok x' → μ x' < μ x → K σ') → ex P N w0 S0 Q sc (.code c :: .lp K :: k) () 100000 (inv x)) : ex P N w0 S0 Q sc (.code (.loop c) :: k) t (n + 1) σ := by
  show AWp P N w0 S0 (.loop c) (KQ P N w0 S0 Q k) σ
  refine aw_loop inv ok μ x0 h0 k0 fun x hx K hK => ?_
  refine (show AWp P N w0 S0 c (KQ P N w0 S0 Q (.lp K :: k)) (inv x) from ex_run 100000 (.code c :: .lp K :: k) (inv x) (round x hx K hK)).mono fun e σ q => ?_
  cases e <;> exact q
theorem done_of {R : Av → Prop} {t : Tg R} {r : Av} (h : R r) : Done R t r := h
theorem done_eq {g : Av} {t : Tg fun r : Av => r = g} {r : Av} (h : r = g) : Done (fun r => r = g) t r := h
end
end Go.Smd
end
