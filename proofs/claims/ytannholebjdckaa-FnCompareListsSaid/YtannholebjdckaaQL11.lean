/- Part 11 of the proof: Mn Ty. -/
import Derived.Test.YtannholebjdckaaQL10
import Derived.Test.YtannholebjdckaaQL06
set_option linter.unusedVariables false
section
set_option linter.unusedSimpArgs false
namespace Go.Smd
open Go.RowKit
section
variable {P : Program} {N : Nat} {w0 : World} {S0 : Env} {Q : Exit → St → Prop} {sc : Sch} {n : Nat} {k : List Fr} {σ : St} {o : Oper} {K : St → Prop} {t : Tg (σ, o, K)} {cc : Option (FuncId × List Av × List Nat)}
theorem nd_c {f : FuncId} {args : List Av} {F : List Nat} {R : Av → Prop} (hR : ACalls P f args R) (ha : args.all Av.isD = true) (h : ∀ r, R r → okA P r → K ((σ.give P F).put o.dst r)) : Nd P σ o K t (some (f, args, F)) := fun hc => by
  refine .inl ?_
  unfold callK
  rw [← hc]
  exact ⟨ha, R, hR, h⟩
theorem nd_v {f : FuncId} {args : List Av} {F : List Nat} {g : Av} (hR : ACalls P f args fun r => r = g) (ha : args.all Av.isD = true) (h : K ((σ.give P F).put o.dst g)) : Nd P σ o K t (some (f, args, F)) :=
  nd_c hR ha fun r hr _ => by subst hr; exact h
theorem nd_l {f : FuncId} {args : List Av} {F : List Nat} {R : Av → Prop} (hR : ACalls P f args R) (ha : args.all Av.isD = true) (hp : ∀ r, R r → r.plain = true) (h : ∀ r, R r → okA P r → K (σ.put o.dst r)) : Nd P σ o K t (some (f, args, F)) := fun hc => .inr (.lend hc.symm ha hR hp h)
theorem nd_lv {f : FuncId} {args : List Av} {F : List Nat} {g : Av} (hR : ACalls P f args fun r => r = g) (ha : args.all Av.isD = true) (hp : g.plain = true) (h : K (σ.put o.dst g)) : Nd P σ o K t (some (f, args, F)) :=
  nd_l hR ha (fun r hr => by subst hr; exact hp) fun r hr _ => by subst hr; exact h
theorem nd_p {f : FuncId} {xs args : List Av} {Ts : List TypeId} {own0 : List (Nat × Ow)} {ρ : List (Nat × Nat)} {R : Av → List (Nat × Ow) → Prop} (u : Nat) (hR : AProc P f args own0 R) (hc : calleeOf P σ o = some (f, xs, Ts)) (hx : argsC P [] σ.h xs Ts = args.map (Av.ren (renI ρ u))) (ho : handOk ρ args own0 = true) (hh : handed σ.h (renI ρ u) own0)
    (h : ∀ r own', R r own' → backOk σ ρ u own' = true ∧ K ((σ.back ρ u own').put o.dst ((r.ren (renI ρ u)).fix (look (backH σ ρ u own'))))) : Nd P σ o K t cc := fun _ => .inr (.proc hc hx ho hh hR h)
theorem nd_q {f : FuncId} {xs args : List Av} {Ts : List TypeId} {own0 ownB : List (Nat × Ow)} {ρ : List (Nat × Nat)} {r0 : Av} (u : Nat) (hR : AProc P f args own0 fun r own' => r = r0 ∧ own' = ownB) (hc : calleeOf P σ o = some (f, xs, Ts)) (hx : argsC P [] σ.h xs Ts = args.map (Av.ren (renI ρ u))) (ho : handOk ρ args own0 = true) (hh : handed σ.h (renI ρ u) own0)
    (hb : backOk σ ρ u ownB = true) (h : K ((σ.back ρ u ownB).put o.dst ((r0.ren (renI ρ u)).fix (look (backH σ ρ u ownB))))) : Nd P σ o K t cc :=
  nd_p u hR hc hx ho hh fun r own' hr => by obtain ⟨rfl, rfl⟩ := hr; exact ⟨hb, h⟩
theorem nd_qx {X : Type} {f : FuncId} {xs args : List Av} {Ts : List TypeId} {own0 : List (Nat × Ow)} {ownB : X → List (Nat × Ow)} {ρ : List (Nat × Nat)} {r0 : X → Av} {q : X → Prop} (u : Nat) (hR : AProc P f args own0 fun r own' => ∃ x, q x ∧ r = r0 x ∧ own' = ownB x) (hc : calleeOf P σ o = some (f, xs, Ts)) (hx : argsC P [] σ.h xs Ts = args.map (Av.ren (renI ρ u))) (ho : handOk ρ args own0 = true) (hh : handed σ.h (renI ρ u) own0)
    (hb : ∀ x, q x → backOk σ ρ u (ownB x) = true) (h : ∀ x, q x → K ((σ.back ρ u (ownB x)).put o.dst (((r0 x).ren (renI ρ u)).fix (look (backH σ ρ u (ownB x)))))) : Nd P σ o K t cc :=
  nd_p u hR hc hx ho hh fun r own' hr => by obtain ⟨x, hq, rfl, rfl⟩ := hr; exact ⟨hb x hq, h x hq⟩
def BkR (σ : St) (d : Option Tmp) (K : St → Prop) (_ : Tg (σ, d, K)) (r : Av) (own' : List (Nat × Ow)) : Prop := backOk σ (inR σ.own) (d.getD 0) own' = true ∧ K ((σ.back (inR σ.own) (d.getD 0) own').put d ((r.ren (renI (inR σ.own) (d.getD 0))).fix (look (backH σ (inR σ.own) (d.getD 0) own'))))
def BkX (P : Program) (rs : List ResultVar) (σ : St) (d : Option Tmp) (K : St → Prop) : Exit → St → Prop
  | .normal, σ' | .ret, σ' => Ov (resA P σ' rs) (fun r => BkR σ d K () r (dedupK σ'.own)) False ()
  | _, _ => False
theorem BkX_n {rs : List ResultVar} {d : Option Tmp} {tl : List (Nat × Av)} {hl : List (Nat × Ow)} : BkX P rs σ d K .normal ⟨tl, hl⟩ = Ov (resA P ⟨tl, hl⟩ rs) (fun r => BkR σ d K () r (dedupK hl)) False () := _root_.id rfl
theorem BkX_r {rs : List ResultVar} {d : Option Tmp} {tl : List (Nat × Av)} {hl : List (Nat × Ow)} : BkX P rs σ d K .ret ⟨tl, hl⟩ = Ov (resA P ⟨tl, hl⟩ rs) (fun r => BkR σ d K () r (dedupK hl)) False () := _root_.id rfl
theorem call_nw {q : FuncId × List Av × List TypeId} (hc : calleeOf P σ o = some q) : wstep P σ o = none := by
  obtain ⟨dst, op, ty, pos, af, g⟩ := o
  cases op <;> (try (cases hc; done))
  rename_i cl
  obtain ⟨ce, xa, ts⟩ := cl
  cases ce <;> cases dst <;> first | rfl | cases hc
theorem nd_i {f : FuncId} {xs ys args : List Av} {Ts : List TypeId} {own0 : List (Nat × Ow)} {fn : Func} {c : Code} {N' : Nat} {rs : List ResultVar} (sc' : Sch) (hc : calleeOf P σ o = some (f, xs, Ts)) (hA : argsC P [] σ.h xs Ts = ys) (hok : inOk ys σ.own = true)
    (hY : ys.map (Av.ren fun i => i + zed) = args) (hO : inK σ.own = own0) (hf : P.funcs[f]? = some fn) (hn : (fn.name == "runtime.NumGoroutine") = false) (hb : fn.body = some c) (hN : fn.ntmps = N') (hrs : fn.results = rs.toArray) (hl : args.length ≤ N')
    (h : (∀ x ∈ args, x.isD = true → okA P x) → ∀ w0 S0, ex P N' w0 S0 (BkX P rs σ o.dst K) sc' [.code c] () 100000 ⟨startL 0 args, own0⟩) : Nd P σ o K t cc := fun _ => by
  cases hw : wstep P σ o with
  | some σ' => rw [call_nw hc] at hw; cases hw
  | none =>
    have key := vk_i (P := P) (N := 0) (ops := #[]) (os := []) (K := K) (d := o.dst) rfl hw hc hA hok hY hO hf hn hb hN hrs hl fun hk w0 S0 => (ex_aw (h hk w0 S0)).mono fun e σ' q => by
      have key : Ov (resA P σ' rs) (fun r => BkR σ o.dst K () r (dedupK σ'.own)) False () → FinP P rs (BackR P 0 #[] σ [] K o.dst) σ' := fun h => by
        cases hr : resA P σ' rs with
        | none => rw [hr] at h; exact h.elim
        | some r => rw [hr] at h; exact ⟨r, hr, h⟩
      cases e <;> first | exact key q | exact q.elim
    unfold VK at key
    rw [hw] at key
    exact key
theorem nd_range {T : TypeId} {x : Operand} {d : Tmp} {m : List (ByteArray × Tree)} {ty : TypeId} {pos : String} {af : Array Edge} {g : Option (Nat × Bool)} {t : Tg (σ, (⟨some d, .range T x, ty, pos, af, g⟩ : Oper), K)} (hx : σ.ev x = .c (.d (.mp m))) (hT : P.treeMap T = true) (hnd : (m.map (·.1)).Nodup) (hz : ((σ.h d).isNone && decide (d < zed)) = true)
    (h : K ((σ.new d (.clo (.it m (m.map (·.1)) none) [])).put (some d) (.c (.fn d)))) : Nd P σ ⟨some d, .range T x, ty, pos, af, g⟩ K t cc := fun _ => by
  simp only [Bool.and_eq_true, decide_eq_true_eq] at hz
  exact .inr (.range rfl rfl hx hT hnd hz h)
theorem nd_next {x : Operand} {id : Nat} {m : List (ByteArray × Tree)} {left : List ByteArray} {cur : Option ByteArray} {d : Option Tmp} {ty : TypeId} {pos : String} {af : Array Edge} {g : Option (Nat × Bool)} {t : Tg (σ, (⟨d, .next x false, ty, pos, af, g⟩ : Oper), K)} (hx : σ.ev x = .c (.fn id)) (hid : σ.h id = some (.clo (.it m left cur) []))
    (h0 : left = [] → K (σ.put d (.tup [(false, [.d (.v (.bool false))])])))
    (h1 : ∀ k, k ∈ left → k.size ≤ 140737488351232 → K ((σ.new id (.clo (.it m (left.filter fun x => decide (x ≠ k)) (some k)) [])).put d (.tup [(false, [.d (.v (.bool true))]), (false, [.d (.v (.string k))]), (false, [.d (.tr ((mget m k).getD .nil))])]))) : Nd P σ ⟨d, .next x false, ty, pos, af, g⟩ K t cc := fun _ => .inr (.next rfl hx hid h0 h1)
theorem nd_entry {x : Operand} {id : Nat} {m : List (ByteArray × Tree)} {left : List ByteArray} {key : ByteArray} {d : Option Tmp} {ty : TypeId} {pos : String} {af : Array Edge} {g : Option (Nat × Bool)} {t : Tg (σ, (⟨d, .entry x, ty, pos, af, g⟩ : Oper), K)} (hx : σ.ev x = .c (.fn id)) (hid : σ.h id = some (.clo (.it m left (some key)) []))
    (h : K (σ.put d (.tup [(false, [.d (.v (.string key))]), (false, [.d (.tr ((mget m key).getD .nil))])]))) : Nd P σ ⟨d, .entry x, ty, pos, af, g⟩ K t cc := fun _ => .inr (.entry rfl hx hid h)
theorem nd_defer {x : Operand} {name : String} {args : Array Operand} {Ts : Array TypeId} {y : Av} {d : Option Tmp} {ty : TypeId} {pos : String} {af : Array Edge} {g : Option (Nat × Bool)} {t : Tg (σ, (⟨d, .defer ⟨.invoke x name, args, Ts⟩, ty, pos, af, g⟩ : Oper), K)} (hx : σ.ev x = y) (hd : IdleAv P name y) (h : K (σ.put d .any)) : Nd P σ ⟨d, .defer ⟨.invoke x name, args, Ts⟩, ty, pos, af, g⟩ K t cc := fun _ => .inr (.defer rfl hx hd h)
theorem nw_c {B : List Nat} {i : Nat} {t : Tg (B, i, σ, o, K)} {f : FuncId} {args : List Av} {F : List Nat} {R : Av → Prop} (hR : ACalls P f args R) (hp : plainCall o.op = true) (hB : (B.contains i || (F.isEmpty && (calleeOf P ⟨σ.tmps, []⟩ o).isSome)) = true) (ha : args.all Av.isD = true) (h : ∀ r, R r → okA P r → K ((σ.give P F).put o.dst r)) : Nw P B i σ o K t (some (f, args, F)) := fun hc => by
  refine ⟨?_, by unfold callK; rw [← hc]; exact ⟨ha, R, hR, h⟩⟩
  rcases (Bool.or_eq_true ..).mp hB with h1 | h1
  · exact .inl h1
  · rw [Bool.and_eq_true] at h1
    have : F = [] := by simpa using h1.1
    subst this
    obtain ⟨⟨f', xs, Ts⟩, hq⟩ := Option.isSome_iff_exists.1 h1.2
    refine .inr ⟨hp, f', xs, Ts, hq, ?_⟩
    have := calleeOf_none σ.h hq (τ := σ) fun _ _ => rfl
    unfold callOf at hc
    rw [this] at hc
    simp only [Option.map_some, Option.some.injEq, Prod.mk.injEq] at hc
    exact hc.2.2.symm
theorem nw_v {B : List Nat} {i : Nat} {t : Tg (B, i, σ, o, K)} {f : FuncId} {args : List Av} {F : List Nat} {g : Av} (hR : ACalls P f args fun r => r = g) (hp : plainCall o.op = true) (hB : (B.contains i || (F.isEmpty && (calleeOf P ⟨σ.tmps, []⟩ o).isSome)) = true) (ha : args.all Av.isD = true) (h : K ((σ.give P F).put o.dst g)) : Nw P B i σ o K t (some (f, args, F)) :=
  nw_c hR hp hB ha fun r hr _ => by subst hr; exact h
theorem dn_i {ops : List Oper} {B : List Nat} {is : List (Nat × List Nat)} {X : Prop} {t : Tg (ops, B, is, X)} (hm : P.follows .mixedOrders = true) (hok : drawOk ops.toArray B is = true) (h : X) : Dn P ops B is X t := ⟨⟨hm, hok⟩, h⟩
theorem exD_p {i : Nat} {l : List Oper} {tl : List (Nat × Av)} {hl : List (Nat × Ow)} {t : Tg (P, N, w0, S0, Q, sc, k, l, n, tl, hl)} (h : AWp P N w0 S0 (.region i l.toArray true) (fun e σ => e = .normal ∧ ex P N w0 S0 Q sc k () 100000 σ) ⟨tl, hl⟩) : exD P N w0 S0 Q sc k i l n tl hl t none := by
  refine (show AWp P N w0 S0 (.region i l.toArray true) (KQ P N w0 S0 Q k) ⟨tl, hl⟩ from h.mono fun e σ q => ?_)
  obtain ⟨rfl, q⟩ := q
  exact ex_run _ _ _ q
theorem ex_loop {X : Type} {c : Code} {t : Tx P N w0 S0 Q sc (.code (.loop c) :: k)} (inv : X → St) (ok : X → Prop) (μ : X → Nat) (x0 : X) (h0 : Weak P N w0 S0 σ (inv x0)) (k0 : ok x0)
    (round : ∀ x, ok x → ∀ K : St → Prop, (∀ σ' x', Weak P N w0 S0 σ' (inv x') → ok x' → μ x' < μ x → K σ') → ex P N w0 S0 Q sc (.code c :: .lp K :: k) () 100000 (inv x)) : ex P N w0 S0 Q sc (.code (.loop c) :: k) t (n + 1) σ := by
  show AWp P N w0 S0 (.loop c) (KQ P N w0 S0 Q k) σ
  refine aw_loop inv ok μ x0 h0 k0 fun x hx K hK => ?_
  refine (show AWp P N w0 S0 c (KQ P N w0 S0 Q (.lp K :: k)) (inv x) from ex_run 100000 (.code c :: .lp K :: k) (inv x) (round x hx K hK)).mono fun e σ q => ?_
  cases e <;> exact q
theorem done_eq {g : Av} {t : Tg fun r : Av => r = g} {r : Av} (h : r = g) : Done (fun r => r = g) t r := h
end
end Go.Smd
end
section
set_option linter.unusedSimpArgs false
namespace Go.Smd
open Go.RowKit Go.Proofs
@[simp] theorem lay_2 : Try.prog.lay 2 = some (1, false) := by kernel_rfl
@[simp] theorem cells_2 : Try.prog.cellsOf 2 = 1 := by kernel_rfl
@[simp] theorem info_2 : (Try.prog.info? 2).isSome = true := by kernel_rfl
@[simp] theorem bytes_2 : Try.prog.bytesOf 2 = 8 := by kernel_rfl
@[simp] theorem ctys_2 : ctys Try.prog 2 = [none] := by kernel_rfl
@[simp] theorem conc_2 : Try.prog.concrete 2 = true := by kernel_rfl
@[simp] theorem zero_2 : zeroCs Try.prog 2 = some [.d (.v (.int .i64 0))] := by kernel_rfl
@[simp] theorem ifc_2 : isIfcT Try.prog 2 = some false := by kernel_rfl
@[simp] theorem map_2 : Try.prog.isMap 2 = false := by kernel_rfl
@[simp] theorem ptr_2 : Try.prog.ptrT 2 = some none := by kernel_rfl
@[simp] theorem ztup_2 : zeroTup Try.prog 2 = some (.tup [(false, [.d (.v (.int .i64 0))]), (false, [.d (.v (.bool false))])]) := by kernel_rfl
@[simp] theorem app_2 : Try.prog.appOk 2 = true := by kernel_rfl
@[simp] theorem und_2 : Try.prog.underlying 2 = some (.int .i64) := by kernel_rfl
@[simp] theorem lay_3 : Try.prog.lay 3 = some (1, false) := by kernel_rfl
@[simp] theorem cells_3 : Try.prog.cellsOf 3 = 1 := by kernel_rfl
@[simp] theorem info_3 : (Try.prog.info? 3).isSome = true := by kernel_rfl
@[simp] theorem bytes_3 : Try.prog.bytesOf 3 = 8 := by kernel_rfl
@[simp] theorem ctys_3 : ctys Try.prog 3 = [none] := by kernel_rfl
@[simp] theorem conc_3 : Try.prog.concrete 3 = true := by kernel_rfl
@[simp] theorem zero_3 : zeroCs Try.prog 3 = some [.d (.v (.int .i64 0))] := by kernel_rfl
@[simp] theorem ifc_3 : isIfcT Try.prog 3 = some false := by kernel_rfl
@[simp] theorem map_3 : Try.prog.isMap 3 = false := by kernel_rfl
@[simp] theorem ptr_3 : Try.prog.ptrT 3 = some none := by kernel_rfl
@[simp] theorem ztup_3 : zeroTup Try.prog 3 = some (.tup [(false, [.d (.v (.int .i64 0))]), (false, [.d (.v (.bool false))])]) := by kernel_rfl
@[simp] theorem app_3 : Try.prog.appOk 3 = true := by kernel_rfl
@[simp] theorem und_3 : Try.prog.underlying 3 = some (.int .i64) := by kernel_rfl
@[simp] theorem lay_4 : Try.prog.lay 4 = some (1, false) := by kernel_rfl
@[simp] theorem cells_4 : Try.prog.cellsOf 4 = 1 := by kernel_rfl
@[simp] theorem info_4 : (Try.prog.info? 4).isSome = true := by kernel_rfl
@[simp] theorem bytes_4 : Try.prog.bytesOf 4 = 1 := by kernel_rfl
@[simp] theorem ctys_4 : ctys Try.prog 4 = [none] := by kernel_rfl
@[simp] theorem conc_4 : Try.prog.concrete 4 = true := by kernel_rfl
@[simp] theorem zero_4 : zeroCs Try.prog 4 = some [.d (.v (.bool false))] := by kernel_rfl
@[simp] theorem ifc_4 : isIfcT Try.prog 4 = some false := by kernel_rfl
@[simp] theorem map_4 : Try.prog.isMap 4 = false := by kernel_rfl
@[simp] theorem ptr_4 : Try.prog.ptrT 4 = some none := by kernel_rfl
@[simp] theorem ztup_4 : zeroTup Try.prog 4 = some (.tup [(false, [.d (.v (.bool false))]), (false, [.d (.v (.bool false))])]) := by kernel_rfl
@[simp] theorem app_4 : Try.prog.appOk 4 = true := by kernel_rfl
@[simp] theorem und_4 : Try.prog.underlying 4 = some .bool := by kernel_rfl
@[simp] theorem lay_5 : Try.prog.lay 5 = some (1, false) := by kernel_rfl
@[simp] theorem cells_5 : Try.prog.cellsOf 5 = 1 := by kernel_rfl
@[simp] theorem info_5 : (Try.prog.info? 5).isSome = true := by kernel_rfl
@[simp] theorem bytes_5 : Try.prog.bytesOf 5 = 1 := by kernel_rfl
@[simp] theorem ctys_5 : ctys Try.prog 5 = [none] := by kernel_rfl
@[simp] theorem conc_5 : Try.prog.concrete 5 = true := by kernel_rfl
@[simp] theorem zero_5 : zeroCs Try.prog 5 = some [.d (.v (.int .u8 0))] := by kernel_rfl
@[simp] theorem ifc_5 : isIfcT Try.prog 5 = some false := by kernel_rfl
@[simp] theorem map_5 : Try.prog.isMap 5 = false := by kernel_rfl
@[simp] theorem ptr_5 : Try.prog.ptrT 5 = some none := by kernel_rfl
@[simp] theorem ztup_5 : zeroTup Try.prog 5 = some (.tup [(false, [.d (.v (.int .u8 0))]), (false, [.d (.v (.bool false))])]) := by kernel_rfl
@[simp] theorem app_5 : Try.prog.appOk 5 = true := by kernel_rfl
@[simp] theorem und_5 : Try.prog.underlying 5 = some (.int .u8) := by kernel_rfl
@[simp] theorem fld_7_0 : Try.prog.fld 7 0 = some (0, 1, false) := by kernel_rfl
@[simp] theorem fld_7_1 : Try.prog.fld 7 1 = some (1, 1, false) := by kernel_rfl
@[simp] theorem fld_7_2 : Try.prog.fld 7 2 = some (2, 1, false) := by kernel_rfl
@[simp] theorem fld_7_3 : Try.prog.fld 7 3 = some (3, 1, false) := by kernel_rfl
@[simp] theorem fld_8_0 : Try.prog.fld 8 0 = some (0, 1, false) := by kernel_rfl
@[simp] theorem fld_8_1 : Try.prog.fld 8 1 = some (1, 1, false) := by kernel_rfl
@[simp] theorem fld_8_2 : Try.prog.fld 8 2 = some (2, 1, false) := by kernel_rfl
@[simp] theorem fld_8_3 : Try.prog.fld 8 3 = some (3, 1, false) := by kernel_rfl
@[simp] theorem lay_9 : Try.prog.lay 9 = some (1, false) := by kernel_rfl
@[simp] theorem cells_9 : Try.prog.cellsOf 9 = 1 := by kernel_rfl
@[simp] theorem info_9 : (Try.prog.info? 9).isSome = true := by kernel_rfl
@[simp] theorem bytes_9 : Try.prog.bytesOf 9 = 16 := by kernel_rfl
@[simp] theorem ctys_9 : ctys Try.prog 9 = [none] := by kernel_rfl
@[simp] theorem conc_9 : Try.prog.concrete 9 = true := by kernel_rfl
@[simp] theorem zero_9 : zeroCs Try.prog 9 = some [.d (.v (.string ⟨#[]⟩))] := by kernel_rfl
@[simp] theorem ifc_9 : isIfcT Try.prog 9 = some false := by kernel_rfl
@[simp] theorem map_9 : Try.prog.isMap 9 = false := by kernel_rfl
@[simp] theorem ptr_9 : Try.prog.ptrT 9 = some none := by kernel_rfl
@[simp] theorem ztup_9 : zeroTup Try.prog 9 = some (.tup [(false, [.d (.v (.string ⟨#[]⟩))]), (false, [.d (.v (.bool false))])]) := by kernel_rfl
@[simp] theorem app_9 : Try.prog.appOk 9 = true := by kernel_rfl
@[simp] theorem und_9 : Try.prog.underlying 9 = some .string := by kernel_rfl
@[simp] theorem fld_13_0 : Try.prog.fld 13 0 = some (0, 1, false) := by kernel_rfl
@[simp] theorem fld_13_1 : Try.prog.fld 13 1 = some (1, 1, false) := by kernel_rfl
@[simp] theorem fld_14_0 : Try.prog.fld 14 0 = some (0, 1, false) := by kernel_rfl
@[simp] theorem fld_14_1 : Try.prog.fld 14 1 = some (1, 1, false) := by kernel_rfl
@[simp] theorem fld_18_0 : Try.prog.fld 18 0 = some (0, 1, false) := by kernel_rfl
@[simp] theorem fld_19_0 : Try.prog.fld 19 0 = some (0, 1, false) := by kernel_rfl
@[simp] theorem lay_20 : Try.prog.lay 20 = some (1, false) := by kernel_rfl
@[simp] theorem cells_20 : Try.prog.cellsOf 20 = 1 := by kernel_rfl
@[simp] theorem info_20 : (Try.prog.info? 20).isSome = true := by kernel_rfl
@[simp] theorem bytes_20 : Try.prog.bytesOf 20 = 16 := by kernel_rfl
@[simp] theorem ctys_20 : ctys Try.prog 20 = [none] := by kernel_rfl
@[simp] theorem zero_20 : zeroCs Try.prog 20 = some [.d (.v (.nilIface))] := by kernel_rfl
@[simp] theorem ifc_20 : isIfcT Try.prog 20 = some true := by kernel_rfl
@[simp] theorem map_20 : Try.prog.isMap 20 = false := by kernel_rfl
@[simp] theorem app_20 : Try.prog.appOk 20 = true := by kernel_rfl
@[simp] theorem lay_21 : Try.prog.lay 21 = some (1, false) := by kernel_rfl
@[simp] theorem cells_21 : Try.prog.cellsOf 21 = 1 := by kernel_rfl
@[simp] theorem info_21 : (Try.prog.info? 21).isSome = true := by kernel_rfl
@[simp] theorem bytes_21 : Try.prog.bytesOf 21 = 4 := by kernel_rfl
@[simp] theorem ctys_21 : ctys Try.prog 21 = [none] := by kernel_rfl
@[simp] theorem conc_21 : Try.prog.concrete 21 = true := by kernel_rfl
@[simp] theorem zero_21 : zeroCs Try.prog 21 = some [.d (.v (.int .i32 0))] := by kernel_rfl
@[simp] theorem ifc_21 : isIfcT Try.prog 21 = some false := by kernel_rfl
@[simp] theorem map_21 : Try.prog.isMap 21 = false := by kernel_rfl
@[simp] theorem ptr_21 : Try.prog.ptrT 21 = some none := by kernel_rfl
@[simp] theorem ztup_21 : zeroTup Try.prog 21 = some (.tup [(false, [.d (.v (.int .i32 0))]), (false, [.d (.v (.bool false))])]) := by kernel_rfl
@[simp] theorem app_21 : Try.prog.appOk 21 = true := by kernel_rfl
@[simp] theorem und_21 : Try.prog.underlying 21 = some (.int .i32) := by kernel_rfl
@[simp] theorem lay_22 : Try.prog.lay 22 = some (1, false) := by kernel_rfl
@[simp] theorem cells_22 : Try.prog.cellsOf 22 = 1 := by kernel_rfl
@[simp] theorem info_22 : (Try.prog.info? 22).isSome = true := by kernel_rfl
@[simp] theorem bytes_22 : Try.prog.bytesOf 22 = 24 := by kernel_rfl
@[simp] theorem ctys_22 : ctys Try.prog 22 = [some 29] := by kernel_rfl
@[simp] theorem conc_22 : Try.prog.concrete 22 = true := by kernel_rfl
@[simp] theorem zero_22 : zeroCs Try.prog 22 = some [.d (.v (.slice none 0 0))] := by kernel_rfl
@[simp] theorem ifc_22 : isIfcT Try.prog 22 = some false := by kernel_rfl
@[simp] theorem map_22 : Try.prog.isMap 22 = false := by kernel_rfl
@[simp] theorem ptr_22 : Try.prog.ptrT 22 = some none := by kernel_rfl
@[simp] theorem ztup_22 : zeroTup Try.prog 22 = some (.tup [(false, [.d (.v (.slice none 0 0))]), (false, [.d (.v (.bool false))])]) := by kernel_rfl
@[simp] theorem app_22 : Try.prog.appOk 22 = true := by kernel_rfl
@[simp] theorem elem_22 : Try.prog.elemT 22 = some 29 := by kernel_rfl
@[simp] theorem und_22 : Try.prog.underlying 22 = some (.slice 29) := by kernel_rfl
@[simp] theorem lay_26 : Try.prog.lay 26 = some (1, false) := by kernel_rfl
@[simp] theorem cells_26 : Try.prog.cellsOf 26 = 1 := by kernel_rfl
@[simp] theorem info_26 : (Try.prog.info? 26).isSome = true := by kernel_rfl
@[simp] theorem bytes_26 : Try.prog.bytesOf 26 = 24 := by kernel_rfl
@[simp] theorem ctys_26 : ctys Try.prog 26 = [some 9] := by kernel_rfl
@[simp] theorem conc_26 : Try.prog.concrete 26 = true := by kernel_rfl
@[simp] theorem zero_26 : zeroCs Try.prog 26 = some [.d (.v (.slice none 0 0))] := by kernel_rfl
@[simp] theorem ifc_26 : isIfcT Try.prog 26 = some false := by kernel_rfl
@[simp] theorem map_26 : Try.prog.isMap 26 = false := by kernel_rfl
@[simp] theorem ptr_26 : Try.prog.ptrT 26 = some none := by kernel_rfl
@[simp] theorem ztup_26 : zeroTup Try.prog 26 = some (.tup [(false, [.d (.v (.slice none 0 0))]), (false, [.d (.v (.bool false))])]) := by kernel_rfl
@[simp] theorem app_26 : Try.prog.appOk 26 = true := by kernel_rfl
@[simp] theorem elem_26 : Try.prog.elemT 26 = some 9 := by kernel_rfl
@[simp] theorem und_26 : Try.prog.underlying 26 = some (.slice 9) := by kernel_rfl
@[simp] theorem lay_27 : Try.prog.lay 27 = some (1, false) := by kernel_rfl
@[simp] theorem cells_27 : Try.prog.cellsOf 27 = 1 := by kernel_rfl
@[simp] theorem info_27 : (Try.prog.info? 27).isSome = true := by kernel_rfl
@[simp] theorem bytes_27 : Try.prog.bytesOf 27 = 8 := by kernel_rfl
@[simp] theorem ctys_27 : ctys Try.prog 27 = [none] := by kernel_rfl
@[simp] theorem conc_27 : Try.prog.concrete 27 = true := by kernel_rfl
@[simp] theorem zero_27 : zeroCs Try.prog 27 = some [.d (.v (.float .f64 0))] := by kernel_rfl
@[simp] theorem ifc_27 : isIfcT Try.prog 27 = some false := by kernel_rfl
@[simp] theorem map_27 : Try.prog.isMap 27 = false := by kernel_rfl
@[simp] theorem ptr_27 : Try.prog.ptrT 27 = some none := by kernel_rfl
@[simp] theorem ztup_27 : zeroTup Try.prog 27 = some (.tup [(false, [.d (.v (.float .f64 0))]), (false, [.d (.v (.bool false))])]) := by kernel_rfl
@[simp] theorem app_27 : Try.prog.appOk 27 = true := by kernel_rfl
@[simp] theorem und_27 : Try.prog.underlying 27 = some (.float .f64) := by kernel_rfl
@[simp] theorem fld_28_0 : Try.prog.fld 28 0 = some (0, 1, false) := by kernel_rfl
@[simp] theorem fld_28_1 : Try.prog.fld 28 1 = some (1, 1, false) := by kernel_rfl
@[simp] theorem fld_28_2 : Try.prog.fld 28 2 = some (2, 1, false) := by kernel_rfl
@[simp] theorem fld_28_3 : Try.prog.fld 28 3 = some (3, 1, false) := by kernel_rfl
@[simp] theorem fld_28_4 : Try.prog.fld 28 4 = some (4, 1, false) := by kernel_rfl
@[simp] theorem fld_28_5 : Try.prog.fld 28 5 = some (5, 1, false) := by kernel_rfl
@[simp] theorem lay_29 : Try.prog.lay 29 = some (6, true) := by kernel_rfl
@[simp] theorem cells_29 : Try.prog.cellsOf 29 = 6 := by kernel_rfl
@[simp] theorem info_29 : (Try.prog.info? 29).isSome = true := by kernel_rfl
@[simp] theorem bytes_29 : Try.prog.bytesOf 29 = 88 := by kernel_rfl
@[simp] theorem ctys_29 : ctys Try.prog 29 = [none, none, none, none, some 9, some 29] := by kernel_rfl
@[simp] theorem conc_29 : Try.prog.concrete 29 = true := by kernel_rfl
@[simp] theorem zero_29 : zeroCs Try.prog 29 = some [.d (.v (.int .i64 0)), .d (.v (.int .i64 0)), .d (.v (.float .f64 0)), .d (.v (.string ⟨#[]⟩)), .d (.v (.slice none 0 0)), .d (.v (.slice none 0 0))] := by kernel_rfl
@[simp] theorem fld_29_0 : Try.prog.fld 29 0 = some (0, 1, false) := by kernel_rfl
@[simp] theorem fld_29_1 : Try.prog.fld 29 1 = some (1, 1, false) := by kernel_rfl
@[simp] theorem fld_29_2 : Try.prog.fld 29 2 = some (2, 1, false) := by kernel_rfl
@[simp] theorem fld_29_3 : Try.prog.fld 29 3 = some (3, 1, false) := by kernel_rfl
@[simp] theorem fld_29_4 : Try.prog.fld 29 4 = some (4, 1, false) := by kernel_rfl
@[simp] theorem fld_29_5 : Try.prog.fld 29 5 = some (5, 1, false) := by kernel_rfl
@[simp] theorem str_29 : Try.prog.strOk 29 = true := by kernel_rfl
@[simp] theorem ifc_29 : isIfcT Try.prog 29 = some false := by kernel_rfl
@[simp] theorem map_29 : Try.prog.isMap 29 = false := by kernel_rfl
@[simp] theorem ptr_29 : Try.prog.ptrT 29 = some none := by kernel_rfl
@[simp] theorem ztup_29 : zeroTup Try.prog 29 = some (.tup [(true, [.d (.v (.int .i64 0)), .d (.v (.int .i64 0)), .d (.v (.float .f64 0)), .d (.v (.string ⟨#[]⟩)), .d (.v (.slice none 0 0)), .d (.v (.slice none 0 0))]), (false, [.d (.v (.bool false))])]) := by kernel_rfl
@[simp] theorem app_29 : Try.prog.appOk 29 = true := by kernel_rfl
@[simp] theorem fld_30_0 : Try.prog.fld 30 0 = some (0, 1, false) := by kernel_rfl
@[simp] theorem fld_30_1 : Try.prog.fld 30 1 = some (1, 1, false) := by kernel_rfl
@[simp] theorem fld_30_2 : Try.prog.fld 30 2 = some (2, 1, false) := by kernel_rfl
@[simp] theorem fld_30_3 : Try.prog.fld 30 3 = some (3, 1, false) := by kernel_rfl
@[simp] theorem fld_30_4 : Try.prog.fld 30 4 = some (4, 6, true) := by kernel_rfl
@[simp] theorem fld_30_5 : Try.prog.fld 30 5 = some (10, 1, false) := by kernel_rfl
@[simp] theorem fld_31_0 : Try.prog.fld 31 0 = some (0, 1, false) := by kernel_rfl
@[simp] theorem fld_31_1 : Try.prog.fld 31 1 = some (1, 1, false) := by kernel_rfl
@[simp] theorem fld_31_2 : Try.prog.fld 31 2 = some (2, 1, false) := by kernel_rfl
@[simp] theorem fld_31_3 : Try.prog.fld 31 3 = some (3, 1, false) := by kernel_rfl
@[simp] theorem fld_31_4 : Try.prog.fld 31 4 = some (4, 6, true) := by kernel_rfl
@[simp] theorem fld_31_5 : Try.prog.fld 31 5 = some (10, 1, false) := by kernel_rfl
@[simp] theorem lay_44 : Try.prog.lay 44 = some (1, false) := by kernel_rfl
@[simp] theorem cells_44 : Try.prog.cellsOf 44 = 1 := by kernel_rfl
@[simp] theorem info_44 : (Try.prog.info? 44).isSome = true := by kernel_rfl
@[simp] theorem bytes_44 : Try.prog.bytesOf 44 = 16 := by kernel_rfl
@[simp] theorem ctys_44 : ctys Try.prog 44 = [none] := by kernel_rfl
@[simp] theorem zero_44 : zeroCs Try.prog 44 = some [.d (.v (.nilIface))] := by kernel_rfl
@[simp] theorem ifc_44 : isIfcT Try.prog 44 = some true := by kernel_rfl
@[simp] theorem map_44 : Try.prog.isMap 44 = false := by kernel_rfl
@[simp] theorem app_44 : Try.prog.appOk 44 = true := by kernel_rfl
@[simp] theorem lay_57 : Try.prog.lay 57 = some (1, false) := by kernel_rfl
@[simp] theorem cells_57 : Try.prog.cellsOf 57 = 1 := by kernel_rfl
@[simp] theorem info_57 : (Try.prog.info? 57).isSome = true := by kernel_rfl
@[simp] theorem bytes_57 : Try.prog.bytesOf 57 = 16 := by kernel_rfl
@[simp] theorem ctys_57 : ctys Try.prog 57 = [none] := by kernel_rfl
@[simp] theorem zero_57 : zeroCs Try.prog 57 = some [.d (.v (.nilIface))] := by kernel_rfl
@[simp] theorem ifc_57 : isIfcT Try.prog 57 = some true := by kernel_rfl
@[simp] theorem map_57 : Try.prog.isMap 57 = false := by kernel_rfl
@[simp] theorem app_57 : Try.prog.appOk 57 = true := by kernel_rfl
@[simp] theorem lay_62 : Try.prog.lay 62 = some (1, false) := by kernel_rfl
@[simp] theorem cells_62 : Try.prog.cellsOf 62 = 1 := by kernel_rfl
@[simp] theorem info_62 : (Try.prog.info? 62).isSome = true := by kernel_rfl
@[simp] theorem bytes_62 : Try.prog.bytesOf 62 = 8 := by kernel_rfl
@[simp] theorem ctys_62 : ctys Try.prog 62 = [none] := by kernel_rfl
@[simp] theorem conc_62 : Try.prog.concrete 62 = true := by kernel_rfl
@[simp] theorem zero_62 : zeroCs Try.prog 62 = some [.d (.v (.pointer none))] := by kernel_rfl
@[simp] theorem ifc_62 : isIfcT Try.prog 62 = some false := by kernel_rfl
@[simp] theorem map_62 : Try.prog.isMap 62 = false := by kernel_rfl
@[simp] theorem ptr_62 : Try.prog.ptrT 62 = some (some 64) := by kernel_rfl
@[simp] theorem ztup_62 : zeroTup Try.prog 62 = some (.tup [(false, [.d (.v (.pointer none))]), (false, [.d (.v (.bool false))])]) := by kernel_rfl
@[simp] theorem app_62 : Try.prog.appOk 62 = true := by kernel_rfl
@[simp] theorem und_62 : Try.prog.underlying 62 = some (.pointer 64) := by kernel_rfl
@[simp] theorem lay_64 : Try.prog.lay 64 = some (0, true) := by kernel_rfl
@[simp] theorem cells_64 : Try.prog.cellsOf 64 = 0 := by kernel_rfl
@[simp] theorem info_64 : (Try.prog.info? 64).isSome = true := by kernel_rfl
@[simp] theorem bytes_64 : Try.prog.bytesOf 64 = 0 := by kernel_rfl
@[simp] theorem ctys_64 : ctys Try.prog 64 = [] := by kernel_rfl
@[simp] theorem conc_64 : Try.prog.concrete 64 = true := by kernel_rfl
@[simp] theorem zero_64 : zeroCs Try.prog 64 = some [] := by kernel_rfl
@[simp] theorem str_64 : Try.prog.strOk 64 = true := by kernel_rfl
@[simp] theorem ifc_64 : isIfcT Try.prog 64 = some false := by kernel_rfl
@[simp] theorem map_64 : Try.prog.isMap 64 = false := by kernel_rfl
@[simp] theorem ptr_64 : Try.prog.ptrT 64 = some none := by kernel_rfl
@[simp] theorem ztup_64 : zeroTup Try.prog 64 = some (.tup [(true, []), (false, [.d (.v (.bool false))])]) := by kernel_rfl
@[simp] theorem fld_67_0 : Try.prog.fld 67 0 = some (0, 1, false) := by kernel_rfl
@[simp] theorem fld_67_1 : Try.prog.fld 67 1 = some (1, 1, false) := by kernel_rfl
@[simp] theorem fld_68_0 : Try.prog.fld 68 0 = some (0, 1, false) := by kernel_rfl
@[simp] theorem fld_68_1 : Try.prog.fld 68 1 = some (1, 1, false) := by kernel_rfl
@[simp] theorem lay_82 : Try.prog.lay 82 = some (1, false) := by kernel_rfl
@[simp] theorem cells_82 : Try.prog.cellsOf 82 = 1 := by kernel_rfl
@[simp] theorem info_82 : (Try.prog.info? 82).isSome = true := by kernel_rfl
@[simp] theorem bytes_82 : Try.prog.bytesOf 82 = 16 := by kernel_rfl
@[simp] theorem ctys_82 : ctys Try.prog 82 = [none] := by kernel_rfl
@[simp] theorem zero_82 : zeroCs Try.prog 82 = some [.d (.v (.nilIface))] := by kernel_rfl
@[simp] theorem ifc_82 : isIfcT Try.prog 82 = some true := by kernel_rfl
@[simp] theorem map_82 : Try.prog.isMap 82 = false := by kernel_rfl
@[simp] theorem app_82 : Try.prog.appOk 82 = true := by kernel_rfl
@[simp] theorem lay_99 : Try.prog.lay 99 = some (1, false) := by kernel_rfl
@[simp] theorem cells_99 : Try.prog.cellsOf 99 = 1 := by kernel_rfl
@[simp] theorem info_99 : (Try.prog.info? 99).isSome = true := by kernel_rfl
@[simp] theorem bytes_99 : Try.prog.bytesOf 99 = 16 := by kernel_rfl
@[simp] theorem ctys_99 : ctys Try.prog 99 = [none] := by kernel_rfl
@[simp] theorem zero_99 : zeroCs Try.prog 99 = some [.d (.v (.nilIface))] := by kernel_rfl
@[simp] theorem ifc_99 : isIfcT Try.prog 99 = some true := by kernel_rfl
@[simp] theorem map_99 : Try.prog.isMap 99 = false := by kernel_rfl
@[simp] theorem app_99 : Try.prog.appOk 99 = true := by kernel_rfl
@[simp] theorem lay_102 : Try.prog.lay 102 = some (1, false) := by kernel_rfl
@[simp] theorem cells_102 : Try.prog.cellsOf 102 = 1 := by kernel_rfl
@[simp] theorem info_102 : (Try.prog.info? 102).isSome = true := by kernel_rfl
@[simp] theorem bytes_102 : Try.prog.bytesOf 102 = 8 := by kernel_rfl
@[simp] theorem ctys_102 : ctys Try.prog 102 = [none] := by kernel_rfl
@[simp] theorem conc_102 : Try.prog.concrete 102 = true := by kernel_rfl
@[simp] theorem zero_102 : zeroCs Try.prog 102 = some [.d (.v (.pointer none))] := by kernel_rfl
@[simp] theorem ifc_102 : isIfcT Try.prog 102 = some false := by kernel_rfl
@[simp] theorem map_102 : Try.prog.isMap 102 = false := by kernel_rfl
@[simp] theorem ptr_102 : Try.prog.ptrT 102 = some (some 111) := by kernel_rfl
@[simp] theorem ztup_102 : zeroTup Try.prog 102 = some (.tup [(false, [.d (.v (.pointer none))]), (false, [.d (.v (.bool false))])]) := by kernel_rfl
@[simp] theorem app_102 : Try.prog.appOk 102 = true := by kernel_rfl
@[simp] theorem und_102 : Try.prog.underlying 102 = some (.pointer 111) := by kernel_rfl
@[simp] theorem lay_104 : Try.prog.lay 104 = some (1, false) := by kernel_rfl
@[simp] theorem cells_104 : Try.prog.cellsOf 104 = 1 := by kernel_rfl
@[simp] theorem info_104 : (Try.prog.info? 104).isSome = true := by kernel_rfl
@[simp] theorem bytes_104 : Try.prog.bytesOf 104 = 24 := by kernel_rfl
@[simp] theorem ctys_104 : ctys Try.prog 104 = [some 20] := by kernel_rfl
@[simp] theorem conc_104 : Try.prog.concrete 104 = true := by kernel_rfl
@[simp] theorem zero_104 : zeroCs Try.prog 104 = some [.d (.v (.slice none 0 0))] := by kernel_rfl
@[simp] theorem ifc_104 : isIfcT Try.prog 104 = some false := by kernel_rfl
@[simp] theorem map_104 : Try.prog.isMap 104 = false := by kernel_rfl
@[simp] theorem ptr_104 : Try.prog.ptrT 104 = some none := by kernel_rfl
@[simp] theorem ztup_104 : zeroTup Try.prog 104 = some (.tup [(false, [.d (.v (.slice none 0 0))]), (false, [.d (.v (.bool false))])]) := by kernel_rfl
@[simp] theorem app_104 : Try.prog.appOk 104 = true := by kernel_rfl
@[simp] theorem elem_104 : Try.prog.elemT 104 = some 20 := by kernel_rfl
@[simp] theorem und_104 : Try.prog.underlying 104 = some (.slice 20) := by kernel_rfl
@[simp] theorem lay_105 : Try.prog.lay 105 = some (1, false) := by kernel_rfl
@[simp] theorem cells_105 : Try.prog.cellsOf 105 = 1 := by kernel_rfl
@[simp] theorem info_105 : (Try.prog.info? 105).isSome = true := by kernel_rfl
@[simp] theorem bytes_105 : Try.prog.bytesOf 105 = 8 := by kernel_rfl
@[simp] theorem ctys_105 : ctys Try.prog 105 = [none] := by kernel_rfl
@[simp] theorem conc_105 : Try.prog.concrete 105 = true := by kernel_rfl
@[simp] theorem zero_105 : zeroCs Try.prog 105 = some [.d (.v (.map none))] := by kernel_rfl
@[simp] theorem ifc_105 : isIfcT Try.prog 105 = some false := by kernel_rfl
@[simp] theorem map_105 : Try.prog.isMap 105 = true := by kernel_rfl
@[simp] theorem ptr_105 : Try.prog.ptrT 105 = some none := by kernel_rfl
@[simp] theorem ztup_105 : zeroTup Try.prog 105 = some (.tup [(false, [.d (.v (.map none))]), (false, [.d (.v (.bool false))])]) := by kernel_rfl
@[simp] theorem app_105 : Try.prog.appOk 105 = true := by kernel_rfl
@[simp] theorem fld_110_0 : Try.prog.fld 110 0 = some (0, 1, false) := by kernel_rfl
@[simp] theorem lay_111 : Try.prog.lay 111 = some (1, true) := by kernel_rfl
@[simp] theorem cells_111 : Try.prog.cellsOf 111 = 1 := by kernel_rfl
@[simp] theorem info_111 : (Try.prog.info? 111).isSome = true := by kernel_rfl
@[simp] theorem bytes_111 : Try.prog.bytesOf 111 = 16 := by kernel_rfl
@[simp] theorem ctys_111 : ctys Try.prog 111 = [none] := by kernel_rfl
@[simp] theorem conc_111 : Try.prog.concrete 111 = true := by kernel_rfl
@[simp] theorem zero_111 : zeroCs Try.prog 111 = some [.d (.v (.nilIface))] := by kernel_rfl
@[simp] theorem fld_111_0 : Try.prog.fld 111 0 = some (0, 1, false) := by kernel_rfl
@[simp] theorem str_111 : Try.prog.strOk 111 = true := by kernel_rfl
@[simp] theorem ifc_111 : isIfcT Try.prog 111 = some false := by kernel_rfl
@[simp] theorem map_111 : Try.prog.isMap 111 = false := by kernel_rfl
@[simp] theorem ptr_111 : Try.prog.ptrT 111 = some none := by kernel_rfl
@[simp] theorem ztup_111 : zeroTup Try.prog 111 = some (.tup [(true, [.d (.v (.nilIface))]), (false, [.d (.v (.bool false))])]) := by kernel_rfl
@[simp] theorem app_111 : Try.prog.appOk 111 = true := by kernel_rfl
@[simp] theorem lay_113 : Try.prog.lay 113 = some (1, false) := by kernel_rfl
@[simp] theorem cells_113 : Try.prog.cellsOf 113 = 1 := by kernel_rfl
@[simp] theorem info_113 : (Try.prog.info? 113).isSome = true := by kernel_rfl
@[simp] theorem bytes_113 : Try.prog.bytesOf 113 = 8 := by kernel_rfl
@[simp] theorem ctys_113 : ctys Try.prog 113 = [none] := by kernel_rfl
@[simp] theorem conc_113 : Try.prog.concrete 113 = true := by kernel_rfl
@[simp] theorem zero_113 : zeroCs Try.prog 113 = some [.d (.v (.int .i64 0))] := by kernel_rfl
@[simp] theorem ifc_113 : isIfcT Try.prog 113 = some false := by kernel_rfl
@[simp] theorem map_113 : Try.prog.isMap 113 = false := by kernel_rfl
@[simp] theorem ptr_113 : Try.prog.ptrT 113 = some none := by kernel_rfl
@[simp] theorem ztup_113 : zeroTup Try.prog 113 = some (.tup [(false, [.d (.v (.int .i64 0))]), (false, [.d (.v (.bool false))])]) := by kernel_rfl
@[simp] theorem app_113 : Try.prog.appOk 113 = true := by kernel_rfl
@[simp] theorem und_113 : Try.prog.underlying 113 = some (.int .i64) := by kernel_rfl
@[simp] theorem fld_116_0 : Try.prog.fld 116 0 = some (0, 1, false) := by kernel_rfl
@[simp] theorem fld_116_1 : Try.prog.fld 116 1 = some (1, 1, false) := by kernel_rfl
@[simp] theorem fld_116_2 : Try.prog.fld 116 2 = some (2, 1, false) := by kernel_rfl
@[simp] theorem fld_116_3 : Try.prog.fld 116 3 = some (3, 1, false) := by kernel_rfl
@[simp] theorem fld_117_0 : Try.prog.fld 117 0 = some (0, 1, false) := by kernel_rfl
@[simp] theorem fld_117_1 : Try.prog.fld 117 1 = some (1, 1, false) := by kernel_rfl
@[simp] theorem fld_117_2 : Try.prog.fld 117 2 = some (2, 1, false) := by kernel_rfl
@[simp] theorem fld_117_3 : Try.prog.fld 117 3 = some (3, 1, false) := by kernel_rfl
@[simp] theorem lay_121 : Try.prog.lay 121 = some (1, false) := by kernel_rfl
@[simp] theorem cells_121 : Try.prog.cellsOf 121 = 1 := by kernel_rfl
@[simp] theorem info_121 : (Try.prog.info? 121).isSome = true := by kernel_rfl
@[simp] theorem bytes_121 : Try.prog.bytesOf 121 = 4 := by kernel_rfl
@[simp] theorem ctys_121 : ctys Try.prog 121 = [none] := by kernel_rfl
@[simp] theorem conc_121 : Try.prog.concrete 121 = true := by kernel_rfl
@[simp] theorem zero_121 : zeroCs Try.prog 121 = some [.d (.v (.int .u32 0))] := by kernel_rfl
@[simp] theorem ifc_121 : isIfcT Try.prog 121 = some false := by kernel_rfl
@[simp] theorem map_121 : Try.prog.isMap 121 = false := by kernel_rfl
@[simp] theorem ptr_121 : Try.prog.ptrT 121 = some none := by kernel_rfl
@[simp] theorem ztup_121 : zeroTup Try.prog 121 = some (.tup [(false, [.d (.v (.int .u32 0))]), (false, [.d (.v (.bool false))])]) := by kernel_rfl
@[simp] theorem app_121 : Try.prog.appOk 121 = true := by kernel_rfl
@[simp] theorem und_121 : Try.prog.underlying 121 = some (.int .u32) := by kernel_rfl
@[simp] theorem fld_128_0 : Try.prog.fld 128 0 = some (0, 1, false) := by kernel_rfl
@[simp] theorem fld_128_1 : Try.prog.fld 128 1 = some (1, 1, false) := by kernel_rfl
@[simp] theorem fld_128_2 : Try.prog.fld 128 2 = some (2, 1, false) := by kernel_rfl
@[simp] theorem fld_128_3 : Try.prog.fld 128 3 = some (3, 1, false) := by kernel_rfl
@[simp] theorem fld_128_4 : Try.prog.fld 128 4 = some (4, 1, false) := by kernel_rfl
@[simp] theorem fld_128_5 : Try.prog.fld 128 5 = some (5, 1, false) := by kernel_rfl
@[simp] theorem fld_128_9 : Try.prog.fld 128 9 = some (9, 1, false) := by kernel_rfl
@[simp] theorem fld_129_0 : Try.prog.fld 129 0 = some (0, 1, false) := by kernel_rfl
@[simp] theorem fld_129_1 : Try.prog.fld 129 1 = some (1, 1, false) := by kernel_rfl
@[simp] theorem fld_129_2 : Try.prog.fld 129 2 = some (2, 1, false) := by kernel_rfl
@[simp] theorem fld_129_3 : Try.prog.fld 129 3 = some (3, 1, false) := by kernel_rfl
@[simp] theorem fld_129_4 : Try.prog.fld 129 4 = some (4, 1, false) := by kernel_rfl
@[simp] theorem fld_129_5 : Try.prog.fld 129 5 = some (5, 1, false) := by kernel_rfl
@[simp] theorem fld_129_9 : Try.prog.fld 129 9 = some (9, 1, false) := by kernel_rfl
@[simp] theorem lay_145 : Try.prog.lay 145 = some (1, false) := by kernel_rfl
@[simp] theorem cells_145 : Try.prog.cellsOf 145 = 1 := by kernel_rfl
@[simp] theorem info_145 : (Try.prog.info? 145).isSome = true := by kernel_rfl
@[simp] theorem bytes_145 : Try.prog.bytesOf 145 = 4 := by kernel_rfl
@[simp] theorem ctys_145 : ctys Try.prog 145 = [none] := by kernel_rfl
@[simp] theorem conc_145 : Try.prog.concrete 145 = true := by kernel_rfl
@[simp] theorem zero_145 : zeroCs Try.prog 145 = some [.d (.v (.float .f32 0))] := by kernel_rfl
@[simp] theorem ifc_145 : isIfcT Try.prog 145 = some false := by kernel_rfl
@[simp] theorem map_145 : Try.prog.isMap 145 = false := by kernel_rfl
@[simp] theorem ptr_145 : Try.prog.ptrT 145 = some none := by kernel_rfl
@[simp] theorem ztup_145 : zeroTup Try.prog 145 = some (.tup [(false, [.d (.v (.float .f32 0))]), (false, [.d (.v (.bool false))])]) := by kernel_rfl
@[simp] theorem app_145 : Try.prog.appOk 145 = true := by kernel_rfl
@[simp] theorem und_145 : Try.prog.underlying 145 = some (.float .f32) := by kernel_rfl
@[simp] theorem lay_147 : Try.prog.lay 147 = some (1, false) := by kernel_rfl
@[simp] theorem cells_147 : Try.prog.cellsOf 147 = 1 := by kernel_rfl
@[simp] theorem info_147 : (Try.prog.info? 147).isSome = true := by kernel_rfl
@[simp] theorem bytes_147 : Try.prog.bytesOf 147 = 1 := by kernel_rfl
@[simp] theorem ctys_147 : ctys Try.prog 147 = [none] := by kernel_rfl
@[simp] theorem conc_147 : Try.prog.concrete 147 = true := by kernel_rfl
@[simp] theorem zero_147 : zeroCs Try.prog 147 = some [.d (.v (.int .i8 0))] := by kernel_rfl
@[simp] theorem ifc_147 : isIfcT Try.prog 147 = some false := by kernel_rfl
@[simp] theorem map_147 : Try.prog.isMap 147 = false := by kernel_rfl
@[simp] theorem ptr_147 : Try.prog.ptrT 147 = some none := by kernel_rfl
@[simp] theorem ztup_147 : zeroTup Try.prog 147 = some (.tup [(false, [.d (.v (.int .i8 0))]), (false, [.d (.v (.bool false))])]) := by kernel_rfl
@[simp] theorem app_147 : Try.prog.appOk 147 = true := by kernel_rfl
@[simp] theorem und_147 : Try.prog.underlying 147 = some (.int .i8) := by kernel_rfl
@[simp] theorem lay_149 : Try.prog.lay 149 = some (1, false) := by kernel_rfl
@[simp] theorem cells_149 : Try.prog.cellsOf 149 = 1 := by kernel_rfl
@[simp] theorem info_149 : (Try.prog.info? 149).isSome = true := by kernel_rfl
@[simp] theorem bytes_149 : Try.prog.bytesOf 149 = 2 := by kernel_rfl
@[simp] theorem ctys_149 : ctys Try.prog 149 = [none] := by kernel_rfl
@[simp] theorem conc_149 : Try.prog.concrete 149 = true := by kernel_rfl
@[simp] theorem zero_149 : zeroCs Try.prog 149 = some [.d (.v (.int .i16 0))] := by kernel_rfl
@[simp] theorem ifc_149 : isIfcT Try.prog 149 = some false := by kernel_rfl
@[simp] theorem map_149 : Try.prog.isMap 149 = false := by kernel_rfl
@[simp] theorem ptr_149 : Try.prog.ptrT 149 = some none := by kernel_rfl
@[simp] theorem ztup_149 : zeroTup Try.prog 149 = some (.tup [(false, [.d (.v (.int .i16 0))]), (false, [.d (.v (.bool false))])]) := by kernel_rfl
@[simp] theorem app_149 : Try.prog.appOk 149 = true := by kernel_rfl
@[simp] theorem und_149 : Try.prog.underlying 149 = some (.int .i16) := by kernel_rfl
@[simp] theorem lay_152 : Try.prog.lay 152 = some (1, false) := by kernel_rfl
@[simp] theorem cells_152 : Try.prog.cellsOf 152 = 1 := by kernel_rfl
@[simp] theorem info_152 : (Try.prog.info? 152).isSome = true := by kernel_rfl
@[simp] theorem bytes_152 : Try.prog.bytesOf 152 = 8 := by kernel_rfl
@[simp] theorem ctys_152 : ctys Try.prog 152 = [none] := by kernel_rfl
@[simp] theorem conc_152 : Try.prog.concrete 152 = true := by kernel_rfl
@[simp] theorem zero_152 : zeroCs Try.prog 152 = some [.d (.v (.int .u64 0))] := by kernel_rfl
@[simp] theorem ifc_152 : isIfcT Try.prog 152 = some false := by kernel_rfl
@[simp] theorem map_152 : Try.prog.isMap 152 = false := by kernel_rfl
@[simp] theorem ptr_152 : Try.prog.ptrT 152 = some none := by kernel_rfl
@[simp] theorem ztup_152 : zeroTup Try.prog 152 = some (.tup [(false, [.d (.v (.int .u64 0))]), (false, [.d (.v (.bool false))])]) := by kernel_rfl
@[simp] theorem app_152 : Try.prog.appOk 152 = true := by kernel_rfl
@[simp] theorem und_152 : Try.prog.underlying 152 = some (.int .u64) := by kernel_rfl
@[simp] theorem lay_155 : Try.prog.lay 155 = some (1, false) := by kernel_rfl
@[simp] theorem cells_155 : Try.prog.cellsOf 155 = 1 := by kernel_rfl
@[simp] theorem info_155 : (Try.prog.info? 155).isSome = true := by kernel_rfl
@[simp] theorem bytes_155 : Try.prog.bytesOf 155 = 2 := by kernel_rfl
@[simp] theorem ctys_155 : ctys Try.prog 155 = [none] := by kernel_rfl
@[simp] theorem conc_155 : Try.prog.concrete 155 = true := by kernel_rfl
@[simp] theorem zero_155 : zeroCs Try.prog 155 = some [.d (.v (.int .u16 0))] := by kernel_rfl
@[simp] theorem ifc_155 : isIfcT Try.prog 155 = some false := by kernel_rfl
@[simp] theorem map_155 : Try.prog.isMap 155 = false := by kernel_rfl
@[simp] theorem ptr_155 : Try.prog.ptrT 155 = some none := by kernel_rfl
@[simp] theorem ztup_155 : zeroTup Try.prog 155 = some (.tup [(false, [.d (.v (.int .u16 0))]), (false, [.d (.v (.bool false))])]) := by kernel_rfl
@[simp] theorem app_155 : Try.prog.appOk 155 = true := by kernel_rfl
@[simp] theorem und_155 : Try.prog.underlying 155 = some (.int .u16) := by kernel_rfl
@[simp] theorem lay_158 : Try.prog.lay 158 = some (1, false) := by kernel_rfl
@[simp] theorem cells_158 : Try.prog.cellsOf 158 = 1 := by kernel_rfl
@[simp] theorem info_158 : (Try.prog.info? 158).isSome = true := by kernel_rfl
@[simp] theorem bytes_158 : Try.prog.bytesOf 158 = 24 := by kernel_rfl
@[simp] theorem ctys_158 : ctys Try.prog 158 = [some 20] := by kernel_rfl
@[simp] theorem conc_158 : Try.prog.concrete 158 = true := by kernel_rfl
@[simp] theorem zero_158 : zeroCs Try.prog 158 = some [.d (.v (.slice none 0 0))] := by kernel_rfl
@[simp] theorem ifc_158 : isIfcT Try.prog 158 = some false := by kernel_rfl
@[simp] theorem map_158 : Try.prog.isMap 158 = false := by kernel_rfl
@[simp] theorem ptr_158 : Try.prog.ptrT 158 = some none := by kernel_rfl
@[simp] theorem ztup_158 : zeroTup Try.prog 158 = some (.tup [(false, [.d (.v (.slice none 0 0))]), (false, [.d (.v (.bool false))])]) := by kernel_rfl
@[simp] theorem app_158 : Try.prog.appOk 158 = true := by kernel_rfl
@[simp] theorem elem_158 : Try.prog.elemT 158 = some 20 := by kernel_rfl
@[simp] theorem und_158 : Try.prog.underlying 158 = some (.slice 20) := by kernel_rfl
@[simp] theorem lay_159 : Try.prog.lay 159 = some (1, false) := by kernel_rfl
@[simp] theorem cells_159 : Try.prog.cellsOf 159 = 1 := by kernel_rfl
@[simp] theorem info_159 : (Try.prog.info? 159).isSome = true := by kernel_rfl
@[simp] theorem bytes_159 : Try.prog.bytesOf 159 = 8 := by kernel_rfl
@[simp] theorem ctys_159 : ctys Try.prog 159 = [none] := by kernel_rfl
@[simp] theorem conc_159 : Try.prog.concrete 159 = true := by kernel_rfl
@[simp] theorem zero_159 : zeroCs Try.prog 159 = some [.d (.v (.map none))] := by kernel_rfl
@[simp] theorem ifc_159 : isIfcT Try.prog 159 = some false := by kernel_rfl
@[simp] theorem map_159 : Try.prog.isMap 159 = true := by kernel_rfl
@[simp] theorem ptr_159 : Try.prog.ptrT 159 = some none := by kernel_rfl
@[simp] theorem ztup_159 : zeroTup Try.prog 159 = some (.tup [(false, [.d (.v (.map none))]), (false, [.d (.v (.bool false))])]) := by kernel_rfl
@[simp] theorem app_159 : Try.prog.appOk 159 = true := by kernel_rfl
@[simp] theorem lay_167 : Try.prog.lay 167 = some (1, false) := by kernel_rfl
@[simp] theorem cells_167 : Try.prog.cellsOf 167 = 1 := by kernel_rfl
@[simp] theorem info_167 : (Try.prog.info? 167).isSome = true := by kernel_rfl
@[simp] theorem bytes_167 : Try.prog.bytesOf 167 = 8 := by kernel_rfl
@[simp] theorem ctys_167 : ctys Try.prog 167 = [none] := by kernel_rfl
@[simp] theorem conc_167 : Try.prog.concrete 167 = true := by kernel_rfl
@[simp] theorem zero_167 : zeroCs Try.prog 167 = some [.d (.v (.pointer none))] := by kernel_rfl
@[simp] theorem ifc_167 : isIfcT Try.prog 167 = some false := by kernel_rfl
@[simp] theorem map_167 : Try.prog.isMap 167 = false := by kernel_rfl
@[simp] theorem ptr_167 : Try.prog.ptrT 167 = some (some 173) := by kernel_rfl
@[simp] theorem ztup_167 : zeroTup Try.prog 167 = some (.tup [(false, [.d (.v (.pointer none))]), (false, [.d (.v (.bool false))])]) := by kernel_rfl
@[simp] theorem app_167 : Try.prog.appOk 167 = true := by kernel_rfl
@[simp] theorem und_167 : Try.prog.underlying 167 = some (.pointer 173) := by kernel_rfl
@[simp] theorem lay_169 : Try.prog.lay 169 = some (1, false) := by kernel_rfl
@[simp] theorem cells_169 : Try.prog.cellsOf 169 = 1 := by kernel_rfl
@[simp] theorem info_169 : (Try.prog.info? 169).isSome = true := by kernel_rfl
@[simp] theorem bytes_169 : Try.prog.bytesOf 169 = 8 := by kernel_rfl
@[simp] theorem ctys_169 : ctys Try.prog 169 = [none] := by kernel_rfl
@[simp] theorem conc_169 : Try.prog.concrete 169 = true := by kernel_rfl
@[simp] theorem zero_169 : zeroCs Try.prog 169 = some [.d (.v (.pointer none))] := by kernel_rfl
@[simp] theorem ifc_169 : isIfcT Try.prog 169 = some false := by kernel_rfl
@[simp] theorem map_169 : Try.prog.isMap 169 = false := by kernel_rfl
@[simp] theorem ptr_169 : Try.prog.ptrT 169 = some (some 158) := by kernel_rfl
@[simp] theorem ztup_169 : zeroTup Try.prog 169 = some (.tup [(false, [.d (.v (.pointer none))]), (false, [.d (.v (.bool false))])]) := by kernel_rfl
@[simp] theorem app_169 : Try.prog.appOk 169 = true := by kernel_rfl
@[simp] theorem und_169 : Try.prog.underlying 169 = some (.pointer 158) := by kernel_rfl
@[simp] theorem lay_170 : Try.prog.lay 170 = some (1, false) := by kernel_rfl
@[simp] theorem cells_170 : Try.prog.cellsOf 170 = 1 := by kernel_rfl
@[simp] theorem info_170 : (Try.prog.info? 170).isSome = true := by kernel_rfl
@[simp] theorem bytes_170 : Try.prog.bytesOf 170 = 8 := by kernel_rfl
@[simp] theorem ctys_170 : ctys Try.prog 170 = [none] := by kernel_rfl
@[simp] theorem conc_170 : Try.prog.concrete 170 = true := by kernel_rfl
@[simp] theorem zero_170 : zeroCs Try.prog 170 = some [.d (.v (.pointer none))] := by kernel_rfl
@[simp] theorem ifc_170 : isIfcT Try.prog 170 = some false := by kernel_rfl
@[simp] theorem map_170 : Try.prog.isMap 170 = false := by kernel_rfl
@[simp] theorem ptr_170 : Try.prog.ptrT 170 = some (some 171) := by kernel_rfl
@[simp] theorem ztup_170 : zeroTup Try.prog 170 = some (.tup [(false, [.d (.v (.pointer none))]), (false, [.d (.v (.bool false))])]) := by kernel_rfl
@[simp] theorem app_170 : Try.prog.appOk 170 = true := by kernel_rfl
@[simp] theorem und_170 : Try.prog.underlying 170 = some (.pointer 171) := by kernel_rfl
@[simp] theorem lay_171 : Try.prog.lay 171 = some (0, true) := by kernel_rfl
@[simp] theorem cells_171 : Try.prog.cellsOf 171 = 0 := by kernel_rfl
@[simp] theorem info_171 : (Try.prog.info? 171).isSome = true := by kernel_rfl
@[simp] theorem bytes_171 : Try.prog.bytesOf 171 = 0 := by kernel_rfl
@[simp] theorem ctys_171 : ctys Try.prog 171 = [] := by kernel_rfl
@[simp] theorem conc_171 : Try.prog.concrete 171 = true := by kernel_rfl
@[simp] theorem zero_171 : zeroCs Try.prog 171 = some [] := by kernel_rfl
@[simp] theorem str_171 : Try.prog.strOk 171 = true := by kernel_rfl
@[simp] theorem ifc_171 : isIfcT Try.prog 171 = some false := by kernel_rfl
@[simp] theorem map_171 : Try.prog.isMap 171 = false := by kernel_rfl
@[simp] theorem ptr_171 : Try.prog.ptrT 171 = some none := by kernel_rfl
@[simp] theorem ztup_171 : zeroTup Try.prog 171 = some (.tup [(true, []), (false, [.d (.v (.bool false))])]) := by kernel_rfl
@[simp] theorem fld_172_0 : Try.prog.fld 172 0 = some (0, 1, false) := by kernel_rfl
@[simp] theorem fld_172_1 : Try.prog.fld 172 1 = some (1, 1, false) := by kernel_rfl
@[simp] theorem fld_172_2 : Try.prog.fld 172 2 = some (2, 1, false) := by kernel_rfl
@[simp] theorem lay_173 : Try.prog.lay 173 = some (3, true) := by kernel_rfl
@[simp] theorem cells_173 : Try.prog.cellsOf 173 = 3 := by kernel_rfl
@[simp] theorem info_173 : (Try.prog.info? 173).isSome = true := by kernel_rfl
@[simp] theorem bytes_173 : Try.prog.bytesOf 173 = 40 := by kernel_rfl
@[simp] theorem ctys_173 : ctys Try.prog 173 = [some 20, none, none] := by kernel_rfl
@[simp] theorem conc_173 : Try.prog.concrete 173 = true := by kernel_rfl
@[simp] theorem zero_173 : zeroCs Try.prog 173 = some [.d (.v (.slice none 0 0)), .d (.v (.pointer none)), .d (.v (.int .i64 0))] := by kernel_rfl
@[simp] theorem fld_173_0 : Try.prog.fld 173 0 = some (0, 1, false) := by kernel_rfl
@[simp] theorem fld_173_1 : Try.prog.fld 173 1 = some (1, 1, false) := by kernel_rfl
@[simp] theorem fld_173_2 : Try.prog.fld 173 2 = some (2, 1, false) := by kernel_rfl
@[simp] theorem str_173 : Try.prog.strOk 173 = true := by kernel_rfl
@[simp] theorem ifc_173 : isIfcT Try.prog 173 = some false := by kernel_rfl
@[simp] theorem map_173 : Try.prog.isMap 173 = false := by kernel_rfl
@[simp] theorem ptr_173 : Try.prog.ptrT 173 = some none := by kernel_rfl
@[simp] theorem ztup_173 : zeroTup Try.prog 173 = some (.tup [(true, [.d (.v (.slice none 0 0)), .d (.v (.pointer none)), .d (.v (.int .i64 0))]), (false, [.d (.v (.bool false))])]) := by kernel_rfl
@[simp] theorem app_173 : Try.prog.appOk 173 = true := by kernel_rfl
end Go.Smd
end
