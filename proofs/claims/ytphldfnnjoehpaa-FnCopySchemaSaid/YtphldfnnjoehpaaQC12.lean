/- Part 12 of the proof: Ai Ma Mb. -/
import Derived.Test.YtphldfnnjoehpaaQC10
import Derived.Test.YtphldfnnjoehpaaQC02
import Derived.Test.YtphldfnnjoehpaaQC11
set_option linter.unusedVariables false
section
set_option linter.unusedSimpArgs false
namespace Go.Smd
open Go.RowKit
abbrev aV (v : Value) : Av := .c (.d (.v v))
section
variable {P : Program} {o : BinOp} {k : IntKind} {T : TypeId} {ox oy : Operand} {a b : Int} {s t : ByteArray} {p q : Bool}
theorem binA_nil : binA P o T ox oy (.c (.d (.v .nilIface))) (.c (.d (.v .nilIface))) = nilIs P o T oy true := rfl
theorem binA_trn {x : Tree} : binA P o T ox oy (.c (.d (.tr x))) (.c (.d (.v .nilIface))) = nilIs P o T oy (isNilT x) := rfl
theorem binA_ifn {U : TypeId} {x : D} : binA P o T ox oy (.c (.d (.ifc U x))) (.c (.d (.v .nilIface))) = nilIfc P o T := rfl
theorem binA_ion {U : TypeId} {i j : Nat} : binA P o T ox oy (.c (.io U i j)) (.c (.d (.v .nilIface))) = nilIfc P o T := rfl
theorem binA_lss : binA P .lss T ox oy (.c (.d (.v (.int k a)))) (.c (.d (.v (.int k b)))) = some (.c (.d (.v (.bool (decide (a < b)))))) := by
  simp [binA, valPure, eqGuard, binOp, Op.intCmp, pure, Sem.bind, bind, evalPure, okVb]
theorem binA_gtr : binA P .gtr T ox oy (.c (.d (.v (.int k a)))) (.c (.d (.v (.int k b)))) = some (.c (.d (.v (.bool (decide (b < a)))))) := by
  simp [binA, valPure, eqGuard, binOp, Op.intCmp, pure, Sem.bind, bind, evalPure, okVb]
theorem binA_leq : binA P .leq T ox oy (.c (.d (.v (.int k a)))) (.c (.d (.v (.int k b)))) = some (.c (.d (.v (.bool (decide (a ≤ b)))))) := by
  simp [binA, valPure, eqGuard, binOp, Op.intCmp, pure, Sem.bind, bind, evalPure, okVb]
theorem binA_geq : binA P .geq T ox oy (.c (.d (.v (.int k a)))) (.c (.d (.v (.int k b)))) = some (.c (.d (.v (.bool (decide (b ≤ a)))))) := by
  simp [binA, valPure, eqGuard, binOp, Op.intCmp, pure, Sem.bind, bind, evalPure, okVb]
theorem binA_eql : binA P .eql T ox oy (.c (.d (.v (.int k a)))) (.c (.d (.v (.int k b)))) = some (.c (.d (.v (.bool (decide (a = b)))))) := by
  simp [binA, valPure, eqGuard, binOp, Op.intCmp, pure, Sem.bind, bind, evalPure, okVb]; rfl
theorem binA_neq : binA P .neq T ox oy (.c (.d (.v (.int k a)))) (.c (.d (.v (.int k b)))) = some (.c (.d (.v (.bool (decide (a ≠ b)))))) := by
  simp [binA, valPure, eqGuard, binOp, Op.intCmp, pure, Sem.bind, bind, evalPure, okVb]
  by_cases h : a = b <;> simp [h]
theorem binA_add : binA P .add T ox oy (.c (.d (.v (.int k a)))) (.c (.d (.v (.int k b)))) = some (.c (.d (.v (.int k (k.wrap (a + b)))))) := by
  simp [binA, valPure, eqGuard, binOp, Op.intArith, pure, Sem.bind, bind, evalPure, okVb, okInt_wrap]
theorem binA_sub : binA P .sub T ox oy (.c (.d (.v (.int k a)))) (.c (.d (.v (.int k b)))) = some (.c (.d (.v (.int k (k.wrap (a - b)))))) := by
  simp [binA, valPure, eqGuard, binOp, Op.intArith, pure, Sem.bind, bind, evalPure, okVb, okInt_wrap]
theorem binA_seq : binA P .eql T ox oy (.c (.d (.v (.string s)))) (.c (.d (.v (.string t)))) = some (.c (.d (.v (.bool (decide (s = t)))))) := by
  have h : (s.toList == t.toList) = decide (s = t) := by rw [beq_list]
  simp [binA, valPure, eqGuard, binOp, Op.stringOp, pure, Sem.bind, bind, evalPure, okVb, h]
theorem binA_sne : binA P .neq T ox oy (.c (.d (.v (.string s)))) (.c (.d (.v (.string t)))) = some (.c (.d (.v (.bool (decide (s ≠ t)))))) := by
  have h : (s.toList == t.toList) = decide (s = t) := by rw [beq_list]
  simp [binA, valPure, eqGuard, binOp, Op.stringOp, pure, Sem.bind, bind, evalPure, okVb, h]
theorem binA_slt : binA P .lss T ox oy (.c (.d (.v (.string s)))) (.c (.d (.v (.string t)))) = some (.c (.d (.v (.bool (blt s t))))) := by
  simp [binA, valPure, eqGuard, binOp, Op.stringOp, pure, Sem.bind, bind, evalPure, okVb, blt]
theorem binA_sgt : binA P .gtr T ox oy (.c (.d (.v (.string s)))) (.c (.d (.v (.string t)))) = some (.c (.d (.v (.bool !(blt s t || decide (s = t)))))) := by
  have h : (s.toList == t.toList) = decide (s = t) := by rw [beq_list]
  simp [binA, valPure, eqGuard, binOp, Op.stringOp, pure, Sem.bind, bind, evalPure, okVb, blt, h]
theorem binA_feq {f : FloatKind} {x y : Nat} : binA P .eql T ox oy (.c (.d (.v (.float f x)))) (.c (.d (.v (.float f y)))) = some (.c (.d (.v (.bool (f.format.order x y == some .eq))))) := by
  simp [binA, valPure, eqGuard, binOp, Op.floatCmp, pure, Sem.bind, bind, evalPure, okVb]
theorem binA_flt {f : FloatKind} {x y : Nat} : binA P .lss T ox oy (.c (.d (.v (.float f x)))) (.c (.d (.v (.float f y)))) = some (.c (.d (.v (.bool (f.format.order x y == some .lt))))) := by
  simp [binA, valPure, eqGuard, binOp, Op.floatCmp, pure, Sem.bind, bind, evalPure, okVb]
theorem binA_fgt {f : FloatKind} {x y : Nat} : binA P .gtr T ox oy (.c (.d (.v (.float f x)))) (.c (.d (.v (.float f y)))) = some (.c (.d (.v (.bool (f.format.order x y == some .gt))))) := by
  simp [binA, valPure, eqGuard, binOp, Op.floatCmp, pure, Sem.bind, bind, evalPure, okVb]
theorem unop_not : valPure P (Op.unary .not (.bool p)) = some (.c (.d (.v (.bool !p)))) := by simp [valPure, Op.unary, pure, evalPure, okVb]
theorem binA_beq (hu : P.underlying T = some .bool) : binA P .eql T ox oy (.c (.d (.v (.bool p)))) (.c (.d (.v (.bool q)))) = some (.c (.d (.v (.bool (p == q))))) := by
  have : evalPure P (Op.equal T (.bool p) (.bool q)) = some (p == q) := by
    show evalPure P (Op.equalIn (9999 + 1) T (.bool p) (.bool q)) = _
    unfold Op.equalIn
    simp [underlying, program, bind, Sem.bind, evalPure, hu, pure]
  simp [binA, valPure, eqGuard, binOp, pure, Sem.bind, bind, evalPure, okVb]
  revert this
  generalize Op.equal T (.bool p) (.bool q) = m
  intro this
  have key : ∀ {m : Sem Bool} {x : Bool}, evalPure P m = some x → evalPure P (m.bind fun a => Sem.pure (Value.bool a)) = some (.bool x) := by
    intro m
    induction m with
    | pure a => intro x h; simp [evalPure] at h; subst h; rfl
    | program k ih => intro x h; exact ih P h
    | mark m k ih => intro x h; exact ih h
    | _ => intro x h; simp [evalPure] at h
  rw [key this]
  simp [okVb]
theorem binA_bne (hu : P.underlying T = some .bool) : binA P .neq T ox oy (.c (.d (.v (.bool p)))) (.c (.d (.v (.bool q)))) = some (.c (.d (.v (.bool (p != q))))) := by
  have : evalPure P (Op.equal T (.bool p) (.bool q)) = some (p == q) := by
    show evalPure P (Op.equalIn (9999 + 1) T (.bool p) (.bool q)) = _
    unfold Op.equalIn
    simp [underlying, program, bind, Sem.bind, evalPure, hu, pure]
  simp [binA, valPure, eqGuard, binOp, pure, Sem.bind, bind, evalPure, okVb]
  revert this
  generalize Op.equal T (.bool p) (.bool q) = m
  intro this
  have key : ∀ {m : Sem Bool} {x : Bool}, evalPure P m = some x → evalPure P (m.bind fun a => Sem.pure (Value.bool !a)) = some (.bool !x) := by
    intro m
    induction m with
    | pure a => intro x h; simp [evalPure] at h; subst h; rfl
    | program k ih => intro x h; exact ih P h
    | mark m k ih => intro x h; exact ih h
    | _ => intro x h; simp [evalPure] at h
  rw [key this]
  cases p <;> cases q <;> simp [okVb]
section
variable {N : Nat} {w0 : World} {S0 : Env} {Q : Exit → St → Prop} {σ : St} {x y : Code}
theorem aw_sq (h : AWp P N w0 S0 x (thenA (AWp P N w0 S0 y Q) Q) σ) : AWp P N w0 S0 (.seq x y) Q σ := aw_seq fun K hk => h.mono fun e σ q => by
  cases e with
  | normal => exact hk σ q
  | _ => exact q
end
end
section
variable {P : Program}
theorem okA_agg {xs : List Cl} (h : okA P (.agg xs)) : ∀ c ∈ xs, ∀ d, c = .d d → okD P d := by
  obtain ⟨w, S, v, us, rfl, ha⟩ := h
  rintro c hc d rfl
  obtain ⟨i, hi⟩ := List.getElem?_of_mem hc
  obtain ⟨u, _, hr⟩ := ha.at hi
  exact ⟨w, S, u, hr⟩
theorem okD_v {x : Value} (h : okD P (.v x)) : okVb x = true := by obtain ⟨w, S, v, h⟩ := h; cases h with | v h => exact h
theorem okD_i64 {n : Int} (h : okD P (.v (.int .i64 n))) : -9223372036854775808 ≤ n ∧ n ≤ 9223372036854775807 := by have := okD_v h; simpa [okVb, okInt] using this
theorem okD_str {s : ByteArray} (h : okD P (.v (.string s))) : s.size ≤ 140737488351232 := by have := okD_v h; simpa [okVb] using this
theorem okD_sl {E : TypeId} {xs : List (List D)} (h : okD P (.sl E xs)) : xs.length * P.bytesOf E ≤ 140737488351232 ∧ ∀ r ∈ xs, r.length = P.cellsOf E ∧ ∀ d ∈ r, okD P d := by
  obtain ⟨w, S, v, h⟩ := h
  obtain ⟨A, c, rfl, _, hb, hr⟩ := RepD.sl_iff.1 h
  refine ⟨hb, fun r hm => ?_⟩
  obtain ⟨j, hj⟩ := List.getElem?_of_mem hm
  refine ⟨(hr j r hj).1, fun d hd => ?_⟩
  obtain ⟨i, hi⟩ := List.getElem?_of_mem hd
  obtain ⟨ad, _, hrow⟩ := (hr j r hj).2 (by have := (List.getElem?_eq_some_iff.1 hi).1; have := (hr j r hj).1; omega)
  obtain ⟨u, _, _, h3⟩ := hrow i d hi
  exact ⟨w, S, u, h3⟩
theorem okD_pt {xs : List D} (h : okD P (.pt xs)) : ∀ d ∈ xs, okD P d := by
  obtain ⟨w, S, v, h⟩ := h
  obtain ⟨ad, rfl, hr⟩ := RepD.pt_iff.1 h
  intro d hd
  obtain ⟨i, hi⟩ := List.getElem?_of_mem hd
  obtain ⟨u, _, _, h3⟩ := hr i d hi
  exact ⟨w, S, u, h3⟩
end
theorem Weak.cells {P : Program} {N : Nat} {w0 : World} {S0 : Env} {σ : St} {id : Nat} {xs ys : List Cl} {T : TypeId} (h : σ.h id = some (.cells xs T)) (k : All2 (ClLe P) xs ys) : Weak P N w0 S0 σ (σ.new id (.cells ys T)) := fun β a w s => by
  have hS : ∀ b, Sd w0 S0 β σ.h w b → Sd w0 S0 β (σ.new id (.cells ys T)).h w b := fun b hb => ⟨hb.1, hb.2.1, fun i o ho => by
    rw [new_h] at ho
    by_cases e : i = id
    · subst e; simp only [if_true] at ho; cases ho; exact fun hc => hb.2.2 i _ h (occ_cells.2 (occ_cells.1 hc))
    · simp only [e, if_false] at ho; exact hb.2.2 i o ho⟩
  have st : Steps' P (Sd w0 S0 β σ.h w) (Sd w0 S0 β (σ.new id (.cells ys T)).h w) β β σ.h (σ.new id (.cells ys T)).h w w := by
    refine ⟨fun x v r => r.mono hS, fun i zs U hh => ⟨?_, rfl⟩, fun i ver E zs hh => ⟨ver, E, zs, ?_, Nat.le_refl _, fun _ => rfl⟩, fun i f zs hh => ⟨⟨f, zs, ?_⟩, rfl⟩⟩
    · rw [new_h]
      by_cases e : i = id
      · simp [e]
      · exact ⟨zs, U, by simp [e, hh]⟩
    · rw [new_h]
      have e : i ≠ id := fun e => by rw [e, h] at hh; cases hh
      simp [e, hh]
    · rw [new_h]
      have e : i ≠ id := fun e => by rw [e, h] at hh; cases hh
      simp [e, hh]
  refine ⟨β, s.ext, s.hK, fun i o0 hi0 => ⟨(s.kept i o0 hi0).1, fun o ho => ?_⟩, fun i j oi oj b hi hj => ?_, fun i o b hi => ?_, fun i o hi => ?_, fun t => (s.tmp t).step st, s.sz, s.dfr⟩
  · rw [new_h] at ho
    by_cases e : i = id
    · subst e
      simp only [if_true] at ho; cases ho
      have := (s.kept i o0 hi0).2 _ h
      cases o0 <;> first | exact this | exact this.elim
    · simp only [e, if_false] at ho; exact (s.kept i o0 hi0).2 o ho
  · rw [new_h] at hi hj
    have f : ∀ {i oi}, (if i = id then some (Ow.cells ys T) else σ.h i) = some oi → ∃ o', σ.h i = some o' ∧ ∀ v b, occ v oi b → occ v o' b := fun {i oi} hi => by
      split at hi
      · next e => rw [e]; cases hi; exact ⟨_, h, fun v b hc => occ_cells.2 (occ_cells.1 hc)⟩
      · exact ⟨_, hi, fun _ _ h => h⟩
    obtain ⟨o1, h1, l1⟩ := f hi; obtain ⟨o2, h2, l2⟩ := f hj
    exact fun k1 k2 => s.inj i j o1 o2 b h1 h2 (l1 _ _ k1) (l2 _ _ k2)
  · rw [new_h] at hi
    by_cases e : i = id
    · subst e; simp only [if_true] at hi; cases hi; exact fun hc => s.new i _ b h (occ_cells.2 (occ_cells.1 hc))
    · simp only [e, if_false] at hi; exact s.new i o b hi
  · have hi' := hi
    rw [new_h] at hi
    by_cases e : i = id
    · subst e
      simp only [if_true] at hi; cases hi
      obtain ⟨b, us, h1, h2, h3⟩ := s.own i _ h
      exact ⟨b, us, h1, h2, All2.of (by rw [← k.length, h3.length]) fun j y u hy hu => by
        obtain ⟨x, hx, hle⟩ := k.at' hy
        obtain ⟨u', hu', hr⟩ := h3.at hx
        rw [hu] at hu'; cases hu'
        exact hle _ _ _ _ _ (hr.step st)⟩
    · simp only [e, if_false] at hi
      have := s.own i o hi
      cases o with
      | cells zs U => obtain ⟨b, us, h1, h2, h3⟩ := this; exact ⟨b, us, h1, h2, h3.imp fun _ _ _ r => r.step st⟩
      | arr ver E zs =>
        obtain ⟨h3, h4, h5⟩ := this
        exact ⟨h3.frame (framedRDs P) (fun _ _ => rfl) (fun _ _ => rfl) (fun _ h => h) hS, h4, h5⟩
      | clo f zs => obtain ⟨us, h1, h3⟩ := this; exact ⟨us, h1.mono hS, h3.imp fun _ _ _ r => r.step st⟩
end Go.Smd
end
section
set_option linter.unusedSimpArgs false
namespace Go.Smd
open Go.RowKit
universe u
inductive Fr where
  | code (c : Code)
  | ops (all l : List Oper)
  | drw (all : List Oper) (B : List Nat) (is : List (Nat × List Nat))
  | blk (id : Nat)
  | lp (K : St → Prop)
abbrev Tg {α : Sort u} (_ : α) : Type := Unit
def Br (b : Bool) (A B : Prop) (_ : Tg (A ∧ B)) : Prop := match b with | true => A | false => B
theorem Br_true {A B : Prop} {t : Tg (A ∧ B)} : Br true A B t = A := _root_.id rfl
theorem Br_false {A B : Prop} {t : Tg (A ∧ B)} : Br false A B t = B := _root_.id rfl
theorem br_i {b : Bool} {A B : Prop} {t : Tg (A ∧ B)} (ht : b = true → A) (hf : b = false → B) : Br b A B t := by
  cases b
  · exact hf rfl
  · exact ht rfl
theorem br_d {p : Prop} {ip : Decidable p} {A B : Prop} {t : Tg (A ∧ B)} (ht : p → A) (hf : ¬ p → B) : Br (decide p) A B t := br_i (fun h => ht (of_decide_eq_true h)) fun h => hf (of_decide_eq_false h)
def Ob (b : Option Bool) (A B : Prop) (_ : Tg (A ∧ B)) : Prop := match b with | some b => Br b A B () | none => False
theorem Ob_some {b : Bool} {A B : Prop} {t : Tg (A ∧ B)} : Ob (some b) A B t = Br b A B () := _root_.id rfl
def Ov {α : Type} (v : Option α) (K : α → Prop) (E : Prop) (_ : Tg (K, E)) : Prop := match v with | some x => K x | none => E
theorem Ov_some {α : Type} {x : α} {K : α → Prop} {E : Prop} {t : Tg (K, E)} : Ov (some x) K E t = K x := _root_.id rfl
theorem Ov_none {α : Type} {K : α → Prop} {E : Prop} {t : Tg (K, E)} : Ov none K E t = E := _root_.id rfl
def Tst (v : Av) (A B : Prop) (_ : Tg (A ∧ B)) : Prop := match v with | .c (.d (.v (.bool b))) => Br b A B () | _ => False
theorem Tst_b {b : Bool} {A B : Prop} {t : Tg (A ∧ B)} : Tst (.c (.d (.v (.bool b)))) A B t = Br b A B () := _root_.id rfl
def Must (b : Bool) (A : Prop) (_ : Tg A) : Prop := b = true ∧ A
theorem Must_true {A : Prop} {t : Tg A} : Must true A t = A := by simp [Must]
section
variable (P : Program) (N : Nat) (w0 : World) (S0 : Env) (Q : Exit → St → Prop)
def KQ : List Fr → Exit → St → Prop
  | [], e, σ => Q e σ
  | .code c :: k, e, σ => match e with
    | .normal => AWp P N w0 S0 c (KQ k) σ
    | e => KQ k e σ
  | .blk id :: k, e, σ => match e with
    | .exit id' => if id' = id then KQ k .normal σ else KQ k (.exit id') σ
    | e => KQ k e σ
  | .ops all l :: k, e, σ => match e with
    | .normal => opsA P N all.toArray l σ (KQ k .normal)
    | e => KQ k e σ
  | .drw all B is :: k, e, σ => match e with
    | .normal => opsI P N all.toArray B (KQ k .normal) is σ
    | e => KQ k e σ
  | .lp K :: k, e, σ => match e with
    | .normal => K σ
    | e => KQ k e σ
def unwind (id : Nat) : List Fr → Option (List Fr)
  | [] => none
  | .blk i :: k => if id = i then some k else unwind id k
  | _ :: k => unwind id k
def Nd (σ : St) (o : Oper) (K : St → Prop) (_ : Tg (σ, o, K)) (c : Option (FuncId × List Av × List Nat)) : Prop := c = callOf P σ o → callK P σ o K ∨ extK P σ o K
def Nw (B : List Nat) (i : Nat) (σ : St) (o : Oper) (K : St → Prop) (_ : Tg (B, i, σ, o, K)) (c : Option (FuncId × List Av × List Nat)) : Prop := c = callOf P σ o → (B.contains i = true ∨ (plainCall o.op = true ∧ callD P σ o)) ∧ callK P σ o K
def cloA (σ : St) (o : Oper) : Option St := match o.op, o.dst with
  | .makeFunc fn first caps, some d => (funcA σ.h d fn first.isEmpty (caps.toList.map σ.ev)).map fun q => (σ.new q.1 q.2.1).put (some d) q.2.2
  | _, _ => none
def eqS (u v : Option Av) : Prop := ∃ x, u = some x ∧ v = some x
def asX (ops : List Oper) (σ : St) (o : Oper) : List Nat → Prop
  | [] => gaOk ops.toArray σ o = true
  | k :: As => (match nth ops k with
    | some p => (isW p.op && p.guard.isNone && dstOk N p) = true ∧ (match wres P σ p with
      | some q => (isA p.op || plainCall o.op) = true ∨ eqS (vval P σ o) (vval P ((σ.new q.1 q.2.1).put p.dst q.2.2) o)
      | none => False)
    | none => False) ∧ asX ops σ o As
def Dn (P : Program) (ops : List Oper) (B : List Nat) (is : List (Nat × List Nat)) (X : Prop) (_ : Tg (ops, B, is, X)) : Prop := (P.follows .mixedOrders = true ∧ drawOk ops.toArray B is = true) ∧ X
abbrev Sch : Type := List (Nat × List Nat × List (Nat × List Nat))
abbrev Tx (_ : Program) (_ : Nat) (_ : World) (_ : Env) (_ : Exit → St → Prop) (_ : Sch) (_ : List Fr) : Type := Unit
def exR (sc : Sch) : Nat → List Fr → St → Prop
  | 0, k, σ => KQ P N w0 S0 Q k .normal σ
  | _ + 1, [], σ => Q .normal σ
  | _ + 1, .lp K :: _, σ => K σ
  | n + 1, .blk _ :: k, σ => exR sc n k σ
  | n + 1, .ops _ [] :: k, σ => exR sc n k σ
  | n + 1, .ops all (o :: l) :: k, σ =>
    Must (dstOk N o) (Ob (guardA all.toArray σ o)
      (Ov (vval P σ o) (fun r => exR sc n (.ops all l :: k) (σ.put o.dst r)) (Ov (wstep P σ o) (fun σ' => exR sc n (.ops all l :: k) σ') (Ov (cloA σ o) (fun σ' => exR sc n (.ops all l :: k) σ')
        (Nd P σ o (fun σ' => exR sc n (.ops all l :: k) σ') () (callOf P σ o)) ()) ()) ())
      (exR sc n (.ops all l :: k) (σ.put o.dst (.tup []))) ()) ()
  | n + 1, .drw _ _ [] :: k, σ => exR sc n k σ
  | n + 1, .drw all B ((i, As) :: is) :: k, σ => Ov (nth all i)
    (fun o => asX P N all σ o As ∧ Must (dstOk N o) (Ob (guardA all.toArray σ o)
      (Ov (vval P σ o) (fun r => exR sc n (.drw all B is :: k) (σ.put o.dst r)) (Ov (wstep P σ o) (fun σ' => exR sc n (.drw all B is :: k) σ')
        (Nw P B i σ o (fun σ' => exR sc n (.drw all B is :: k) σ') () (callOf P σ o)) ()) ())
      (exR sc n (.drw all B is :: k) (σ.put o.dst (.tup []))) ()) ()) False ()
  | n + 1, .code c :: k, σ => match c with
    | .seq x y => exR sc n (.code x :: .code y :: k) σ
    | .skip => exR sc n k σ
    | .label _ => exR sc n k σ
    | .block id c => exR sc n (.code c :: .blk id :: k) σ
    | .exit id => Ov (unwind id k) (fun k' => exR sc n k' σ) (KQ P N w0 S0 Q k (.exit id) σ) ()
    | .ret => Q .ret σ
    | .cond c x y => Tst (σ.ev c) (exR sc n (.code x :: k) σ) (exR sc n (.code y :: k) σ) ()
    | .region id ops false => exR sc n (.ops ops.toList ops.toList :: k) σ
    | .region id ops true => Ov (look sc id) (fun q => Dn P ops.toList q.1 q.2 (exR sc n (.drw ops.toList q.1 q.2 :: k) σ) ()) (KQ P N w0 S0 Q (.code (.region id ops true) :: k) .normal σ) ()
    | c => KQ P N w0 S0 Q (.code c :: k) .normal σ
def ex (P : Program) (N : Nat) (w0 : World) (S0 : Env) (Q : Exit → St → Prop) (sc : Sch) (k : List Fr) (_ : Tx P N w0 S0 Q sc k) (n : Nat) (σ : St) : Prop := exR P N w0 S0 Q sc n k σ
end
section
variable {P : Program} {N : Nat} {w0 : World} {S0 : Env} {Q : Exit → St → Prop} {sc : Sch}
theorem KQ_ret : ∀ (k : List Fr) (σ : St), KQ P N w0 S0 Q k .ret σ = Q .ret σ
  | [], σ => rfl
  | .code _ :: k, σ | .blk _ :: k, σ | .ops _ _ :: k, σ | .drw _ _ _ :: k, σ | .lp _ :: k, σ => KQ_ret k σ
theorem KQ_exit {id : Nat} : ∀ {k k' : List Fr}, unwind id k = some k' → ∀ σ, KQ P N w0 S0 Q k' .normal σ → KQ P N w0 S0 Q k (.exit id) σ
  | [], k', h => by cases h
  | .code _ :: k, k', h | .ops _ _ :: k, k', h | .drw _ _ _ :: k, k', h | .lp _ :: k, k', h => fun σ q => KQ_exit (k := k) h σ q
  | .blk i :: k, k', h => fun σ q => by
    simp only [unwind] at h
    simp only [KQ]
    by_cases e : id = i
    · rw [if_pos e] at h ⊢; cases h; exact q
    · rw [if_neg e] at h ⊢; exact KQ_exit h σ q
theorem callK_mono {σ : St} {o : Oper} {K K' : St → Prop} (hK : ∀ σ, K σ → K' σ) (h : callK P σ o K) : callK P σ o K' := by
  unfold callK at *
  split at h
  · obtain ⟨h1, R, h2, h3⟩ := h; exact ⟨h1, R, h2, fun r hr ho => hK _ (h3 r hr ho)⟩
  · exact h
theorem extK_mono {σ : St} {o : Oper} {K K' : St → Prop} (hK : ∀ σ, K σ → K' σ) (h : extK P σ o K) : extK P σ o K' := by
  cases h with
  | range ho hd hx hT hnd hz h => exact .range ho hd hx hT hnd hz (hK _ h)
  | next ho hx hid h0 h1 => exact .next ho hx hid (fun e => hK _ (h0 e)) fun k hk hs => hK _ (h1 k hk hs)
  | entry ho hx hid h => exact .entry ho hx hid (hK _ h)
  | clo ho hd hq h => exact .clo ho hd hq (hK _ h)
  | lend hc ha hR hp h => exact .lend hc ha hR hp fun r hr ho => hK _ (h r hr ho)
  | proc hc hx ho hh hR h => exact .proc hc hx ho hh hR fun r own' hr => ⟨(h r own' hr).1, hK _ (h r own' hr).2⟩
  | defer ho hx hd h => exact .defer ho hx hd (hK _ h)
  | frz hw h => exact .frz hw (hK _ h)
  | frzv hv h => exact .frzv hv (hK _ h)
theorem asX_ok {ops : List Oper} {σ : St} {o : Oper} : ∀ {As : List Nat}, asX P N ops σ o As → asOk P N ops.toArray σ o As
  | [], h => h
  | k :: As, ⟨h, ht⟩ => by
    refine ⟨?_, asX_ok ht⟩
    cases hp : nth ops k with
    | none => simp only [hp] at h
    | some p =>
      simp only [hp] at h
      obtain ⟨h1, h2⟩ := h
      simp only [Bool.and_eq_true, Option.isNone_iff_eq_none] at h1
      cases hq : wres P σ p with
      | none => simp only [hq] at h2
      | some q =>
        simp only [hq] at h2
        refine ⟨p, q, rfl, h1.1.1, h1.1.2, h1.2, hq, ?_⟩
        rcases h2 with h2 | ⟨u, h3, h4⟩
        · rcases (Bool.or_eq_true ..).mp h2 with h | h
          · exact .inl h
          · exact .inr (.inl h)
        · exact .inr (.inr ⟨u, h3, h4⟩)
theorem Br_iff {b : Bool} {A B : Prop} {t : Tg (A ∧ B)} (h : Br b A B t) : (b = true → A) ∧ (b = false → B) := by cases b <;> simpa [Br] using h
theorem ex_run : ∀ (n : Nat) (k : List Fr) (σ : St), exR P N w0 S0 Q sc n k σ → KQ P N w0 S0 Q k .normal σ
  | 0, _, _, h => h
  | n + 1, [], σ, h => h
  | n + 1, .lp K :: k, σ, h => h
  | n + 1, .blk _ :: k, σ, h => ex_run n k σ h
  | n + 1, .ops _ [] :: k, σ, h => ex_run n k σ h
  | n + 1, .drw _ _ [] :: k, σ, h => ex_run n k σ h
  | n + 1, .ops all (o :: l) :: k, σ, ⟨hd, h⟩ => by
    show opX P N all.toArray σ o _
    unfold opX
    cases hg : guardA all.toArray σ o with
    | none => rw [hg] at h; exact h.elim
    | some g =>
      rw [hg] at h
      obtain ⟨ht, hf⟩ := Br_iff (t := ()) h
      refine ⟨fun e => ⟨hd, ?_⟩, fun e => ⟨hd, ex_run n _ _ (hf e)⟩⟩
      have h := ht e
      cases hv : vval P σ o with
      | some r => rw [hv] at h; exact ex_run n _ _ h
      | none =>
        rw [hv] at h
        cases hw : wstep P σ o with
        | some σ' => rw [Ov_none, hw] at h; exact ex_run n _ _ h
        | none =>
          rw [Ov_none, hw, Ov_none] at h
          cases hc : cloA σ o with
          | some σ' =>
            rw [hc] at h
            unfold cloA at hc
            split at hc
            · next fn first caps d ho hd =>
              obtain ⟨q, hq, rfl⟩ := Option.map_eq_some_iff.1 hc
              exact .inr (.clo ho hd hq (ex_run n _ _ h))
            · cases hc
          | none =>
            rw [hc] at h
            rcases h rfl with h | h
            · exact .inl (callK_mono (fun σ' => ex_run n _ σ') h)
            · exact .inr (extK_mono (fun σ' => ex_run n _ σ') h)
  | n + 1, .drw all B ((i, As) :: is) :: k, σ, h => by
    show opsI P N all.toArray B _ ((i, As) :: is) σ
    replace h : Ov (nth all i) _ False () := h
    cases ho : nth all i with
    | none => rw [ho] at h; exact h.elim
    | some o =>
      rw [ho] at h
      obtain ⟨hA, hd, h⟩ := h
      refine os_g (o := o) (g := guardA all.toArray σ o) ho (asX_ok hA) rfl ?_
      cases hg : guardA all.toArray σ o with
      | none => rw [hg] at h; exact h.elim
      | some g =>
        rw [hg] at h
        obtain ⟨ht, hf⟩ := Br_iff (t := ()) h
        cases g with
        | false => exact ⟨hd, ex_run n _ _ (hf rfl)⟩
        | true =>
          refine ⟨hd, ?_⟩
          have h := ht rfl
          cases hv : vval P σ o with
          | some r => rw [hv] at h; exact ex_run n _ _ h
          | none =>
            rw [hv] at h
            unfold VS
            cases hw : wstep P σ o with
            | some σ' => rw [Ov_none, hw] at h; exact ex_run n _ _ h
            | none =>
              rw [Ov_none, hw] at h
              exact ⟨(h rfl).1, callK_mono (fun σ' => ex_run n _ σ') (h rfl).2⟩
  | n + 1, .code c :: k, σ, h => by
    show AWp P N w0 S0 c (KQ P N w0 S0 Q k) σ
    cases c with
    | seq x y =>
      refine aw_sq ((ex_run n (.code x :: .code y :: k) σ h : AWp P N w0 S0 x _ σ).mono fun e σ q => ?_)
      cases e <;> exact q
    | skip => exact aw_skip (ex_run n k σ h)
    | label l => exact aw_label (ex_run n k σ h)
    | block id c =>
      refine aw_block ((ex_run n (.code c :: .blk id :: k) σ h : AWp P N w0 S0 c _ σ).mono fun e σ q => ?_)
      cases e with
      | exit id' =>
        simp only [KQ] at q
        simp only [inBlockA]
        by_cases e : id' = id
        · rw [if_pos e] at q ⊢; exact q
        · rw [if_neg e] at q ⊢; exact q
      | _ => exact q
    | exit id =>
      refine aw_exit ?_
      replace h : Ov (unwind id k) _ _ () := h
      cases hu : unwind id k with
      | none => rw [hu] at h; exact h
      | some k' => rw [hu] at h; exact KQ_exit hu σ (ex_run n k' σ h)
    | ret => exact aw_ret (by rw [KQ_ret]; exact h)
    | cond c x y =>
      replace h : Tst (σ.ev c) _ _ () := h
      unfold Tst at h
      split at h
      · next b hb =>
        obtain ⟨ht, hf⟩ := Br_iff (t := ()) h
        exact aw_cond hb (fun e => ex_run n (.code x :: k) σ (ht e)) fun e => ex_run n (.code y :: k) σ (hf e)
      · exact h.elim
    | region id ops draw =>
      cases draw with
      | false =>
        have h' := ex_run n (.ops ops.toList ops.toList :: k) σ h
        exact aw_region (l := ops.toList) h'
      | true =>
        replace h : Ov (look sc id) _ _ () := h
        cases hq : look sc id with
        | none => rw [hq] at h; exact h
        | some q =>
          rw [hq] at h
          obtain ⟨h1, h2⟩ := h
          have h' := ex_run n (.drw ops.toList q.1 q.2 :: k) σ h2
          exact aw_drawn (l := ops.toList) h1.1 q.1 q.2 h1.2 h'
    | _ => exact h
theorem ex_aw {n : Nat} {c : Code} {σ : St} {t : Tx P N w0 S0 Q sc [.code c]} (h : ex P N w0 S0 Q sc [.code c] t n σ) : AWp P N w0 S0 c Q σ := (ex_run n [.code c] σ h : AWp P N w0 S0 c _ σ)
end
end Go.Smd
end
section
set_option linter.unusedSimpArgs false
namespace Go.Smd
open Go.RowKit
def tmpL : List (Nat × Av) → Nat → Av
  | [], _ => .any
  | (k, x) :: l, n => if k = n then x else tmpL l n
theorem tmpL_nil (n : Nat) : tmpL [] n = .any := _root_.id rfl
theorem tmpL_eq (n : Nat) (x : Av) (l : List (Nat × Av)) : tmpL ((n, x) :: l) n = x := by simp [tmpL]
theorem tmpL_ne {k n : Nat} (x : Av) (l : List (Nat × Av)) (h : (k = n) = False) : tmpL ((k, x) :: l) n = tmpL l n := by simp [tmpL, h]
theorem tmp_tmpL : ∀ (l : List (Nat × Av)) (own : List (Nat × Ow)) (n : Nat), (St.mk l own).tmp n = tmpL l n
  | [], own, n => rfl
  | (k, x) :: l, own, n => by
    have := tmp_tmpL l own n
    unfold St.tmp at *
    simp only [look, tmpL]
    split <;> simp_all
theorem look_nil {α : Type} (n : Nat) : look ([] : List (Nat × α)) n = none := _root_.id rfl
theorem look_eq {α : Type} (n : Nat) (x : α) (l : List (Nat × α)) : look ((n, x) :: l) n = some x := by simp [look]
theorem look_ne {α : Type} {k n : Nat} (x : α) (l : List (Nat × α)) (h : (k = n) = False) : look ((k, x) :: l) n = look l n := by simp [look, h]
theorem h_mk (l : List (Nat × Av)) (own : List (Nat × Ow)) (n : Nat) : (St.mk l own).h n = look own n := _root_.id rfl
theorem put_some (l : List (Nat × Av)) (own : List (Nat × Ow)) (d : Tmp) (x : Av) : (St.mk l own).put (some d) x = ⟨(d, x) :: l, own⟩ := _root_.id rfl
theorem put_none (σ : St) (x : Av) : σ.put none x = σ := _root_.id rfl
theorem new_mk (l : List (Nat × Av)) (own : List (Nat × Ow)) (d : Nat) (o : Ow) : (St.mk l own).new d o = ⟨l, (d, o) :: own⟩ := _root_.id rfl
theorem ev_tmp (σ : St) (t : Tmp) : σ.ev (.tmp t) = σ.tmp t := _root_.id rfl
theorem ev_func (σ : St) (f : FuncId) : σ.ev (.func f) = .c (.d (.v (.func (.func f) #[] #[]))) := _root_.id rfl
theorem ev_const (σ : St) (v : Value) : σ.ev (.const v) = if okVb v then .c (.d (.v v)) else .any := _root_.id rfl
theorem ev_bool (σ : St) (b : Bool) : σ.ev (.const (.bool b)) = .c (.d (.v (.bool b))) := _root_.id rfl
theorem ev_nilIface (σ : St) : σ.ev (.const .nilIface) = .c (.d (.v .nilIface)) := _root_.id rfl
theorem ev_nilPtr (σ : St) : σ.ev (.const (.pointer none)) = .c (.d (.v (.pointer none))) := _root_.id rfl
theorem ev_nilFunc (σ : St) : σ.ev (.const .nilFunc) = .c (.d (.v .nilFunc)) := _root_.id rfl
theorem ev_nilSlice (σ : St) : σ.ev (.const (.slice none 0 0)) = .c (.d (.v (.slice none 0 0))) := _root_.id rfl
theorem ev_nilMap (σ : St) : σ.ev (.const (.map none)) = .c (.d (.v (.map none))) := _root_.id rfl
section
variable {P : Program} {σ : St} {d : Option Tmp} {ty : TypeId} {pos : String} {af : Array Edge} {g : Option (Nat × Bool)}
theorem vv_move {x : Operand} : vval P σ ⟨d, .move x, ty, pos, af, g⟩ = some (σ.ev x) := _root_.id rfl
theorem vv_assign {x : Operand} : vval P σ ⟨d, .assign x, ty, pos, af, g⟩ = some (σ.ev x) := _root_.id rfl
def pickA : Av → Av → Av → Option Av
  | .c (.d (.v (.bool t))), a, b => some (if t then a else b)
  | _, _, _ => none
theorem pick_b {t : Bool} {a b : Av} : pickA (.c (.d (.v (.bool t)))) a b = some (if t then a else b) := _root_.id rfl
theorem vv_pick {c x y : Operand} : vval P σ ⟨d, .pick c x y, ty, pos, af, g⟩ = pickA (σ.ev c) (σ.ev x) (σ.ev y) := by
  show (match σ.ev c with | .c (.d (.v (.bool t))) => some (if t then σ.ev x else σ.ev y) | _ => none) = _
  unfold pickA
  split <;> simp_all
def unA (P : Program) (op : UnOp) : Av → Option Av
  | .c (.d (.v v)) => valPure P (Op.unary op v)
  | _ => none
theorem un_v {op : UnOp} {v : Value} : unA P op (.c (.d (.v v))) = valPure P (Op.unary op v) := _root_.id rfl
theorem vv_unOp {op : UnOp} {T : TypeId} {x : Operand} : vval P σ ⟨d, .unOp op T x, ty, pos, af, g⟩ = unA P op (σ.ev x) := by
  show (match σ.ev x with | .c (.d (.v v)) => valPure P (Op.unary op v) | _ => none) = _
  unfold unA
  split <;> simp_all
theorem vv_binOp {op : BinOp} {T T' : TypeId} {x y : Operand} : vval P σ ⟨d, .binOp op T x y T', ty, pos, af, g⟩ = binA P op T x y (σ.ev x) (σ.ev y) := _root_.id rfl
def fieldA (q : Option (Nat × Nat × Bool)) (x : Av) : Option Av := match q, x with | some (off, n, g), .agg xs => partA off n g xs | _, _ => none
theorem field_agg {off n : Nat} {gg : Bool} {xs : List Cl} : fieldA (some (off, n, gg)) (.agg xs) = partA off n gg xs := _root_.id rfl
theorem vv_field {T f : Nat} {x : Operand} : vval P σ ⟨d, .field T x f, ty, pos, af, g⟩ = fieldA (P.fld T f) (σ.ev x) := _root_.id rfl
theorem vv_fieldAddr {T f : Nat} {x : Operand} : vval P σ ⟨d, .fieldAddr T x f, ty, pos, af, g⟩ = fieldAddrA P T f (σ.ev x) := _root_.id rfl
theorem vv_load {T : TypeId} {x : Operand} : vval P σ ⟨d, .load T x, ty, pos, af, g⟩ = loadA P σ.h T (σ.ev x) := _root_.id rfl
theorem vv_indexAddr {T : TypeId} {x i : Operand} : vval P σ ⟨d, .indexAddr T x i, ty, pos, af, g⟩ = indexAddrA P σ.h T (σ.ev x) (σ.ev i) := _root_.id rfl
theorem vv_index {T : TypeId} {x i : Operand} : vval P σ ⟨d, .index T x i, ty, pos, af, g⟩ = indexA P T (σ.ev x) (σ.ev i) := _root_.id rfl
theorem vv_extract {x : Operand} {i : Nat} : vval P σ ⟨d, .extract x i, ty, pos, af, g⟩ = extractA (σ.ev x) i := _root_.id rfl
def chkA : Av → Option Av
  | .c (.own id off) => some (.c (.own id off))
  | .c (.d (.pt xs)) => some (.c (.d (.pt xs)))
  | .c (.io T id off) => some (.c (.io T id off))
  | .c (.d (.ifc T y)) => some (.c (.d (.ifc T y)))
  | _ => none
theorem chk_own {id off : Nat} : chkA (.c (.own id off)) = some (.c (.own id off)) := _root_.id rfl
theorem chk_pt {xs : List D} : chkA (.c (.d (.pt xs))) = some (.c (.d (.pt xs))) := _root_.id rfl
theorem chk_io {T : TypeId} {id off : Nat} : chkA (.c (.io T id off)) = some (.c (.io T id off)) := _root_.id rfl
theorem chk_ifc {T : TypeId} {y : D} : chkA (.c (.d (.ifc T y))) = some (.c (.d (.ifc T y))) := _root_.id rfl
theorem vv_nilCheck {x : Operand} : vval P σ ⟨d, .nilCheck x, ty, pos, af, g⟩ = chkA (σ.ev x) := by
  show (match σ.ev x with | .c (.own id off) => some (Av.c (.own id off)) | .c (.d (.pt xs)) => some (Av.c (.d (.pt xs))) | .c (.io T id off) => some (Av.c (.io T id off)) | .c (.d (.ifc T y)) => some (Av.c (.d (.ifc T y))) | _ => none) = _
  unfold chkA
  split <;> simp_all
theorem vv_typeAssert {x : Operand} {T U : TypeId} {ok : Bool} : vval P σ ⟨d, .typeAssert x T U ok, ty, pos, af, g⟩ = assertA P U ok (σ.ev x) := _root_.id rfl
theorem vv_makeFunc {fn : Fn} {first caps : Array Operand} : vval P σ ⟨d, .makeFunc fn first caps, ty, pos, af, g⟩ = funcV fn first.isEmpty caps.isEmpty := _root_.id rfl
theorem vv_lookup {T : TypeId} {x k : Operand} {ok : Bool} : vval P σ ⟨d, .lookup T x k ok, ty, pos, af, g⟩ = lookA P T (σ.ev x) (σ.ev k) ok := _root_.id rfl
theorem vv_makeInterface {T : TypeId} {x : Operand} : vval P σ ⟨d, .makeInterface T x, ty, pos, af, g⟩ = makeIfcA P T (σ.ev x) := _root_.id rfl
theorem vv_build {T : TypeId} {ps : List (Nat × Operand)} : vval P σ ⟨d, .build T ps.toArray, ty, pos, af, g⟩ = buildA P σ T ps := _root_.id rfl
theorem vv_slice {T : TypeId} {x : Operand} {lo hi : Option Operand} : vval P σ ⟨d, .slice T x lo hi none, ty, pos, af, g⟩ = sliceA P T (σ.ev x) (lo.map σ.ev) (hi.map σ.ev) := _root_.id rfl
theorem vv_call {c : Callee} {xs : List Operand} {Ts : Array TypeId} : vval P σ ⟨d, .call ⟨c, xs.toArray, Ts⟩, ty, pos, af, g⟩ = lenCall P σ ⟨c, xs.toArray, Ts⟩ := _root_.id rfl
theorem len_value {f : Operand} {xs : Array Operand} {Ts : Array TypeId} : lenCall P σ ⟨.value f, xs, Ts⟩ = none := _root_.id rfl
theorem len_invoke {f : Operand} {m : String} {xs : Array Operand} {Ts : Array TypeId} : lenCall P σ ⟨.invoke f m, xs, Ts⟩ = none := _root_.id rfl
theorem len_len {x : Operand} {T : TypeId} : lenCall P σ ⟨.builtin .len, #[x], #[T]⟩ = (match mapLen P T (σ.ev x) with | some r => some r | none => lenA P σ.h T (σ.ev x)) := _root_.id rfl
theorem len_min {xs : List Operand} {Ts : Array TypeId} : lenCall P σ ⟨.builtin .min, xs.toArray, Ts⟩ = minA (xs.map σ.ev) := _root_.id rfl
theorem len_append {xs : Array Operand} {Ts : Array TypeId} : lenCall P σ ⟨.builtin .append, xs, Ts⟩ = none := _root_.id rfl
theorem vv_alloc {T : TypeId} : vval P σ ⟨d, .alloc T, ty, pos, af, g⟩ = none := _root_.id rfl
theorem vv_box {T : TypeId} {x : Operand} : vval P σ ⟨d, .box T x, ty, pos, af, g⟩ = none := _root_.id rfl
theorem vv_store {T : TypeId} {x y : Operand} : vval P σ ⟨d, .store T x y, ty, pos, af, g⟩ = none := _root_.id rfl
theorem vv_buildSlice {T : TypeId} {n : Nat} {ps : Array (Nat × Operand)} : vval P σ ⟨d, .buildSlice T n ps, ty, pos, af, g⟩ = none := _root_.id rfl
theorem vv_makeSlice {T : TypeId} {x y : Operand} : vval P σ ⟨d, .makeSlice T x y, ty, pos, af, g⟩ = none := _root_.id rfl
theorem vv_range {T : TypeId} {x : Operand} : vval P σ ⟨d, .range T x, ty, pos, af, g⟩ = none := _root_.id rfl
theorem vv_next {x : Operand} {b : Bool} : vval P σ ⟨d, .next x b, ty, pos, af, g⟩ = none := _root_.id rfl
theorem vv_entry {x : Operand} : vval P σ ⟨d, .entry x, ty, pos, af, g⟩ = none := _root_.id rfl
theorem vv_defer {c : Call} : vval P σ ⟨d, .defer c, ty, pos, af, g⟩ = none := _root_.id rfl
def resW (σ : St) (d : Option Tmp) : Option Wres → Option St
  | some (id, x, r) => some ((σ.new id x).put d r)
  | none => none
theorem resW_some {id : Nat} {x : Ow} {r : Av} : resW σ d (some (id, x, r)) = some ((σ.new id x).put d r) := _root_.id rfl
theorem resW_none : resW σ d none = none := _root_.id rfl
theorem ws_of {op : Op} : wstep P σ ⟨d, op, ty, pos, af, g⟩ = resW σ d (wres P σ ⟨d, op, ty, pos, af, g⟩) := by
  unfold wstep resW
  cases wres P σ ⟨d, op, ty, pos, af, g⟩ <;> rfl
theorem ws_alloc {T : TypeId} {t : Tmp} : wres P σ ⟨some t, .alloc T, ty, pos, af, g⟩ = (zeroCs P T).bind fun cs => newCells σ.h t cs T := _root_.id rfl
theorem ws_box {T : TypeId} {x : Operand} {t : Tmp} : wres P σ ⟨some t, .box T x, ty, pos, af, g⟩ = (cellsA (σ.ev x)).bind fun cs => newCells σ.h t cs T := _root_.id rfl
theorem ws_store {T : TypeId} {x y : Operand} : wres P σ ⟨none, .store T x y, ty, pos, af, g⟩ = storeA P σ.h T (σ.ev x) (σ.ev y) := _root_.id rfl
theorem ws_buildSlice {T : TypeId} {n : Nat} {ps : List (Nat × Operand)} {t : Tmp} : wres P σ ⟨some t, .buildSlice T n ps.toArray, ty, pos, af, g⟩ = litA P σ.h t T n (ps.map fun p => (p.1, σ.ev p.2)) := _root_.id rfl
theorem ws_makeSlice {T : TypeId} {x y : Operand} {t : Tmp} : wres P σ ⟨some t, .makeSlice T x y, ty, pos, af, g⟩ = makeA P σ.h t T (σ.ev x) (σ.ev y) := _root_.id rfl
theorem ws_append {x y : Operand} {T T' : TypeId} {t : Tmp} : wres P σ ⟨some t, .call ⟨.builtin .append, #[x, y], #[T, T']⟩, ty, pos, af, g⟩ = if T = T' then appA P σ.h t T (σ.ev x) (σ.ev y) else none := _root_.id rfl
theorem ws_callv {x : Operand} {xs : Array Operand} {Ts : Array TypeId} : wres P σ ⟨d, .call ⟨.value x, xs, Ts⟩, ty, pos, af, g⟩ = none := by cases d <;> rfl
theorem ws_calli {x : Operand} {m : String} {xs : Array Operand} {Ts : Array TypeId} : wres P σ ⟨d, .call ⟨.invoke x m, xs, Ts⟩, ty, pos, af, g⟩ = none := by cases d <;> rfl
theorem ws_makeFunc {fn : Fn} {first caps : Array Operand} : wres P σ ⟨d, .makeFunc fn first caps, ty, pos, af, g⟩ = none := by cases d <;> rfl
theorem ws_range {T : TypeId} {x : Operand} : wres P σ ⟨d, .range T x, ty, pos, af, g⟩ = none := by cases d <;> rfl
theorem ws_next {x : Operand} {b : Bool} : wres P σ ⟨d, .next x b, ty, pos, af, g⟩ = none := by cases d <;> rfl
theorem ws_entry {x : Operand} : wres P σ ⟨d, .entry x, ty, pos, af, g⟩ = none := by cases d <;> rfl
theorem ws_defer {c : Call} : wres P σ ⟨d, .defer c, ty, pos, af, g⟩ = none := by cases d <;> rfl
theorem clo_call {c : Call} : cloA σ ⟨d, .call c, ty, pos, af, g⟩ = none := _root_.id rfl
theorem clo_range {T : TypeId} {x : Operand} : cloA σ ⟨d, .range T x, ty, pos, af, g⟩ = none := _root_.id rfl
theorem clo_next {x : Operand} {b : Bool} : cloA σ ⟨d, .next x b, ty, pos, af, g⟩ = none := _root_.id rfl
theorem clo_entry {x : Operand} : cloA σ ⟨d, .entry x, ty, pos, af, g⟩ = none := _root_.id rfl
theorem clo_defer {c : Call} : cloA σ ⟨d, .defer c, ty, pos, af, g⟩ = none := _root_.id rfl
theorem clo_make {fn : Fn} {first : Array Operand} {caps : List Operand} {t : Tmp} : cloA σ ⟨some t, .makeFunc fn first caps.toArray, ty, pos, af, g⟩ = (funcA σ.h t fn first.isEmpty (caps.map σ.ev)).map fun q => (σ.new q.1 q.2.1).put (some t) q.2.2 := _root_.id rfl
def callF (P : Program) (h : Nat → Option Ow) (q : Option (FuncId × List Av × List TypeId)) : Option (FuncId × List Av × List Nat) :=
  match q with
  | some (f, xs, Ts) => some (f, argsC P (xs.flatMap (Av.deep h)) h xs Ts, xs.flatMap (Av.deep h))
  | none => none
theorem callF_some {h : Nat → Option Ow} {f : FuncId} {xs : List Av} {Ts : List TypeId} : callF P h (some (f, xs, Ts)) = some (f, argsC P (xs.flatMap (Av.deep h)) h xs Ts, xs.flatMap (Av.deep h)) := _root_.id rfl
theorem callF_none {h : Nat → Option Ow} : callF P h none = none := _root_.id rfl
theorem co_of {o : Oper} : callOf P σ o = callF P σ.h (calleeOf P σ o) := by
  unfold callOf callF
  cases calleeOf P σ o <;> rfl
theorem ce_func {f : FuncId} {xs : List Operand} {Ts : List TypeId} : calleeOf P σ ⟨d, .call ⟨.value (.func f), xs.toArray, Ts.toArray⟩, ty, pos, af, g⟩ = some (f, xs.map σ.ev, Ts) := _root_.id rfl
theorem ce_tmp {t : Tmp} {xs : List Operand} {Ts : List TypeId} : calleeOf P σ ⟨d, .call ⟨.value (.tmp t), xs.toArray, Ts.toArray⟩, ty, pos, af, g⟩ = (capArgs σ.h (σ.tmp t)).map fun q => (q.1, xs.map σ.ev ++ q.2, Ts) := _root_.id rfl
theorem ce_invoke {x : Operand} {m : String} {xs : List Operand} {Ts : List TypeId} : calleeOf P σ ⟨d, .call ⟨.invoke x m, xs.toArray, Ts.toArray⟩, ty, pos, af, g⟩ = (invokeA P σ.h (σ.ev x) m).map fun q => (q.1, q.2 :: xs.map σ.ev, noT :: Ts) := _root_.id rfl
theorem ce_range {T : TypeId} {x : Operand} : calleeOf P σ ⟨d, .range T x, ty, pos, af, g⟩ = none := _root_.id rfl
theorem ce_next {x : Operand} {b : Bool} : calleeOf P σ ⟨d, .next x b, ty, pos, af, g⟩ = none := _root_.id rfl
theorem ce_entry {x : Operand} : calleeOf P σ ⟨d, .entry x, ty, pos, af, g⟩ = none := _root_.id rfl
theorem ce_defer {c : Call} : calleeOf P σ ⟨d, .defer c, ty, pos, af, g⟩ = none := _root_.id rfl
theorem argsC_nil0 {F : List Nat} {h : Nat → Option Ow} {Ts : List TypeId} : argsC P F h [] Ts = [] := _root_.id rfl
theorem argsC_none {F : List Nat} {h : Nat → Option Ow} {x : Av} {xs : List Av} : argsC P F h (x :: xs) [] = frzA P F h x :: argsC P F h xs [] := _root_.id rfl
theorem argsC_cons {F : List Nat} {h : Nat → Option Ow} {x : Av} {xs : List Av} {T : TypeId} {Ts : List TypeId} : argsC P F h (x :: xs) (T :: Ts) = (if T = noT then frzA P F h x else argC P T (frzA P F h x)) :: argsC P F h xs Ts := _root_.id rfl
end
theorem gd_none {ops : Array Oper} {σ : St} {d : Option Tmp} {op : Op} {ty : TypeId} {pos : String} {af : Array Edge} : guardA ops σ ⟨d, op, ty, pos, af, none⟩ = some true := _root_.id rfl
def gdA (w : Bool) : Av → Option Bool
  | .c (.d (.v (.bool b))) => some (b == w)
  | .tup [] => some false
  | _ => none
theorem gd_b {w b : Bool} : gdA w (.c (.d (.v (.bool b)))) = some (b == w) := _root_.id rfl
theorem gd_tup {w : Bool} : gdA w (.tup []) = some false := _root_.id rfl
def gdD (σ : St) (w : Bool) : Option Tmp → Option Bool
  | none => some false
  | some d => gdA w (σ.tmp d)
theorem gdD_some {σ : St} {w : Bool} {t : Tmp} : gdD σ w (some t) = gdA w (σ.tmp t) := _root_.id rfl
theorem gd_some {all : List Oper} {σ : St} {d : Option Tmp} {op : Op} {ty : TypeId} {pos : String} {af : Array Edge} {j : Nat} {w : Bool} : guardA all.toArray σ ⟨d, op, ty, pos, af, some (j, w)⟩ = gdD σ w ((nth all j).bind (·.dst)) := by
  unfold guardA gdD gdA
  rw [nth_eq]
  simp only [List.getElem?_toArray]
  cases (all[j]?).bind (·.dst) with
  | none => rfl
  | some t =>
    simp only
    split <;> simp_all
theorem nth_zero {o : Oper} {l : List Oper} : nth (o :: l) 0 = some o := _root_.id rfl
theorem nth_succ {o : Oper} {l : List Oper} {i : Nat} : nth (o :: l) (i + 1) = nth l i := _root_.id rfl
theorem dst_ok {N : Nat} {t : Tmp} {op : Op} {ty : TypeId} {pos : String} {af : Array Edge} {g : Option (Nat × Bool)} : dstOk N ⟨some t, op, ty, pos, af, g⟩ = decide (t < N) := _root_.id rfl
theorem dst_none {N : Nat} {op : Op} {ty : TypeId} {pos : String} {af : Array Edge} {g : Option (Nat × Bool)} : dstOk N ⟨none, op, ty, pos, af, g⟩ = true := _root_.id rfl
def gsrc (all : List Oper) : List Oper → Option Tmp → Bool
  | [], _ => false
  | q :: l, d => (match q.guard with | some (j, _) => decide ((nth all j).bind (·.dst) = d) | none => false) || gsrc all l d
theorem gs_nil {all : List Oper} {d : Option Tmp} : gsrc all [] d = false := _root_.id rfl
theorem gs_none {all l : List Oper} {d e : Option Tmp} {op : Op} {ty : TypeId} {pos : String} {af : Array Edge} : gsrc all (⟨e, op, ty, pos, af, none⟩ :: l) d = gsrc all l d := by simp [gsrc]
theorem gs_some {all l : List Oper} {d e : Option Tmp} {op : Op} {ty : TypeId} {pos : String} {af : Array Edge} {j : Nat} {w : Bool} : gsrc all (⟨e, op, ty, pos, af, some (j, w)⟩ :: l) d = (decide ((nth all j).bind (·.dst) = d) || gsrc all l d) := by simp [gsrc]
def Sel (g : Bool) (A B : Prop) (_ : Tg (A ∧ B)) : Prop := match g with | true => A | false => B
theorem Sel_true {A B : Prop} {t : Tg (A ∧ B)} : Sel true A B t = A := _root_.id rfl
theorem Sel_false {A B : Prop} {t : Tg (A ∧ B)} : Sel false A B t = B := _root_.id rfl
def Kv (all : List Oper) (d : Option Tmp) (K : Av → Prop) (_ : Tg (all, d, K)) (r : Av) : Prop := K r
theorem Kv_true {all : List Oper} {d : Option Tmp} {K : Av → Prop} {t : Tg (all, d, K)} : Kv all d K t (.c (.d (.v (.bool true)))) = K (.c (.d (.v (.bool true)))) := _root_.id rfl
theorem Kv_false {all : List Oper} {d : Option Tmp} {K : Av → Prop} {t : Tg (all, d, K)} : Kv all d K t (.c (.d (.v (.bool false)))) = K (.c (.d (.v (.bool false)))) := _root_.id rfl
theorem Kv_b {all : List Oper} {d : Option Tmp} {K : Av → Prop} {t : Tg (all, d, K)} {b : Bool} : Kv all d K t (.c (.d (.v (.bool b)))) = Sel (gsrc all all d) (Br b (K (.c (.d (.v (.bool true))))) (K (.c (.d (.v (.bool false))))) ()) (K (.c (.d (.v (.bool b))))) () := by
  cases b <;> cases gsrc all all d <;> rfl
theorem Kv_any {all : List Oper} {d : Option Tmp} {K : Av → Prop} {t : Tg (all, d, K)} {r : Av} : Kv all d K t r = K r := _root_.id rfl
section
variable {P : Program} {N : Nat} {w0 : World} {S0 : Env} {Q : Exit → St → Prop} {sc : Sch} {n : Nat} {k : List Fr} {tl : List (Nat × Av)} {hl : List (Nat × Ow)} {σ : St}
theorem ex_nil {t : Tx P N w0 S0 Q sc []} : ex P N w0 S0 Q sc [] t (n + 1) ⟨tl, hl⟩ = Q .normal ⟨tl, hl⟩ := _root_.id rfl
theorem ex_lp {K : St → Prop} {t : Tx P N w0 S0 Q sc (.lp K :: k)} : ex P N w0 S0 Q sc (.lp K :: k) t (n + 1) ⟨tl, hl⟩ = K ⟨tl, hl⟩ := _root_.id rfl
theorem ex_blk {i : Nat} {t : Tx P N w0 S0 Q sc (.blk i :: k)} : ex P N w0 S0 Q sc (.blk i :: k) t (n + 1) ⟨tl, hl⟩ = ex P N w0 S0 Q sc k () n ⟨tl, hl⟩ := _root_.id rfl
theorem ex_ops_nil {all : List Oper} {t : Tx P N w0 S0 Q sc (.ops all [] :: k)} : ex P N w0 S0 Q sc (.ops all [] :: k) t (n + 1) ⟨tl, hl⟩ = ex P N w0 S0 Q sc k () n ⟨tl, hl⟩ := _root_.id rfl
theorem ex_ops {all l : List Oper} {d : Option Tmp} {op : Op} {ty : TypeId} {pos : String} {af : Array Edge} {g : Option (Nat × Bool)} {t : Tx P N w0 S0 Q sc (.ops all (⟨d, op, ty, pos, af, g⟩ :: l) :: k)} : ex P N w0 S0 Q sc (.ops all (⟨d, op, ty, pos, af, g⟩ :: l) :: k) t (n + 1) ⟨tl, hl⟩ =
    Must (dstOk N ⟨d, op, ty, pos, af, g⟩) (Ob (guardA all.toArray ⟨tl, hl⟩ ⟨d, op, ty, pos, af, g⟩)
      (Ov (vval P ⟨tl, hl⟩ ⟨d, op, ty, pos, af, g⟩) (fun r => Kv all d (fun r => ex P N w0 S0 Q sc (.ops all l :: k) () n (St.put ⟨tl, hl⟩ d r)) () r) (Ov (wstep P ⟨tl, hl⟩ ⟨d, op, ty, pos, af, g⟩) (fun σ' => ex P N w0 S0 Q sc (.ops all l :: k) () n σ') (Ov (cloA ⟨tl, hl⟩ ⟨d, op, ty, pos, af, g⟩) (fun σ' => ex P N w0 S0 Q sc (.ops all l :: k) () n σ')
        (Nd P ⟨tl, hl⟩ ⟨d, op, ty, pos, af, g⟩ (fun σ' => ex P N w0 S0 Q sc (.ops all l :: k) () n σ') () (callOf P ⟨tl, hl⟩ ⟨d, op, ty, pos, af, g⟩)) ()) ()) ())
      (ex P N w0 S0 Q sc (.ops all l :: k) () n (St.put ⟨tl, hl⟩ d (.tup []))) ()) () := _root_.id rfl
theorem ex_drw_nil {all : List Oper} {B : List Nat} {t : Tx P N w0 S0 Q sc (.drw all B [] :: k)} : ex P N w0 S0 Q sc (.drw all B [] :: k) t (n + 1) ⟨tl, hl⟩ = ex P N w0 S0 Q sc k () n ⟨tl, hl⟩ := _root_.id rfl
theorem ex_drw {all : List Oper} {B : List Nat} {i : Nat} {As : List Nat} {is : List (Nat × List Nat)} {t : Tx P N w0 S0 Q sc (.drw all B ((i, As) :: is) :: k)} : ex P N w0 S0 Q sc (.drw all B ((i, As) :: is) :: k) t (n + 1) ⟨tl, hl⟩ = Ov (nth all i)
    (fun o => asX P N all ⟨tl, hl⟩ o As ∧ Must (dstOk N o) (Ob (guardA all.toArray ⟨tl, hl⟩ o)
      (Ov (vval P ⟨tl, hl⟩ o) (fun r => Kv all o.dst (fun r => ex P N w0 S0 Q sc (.drw all B is :: k) () n (St.put ⟨tl, hl⟩ o.dst r)) () r) (Ov (wstep P ⟨tl, hl⟩ o) (fun σ' => ex P N w0 S0 Q sc (.drw all B is :: k) () n σ') (Nw P B i ⟨tl, hl⟩ o (fun σ' => ex P N w0 S0 Q sc (.drw all B is :: k) () n σ') () (callOf P ⟨tl, hl⟩ o)) ()) ())
      (ex P N w0 S0 Q sc (.drw all B is :: k) () n (St.put ⟨tl, hl⟩ o.dst (.tup []))) ()) ()) False () := _root_.id rfl
theorem ex_seq {x y : Code} {t : Tx P N w0 S0 Q sc (.code (.seq x y) :: k)} : ex P N w0 S0 Q sc (.code (.seq x y) :: k) t (n + 1) ⟨tl, hl⟩ = ex P N w0 S0 Q sc (.code x :: .code y :: k) () n ⟨tl, hl⟩ := _root_.id rfl
theorem ex_skip {t : Tx P N w0 S0 Q sc (.code .skip :: k)} : ex P N w0 S0 Q sc (.code .skip :: k) t (n + 1) ⟨tl, hl⟩ = ex P N w0 S0 Q sc k () n ⟨tl, hl⟩ := _root_.id rfl
theorem ex_label {i : Nat} {t : Tx P N w0 S0 Q sc (.code (.label i) :: k)} : ex P N w0 S0 Q sc (.code (.label i) :: k) t (n + 1) ⟨tl, hl⟩ = ex P N w0 S0 Q sc k () n ⟨tl, hl⟩ := _root_.id rfl
theorem ex_block {i : Nat} {c : Code} {t : Tx P N w0 S0 Q sc (.code (.block i c) :: k)} : ex P N w0 S0 Q sc (.code (.block i c) :: k) t (n + 1) ⟨tl, hl⟩ = ex P N w0 S0 Q sc (.code c :: .blk i :: k) () n ⟨tl, hl⟩ := _root_.id rfl
theorem ex_ret {t : Tx P N w0 S0 Q sc (.code .ret :: k)} : ex P N w0 S0 Q sc (.code .ret :: k) t (n + 1) ⟨tl, hl⟩ = Q .ret ⟨tl, hl⟩ := _root_.id rfl
theorem ex_cond {c : Operand} {x y : Code} {t : Tx P N w0 S0 Q sc (.code (.cond c x y) :: k)} : ex P N w0 S0 Q sc (.code (.cond c x y) :: k) t (n + 1) ⟨tl, hl⟩ = Tst (St.ev ⟨tl, hl⟩ c) (ex P N w0 S0 Q sc (.code x :: k) () n ⟨tl, hl⟩) (ex P N w0 S0 Q sc (.code y :: k) () n ⟨tl, hl⟩) () := _root_.id rfl
theorem ex_region {i : Nat} {l : List Oper} {t : Tx P N w0 S0 Q sc (.code (.region i l.toArray false) :: k)} : ex P N w0 S0 Q sc (.code (.region i l.toArray false) :: k) t (n + 1) ⟨tl, hl⟩ = ex P N w0 S0 Q sc (.ops l l :: k) () n ⟨tl, hl⟩ := _root_.id rfl
def exD (P : Program) (N : Nat) (w0 : World) (S0 : Env) (Q : Exit → St → Prop) (sc : Sch) (k : List Fr) (i : Nat) (l : List Oper) (n : Nat) (tl : List (Nat × Av)) (hl : List (Nat × Ow)) (_ : Tg (P, N, w0, S0, Q, sc, k, l, n, tl, hl)) (q : Option (List Nat × List (Nat × List Nat))) : Prop :=
  Ov q (fun q => Dn P l q.1 q.2 (ex P N w0 S0 Q sc (.drw l q.1 q.2 :: k) () n ⟨tl, hl⟩) ()) (KQ P N w0 S0 Q (.code (.region i l.toArray true) :: k) .normal ⟨tl, hl⟩) ()
theorem ex_drawn {i : Nat} {l : List Oper} {t : Tx P N w0 S0 Q sc (.code (.region i l.toArray true) :: k)} : ex P N w0 S0 Q sc (.code (.region i l.toArray true) :: k) t (n + 1) ⟨tl, hl⟩ = exD P N w0 S0 Q sc k i l n tl hl () (look sc i) := _root_.id rfl
theorem exD_some {i : Nat} {l : List Oper} {B : List Nat} {is : List (Nat × List Nat)} {t : Tg (P, N, w0, S0, Q, sc, k, l, n, tl, hl)} : exD P N w0 S0 Q sc k i l n tl hl t (some (B, is)) = Dn P l B is (ex P N w0 S0 Q sc (.drw l B is :: k) () n ⟨tl, hl⟩) () := _root_.id rfl
def unw (P : Program) (N : Nat) (w0 : World) (S0 : Env) (Q : Exit → St → Prop) (sc : Sch) (k k0 : List Fr) (_ : Tx P N w0 S0 Q sc k) (_ : Tg k0) (i n : Nat) (σ : St) : Prop := Ov (unwind i k) (fun k' => exR P N w0 S0 Q sc n k' σ) (KQ P N w0 S0 Q k0 (.exit i) σ) ()
theorem ex_exit {i : Nat} {t : Tx P N w0 S0 Q sc (.code (.exit i) :: k)} : ex P N w0 S0 Q sc (.code (.exit i) :: k) t (n + 1) ⟨tl, hl⟩ = unw P N w0 S0 Q sc k k () () i n ⟨tl, hl⟩ := _root_.id rfl
theorem unw_blk {i : Nat} {k0 : List Fr} {t : Tx P N w0 S0 Q sc (.blk i :: k)} {u : Tg k0} : unw P N w0 S0 Q sc (.blk i :: k) k0 t u i n σ = ex P N w0 S0 Q sc k () n σ := by simp [unw, unwind, Ov, ex]
theorem unw_ne {i j : Nat} {k0 : List Fr} {t : Tx P N w0 S0 Q sc (.blk j :: k)} {u : Tg k0} (h : (i = j) = False) : unw P N w0 S0 Q sc (.blk j :: k) k0 t u i n σ = unw P N w0 S0 Q sc k k0 () () i n σ := by simp [unw, unwind, h]
theorem unw_code {i : Nat} {c : Code} {k0 : List Fr} {t : Tx P N w0 S0 Q sc (.code c :: k)} {u : Tg k0} : unw P N w0 S0 Q sc (.code c :: k) k0 t u i n σ = unw P N w0 S0 Q sc k k0 () () i n σ := _root_.id rfl
theorem unw_ops {i : Nat} {a b : List Oper} {k0 : List Fr} {t : Tx P N w0 S0 Q sc (.ops a b :: k)} {u : Tg k0} : unw P N w0 S0 Q sc (.ops a b :: k) k0 t u i n σ = unw P N w0 S0 Q sc k k0 () () i n σ := _root_.id rfl
theorem unw_lp {i : Nat} {K : St → Prop} {k0 : List Fr} {t : Tx P N w0 S0 Q sc (.lp K :: k)} {u : Tg k0} : unw P N w0 S0 Q sc (.lp K :: k) k0 t u i n σ = unw P N w0 S0 Q sc k k0 () () i n σ := _root_.id rfl
def Done (R : Av → Prop) (_ : Tg R) (r : Av) : Prop := R r
def Done2 (R : Av → List (Nat × Ow) → Prop) (_ : Tg R) (r : Av) (own : List (Nat × Ow)) : Prop := R r own
def fix1 (P : Program) (σ : St) (r : Av) : Av := frzA P (Av.deep σ.h r) σ.h r
theorem fix1_mk {r : Av} : fix1 P ⟨tl, hl⟩ r = frzA P (Av.deep (look hl) r) (look hl) r := _root_.id rfl
def Fx (R : Av → Prop) (_ : Tg R) (r : Av) : Prop := r.isD = true ∧ R r
theorem Fx_of {R : Av → Prop} {t : Tg R} {r : Av} : Fx R t r = Must r.isD (Done R () r) () := _root_.id rfl
def FinX (P : Program) (rs : List ResultVar) (R : Av → Prop) : Exit → St → Prop
  | .normal, σ | .ret, σ => Ov (resA P σ rs) (fun r => Fx R () (fix1 P σ r)) False ()
  | _, _ => False
theorem FinX_n {rs : List ResultVar} {R : Av → Prop} : FinX P rs R .normal ⟨tl, hl⟩ = Ov (resA P ⟨tl, hl⟩ rs) (fun r => Fx R () (fix1 P ⟨tl, hl⟩ r)) False () := _root_.id rfl
theorem FinX_r {rs : List ResultVar} {R : Av → Prop} : FinX P rs R .ret ⟨tl, hl⟩ = Ov (resA P ⟨tl, hl⟩ rs) (fun r => Fx R () (fix1 P ⟨tl, hl⟩ r)) False () := _root_.id rfl
def FinPX (P : Program) (rs : List ResultVar) (R : Av → List (Nat × Ow) → Prop) : Exit → St → Prop
  | .normal, σ | .ret, σ => Ov (resA P σ rs) (fun r => Done2 R () r (dedupK σ.own)) False ()
  | _, _ => False
theorem FinPX_n {rs : List ResultVar} {R : Av → List (Nat × Ow) → Prop} : FinPX P rs R .normal ⟨tl, hl⟩ = Ov (resA P ⟨tl, hl⟩ rs) (fun r => Done2 R () r (dedupK hl)) False () := _root_.id rfl
theorem FinPX_r {rs : List ResultVar} {R : Av → List (Nat × Ow) → Prop} : FinPX P rs R .ret ⟨tl, hl⟩ = Ov (resA P ⟨tl, hl⟩ rs) (fun r => Done2 R () r (dedupK hl)) False () := _root_.id rfl
theorem finX_ok {rs : List ResultVar} {R : Av → Prop} {e : Exit} (h : FinX P rs R e σ) : FinQ P rs R e σ := by
  have key : Ov (resA P σ rs) (fun r => Fx R () (fix1 P σ r)) False () → Fin P rs R σ := fun h => by
    cases hr : resA P σ rs with
    | none => rw [hr] at h; exact h.elim
    | some r => rw [hr] at h; exact ⟨r, _, hr, h.1, AvLe.refl _, h.2⟩
  cases e <;> first | exact key h | exact h.elim
theorem finPX_ok {rs : List ResultVar} {R : Av → List (Nat × Ow) → Prop} {e : Exit} (h : FinPX P rs R e σ) : FinPQ P rs R e σ := by
  have key : Ov (resA P σ rs) (fun r => Done2 R () r (dedupK σ.own)) False () → FinP P rs R σ := fun h => by
    cases hr : resA P σ rs with
    | none => rw [hr] at h; exact h.elim
    | some r => rw [hr] at h; exact ⟨r, hr, h⟩
  cases e <;> first | exact key h | exact h.elim
theorem eqS_some {x : Av} : eqS (some x) (some x) = True := by simp [eqS]
end
theorem acalls_ex {P : Program} {f : FuncId} {fn : Func} {c : Code} {args : List Av} {R : Av → Prop} {N : Nat} {rs : List ResultVar} (sc : Sch) (hf : P.funcs[f]? = some fn) (hn : (fn.name == "runtime.NumGoroutine") = false) (hb : fn.body = some c) (hN : fn.ntmps = N) (hrs : fn.results = rs.toArray) (hl : args.length ≤ N)
    (h : (∀ x ∈ args, okA P x) → ∀ w0 S0, ex P N w0 S0 (FinX P rs R) sc [.code c] () 100000 ⟨startL 0 args, []⟩) : ACalls P f args R :=
  acalls_of hf hn hb hN hrs hl fun hok w0 S0 => (ex_aw (h hok w0 S0)).mono fun _ _ => finX_ok
theorem aproc_ex {P : Program} {f : FuncId} {fn : Func} {c : Code} {args : List Av} {own : List (Nat × Ow)} {R : Av → List (Nat × Ow) → Prop} {N : Nat} {rs : List ResultVar} (sc : Sch) (hf : P.funcs[f]? = some fn) (hn : (fn.name == "runtime.NumGoroutine") = false) (hb : fn.body = some c) (hN : fn.ntmps = N) (hrs : fn.results = rs.toArray) (hl : args.length ≤ N)
    (h : (∀ x ∈ args, x.isD = true → okA P x) → ∀ w0 S0, ex P N w0 S0 (FinPX P rs R) sc [.code c] () 100000 ⟨startL 0 args, own⟩) : AProc P f args own R :=
  aproc_of hf hn hb hN hrs hl fun hok w0 S0 => (ex_aw (h hok w0 S0)).mono fun _ _ => finPX_ok
end Go.Smd
end
