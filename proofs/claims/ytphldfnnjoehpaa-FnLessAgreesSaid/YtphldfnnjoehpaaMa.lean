/- A call's code by value, reckoned: the steps of a walk as one function that simp works out. Over any program. -/
import Derived.Test.YtphldfnnjoehpaaAj
import Derived.Test.YtphldfnnjoehpaaAh
import Derived.Test.YtphldfnnjoehpaaAi
set_option linter.unusedSimpArgs false
namespace Go.Smd
open Go.RowKit
universe u

/-- What is left to do: code; the rest of a region; of a region whose order is drawn; a block's end; a round's end. -/
inductive Fr where
  | code (c : Code)
  | ops (all l : List Oper)
  | drw (all : List Oper) (B : List Nat) (is : List (Nat × List Nat))
  | blk (id : Nat)
  | lp (K : St → Prop)

/-! ### Choices. What an argument's type speaks of is not visited by simp (-dsimp): so only what is looked at is worked out. -/
abbrev Tg {α : Sort u} (_ : α) : Type := Unit
def Br (b : Bool) (A B : Prop) (_ : Tg (A ∧ B)) : Prop := match b with | true => A | false => B
theorem Br_true {A B : Prop} {t : Tg (A ∧ B)} : Br true A B t = A := _root_.id rfl
theorem Br_false {A B : Prop} {t : Tg (A ∧ B)} : Br false A B t = B := _root_.id rfl
theorem br_i {b : Bool} {A B : Prop} {t : Tg (A ∧ B)} (ht : b = true → A) (hf : b = false → B) : Br b A B t := by
  cases b
  · exact hf rfl
  · exact ht rfl
theorem br_d {p : Prop} {ip : Decidable p} {A B : Prop} {t : Tg (A ∧ B)} (ht : p → A) (hf : ¬ p → B) : Br (decide p) A B t := br_i (fun h => ht (of_decide_eq_true h)) fun h => hf (of_decide_eq_false h)
theorem br_n {b : Bool} {A B : Prop} {t : Tg (A ∧ B)} : Br (!b) A B t = Br b B A () := by cases b <;> rfl
def Ob (b : Option Bool) (A B : Prop) (_ : Tg (A ∧ B)) : Prop := match b with | some b => Br b A B () | none => False
theorem Ob_some {b : Bool} {A B : Prop} {t : Tg (A ∧ B)} : Ob (some b) A B t = Br b A B () := _root_.id rfl
def Ov {α : Type} (v : Option α) (K : α → Prop) (E : Prop) (_ : Tg (K, E)) : Prop := match v with | some x => K x | none => E
theorem Ov_some {α : Type} {x : α} {K : α → Prop} {E : Prop} {t : Tg (K, E)} : Ov (some x) K E t = K x := _root_.id rfl
theorem Ov_none {α : Type} {K : α → Prop} {E : Prop} {t : Tg (K, E)} : Ov none K E t = E := _root_.id rfl
def Tst (v : Av) (A B : Prop) (_ : Tg (A ∧ B)) : Prop := match v with | .c (.d (.v (.bool b))) => Br b A B () | _ => False
theorem Tst_b {b : Bool} {A B : Prop} {t : Tg (A ∧ B)} : Tst (.c (.d (.v (.bool b)))) A B t = Br b A B () := _root_.id rfl
/-- A side that must hold. -/
def Must (b : Bool) (A : Prop) (_ : Tg A) : Prop := b = true ∧ A
theorem Must_true {A : Prop} {t : Tg A} : Must true A t = A := by simp [Must]

section
variable (P : Program) (N : Nat) (w0 : World) (S0 : Env) (Q : Exit → St → Prop)
/-- What must hold where the piece ahead of these ends. -/
def KQ : List Fr → Exit → St → Prop
  | [], e, σ => Q e σ
  | .code c :: k, e, σ => match e with
    | .normal => AWp P N w0 S0 c (KQ k) σ
    | e => KQ k e σ
  | .blk id :: k, e, σ => match e with
    | .exit id' => if id' = id then KQ k .normal σ else KQ k (.exit id') σ
    | e => KQ k e σ
  | .ops all l :: k, e, σ => match e with
    | .normal => opsA P N all.toArray l σ (KQ k .normal)
    | e => KQ k e σ
  | .drw all B is :: k, e, σ => match e with
    | .normal => opsI P N all.toArray B (KQ k .normal) is σ
    | e => KQ k e σ
  | .lp K :: k, e, σ => match e with
    | .normal => K σ
    | e => KQ k e σ
def unwind (id : Nat) : List Fr → Option (List Fr)
  | [] => none
  | .blk i :: k => if id = i then some k else unwind id k
  | _ :: k => unwind id k
/-- A call, or what looks at more than values: it waits. -/
def Nd (σ : St) (o : Oper) (K : St → Prop) (_ : Tg (σ, o, K)) (c : Option (FuncId × List Av × List Nat)) : Prop := c = callOf P σ o → callK P σ o K ∨ extK P σ o K
/-- The same in a region whose order is drawn. -/
def Nw (B : List Nat) (i : Nat) (σ : St) (o : Oper) (K : St → Prop) (_ : Tg (B, i, σ, o, K)) (c : Option (FuncId × List Av × List Nat)) : Prop := c = callOf P σ o → (B.contains i = true ∨ (plainCall o.op = true ∧ callD P σ o)) ∧ callK P σ o K
/-- Closures that are made. -/
def cloA (σ : St) (o : Oper) : Option St := match o.op, o.dst with
  | .makeFunc fn first caps, some d => (funcA σ.h d fn first.isEmpty (caps.toList.map σ.ev)).map fun q => (σ.new q.1 q.2.1).put (some d) q.2.2
  | _, _ => none
def eqS (u v : Option Av) : Prop := ∃ x, u = some x ∧ v = some x
def asX (ops : List Oper) (σ : St) (o : Oper) : List Nat → Prop
  | [] => gaOk ops.toArray σ o = true
  | k :: As => (match nth ops k with
    | some p => (isW p.op && p.guard.isNone && dstOk N p) = true ∧ (match wres P σ p with
      | some q => (isA p.op || plainCall o.op) = true ∨ eqS (vval P σ o) (vval P ((σ.new q.1 q.2.1).put p.dst q.2.2) o)
      | none => False)
    | none => False) ∧ asX ops σ o As
/-- A region whose order is drawn: the schedule is checked by the kernel. -/
def Dn (P : Program) (ops : List Oper) (B : List Nat) (is : List (Nat × List Nat)) (X : Prop) (_ : Tg (ops, B, is, X)) : Prop := (P.follows .mixedOrders = true ∧ drawOk ops.toArray B is = true) ∧ X
abbrev Sch : Type := List (Nat × List Nat × List (Nat × List Nat))
abbrev Tx (_ : Program) (_ : Nat) (_ : World) (_ : Env) (_ : Exit → St → Prop) (_ : Sch) (_ : List Fr) : Type := Unit
/-- The machine. Its first word bounds its steps; where it stops, what is left is told by meaning. -/
def exR (sc : Sch) : Nat → List Fr → St → Prop
  | 0, k, σ => KQ P N w0 S0 Q k .normal σ
  | _ + 1, [], σ => Q .normal σ
  | _ + 1, .lp K :: _, σ => K σ
  | n + 1, .blk _ :: k, σ => exR sc n k σ
  | n + 1, .ops _ [] :: k, σ => exR sc n k σ
  | n + 1, .ops all (o :: l) :: k, σ =>
    Must (dstOk N o) (Ob (guardA all.toArray σ o)
      (Ov (vval P σ o) (fun r => exR sc n (.ops all l :: k) (σ.put o.dst r)) (Ov (wstep P σ o) (fun σ' => exR sc n (.ops all l :: k) σ') (Ov (cloA σ o) (fun σ' => exR sc n (.ops all l :: k) σ')
        (Nd P σ o (fun σ' => exR sc n (.ops all l :: k) σ') () (callOf P σ o)) ()) ()) ())
      (exR sc n (.ops all l :: k) (σ.put o.dst (.tup []))) ()) ()
  | n + 1, .drw _ _ [] :: k, σ => exR sc n k σ
  | n + 1, .drw all B ((i, As) :: is) :: k, σ => Ov (nth all i)
    (fun o => asX P N all σ o As ∧ Must (dstOk N o) (Ob (guardA all.toArray σ o)
      (Ov (vval P σ o) (fun r => exR sc n (.drw all B is :: k) (σ.put o.dst r)) (Ov (wstep P σ o) (fun σ' => exR sc n (.drw all B is :: k) σ')
        (Nw P B i σ o (fun σ' => exR sc n (.drw all B is :: k) σ') () (callOf P σ o)) ()) ())
      (exR sc n (.drw all B is :: k) (σ.put o.dst (.tup []))) ()) ()) False ()
  | n + 1, .code c :: k, σ => match c with
    | .seq x y => exR sc n (.code x :: .code y :: k) σ
    | .skip => exR sc n k σ
    | .label _ => exR sc n k σ
    | .block id c => exR sc n (.code c :: .blk id :: k) σ
    | .exit id => Ov (unwind id k) (fun k' => exR sc n k' σ) (KQ P N w0 S0 Q k (.exit id) σ) ()
    | .ret => Q .ret σ
    | .cond c x y => Tst (σ.ev c) (exR sc n (.code x :: k) σ) (exR sc n (.code y :: k) σ) ()
    | .region id ops false => exR sc n (.ops ops.toList ops.toList :: k) σ
    | .region id ops true => Ov (look sc id) (fun q => Dn P ops.toList q.1 q.2 (exR sc n (.drw ops.toList q.1 q.2 :: k) σ) ()) (KQ P N w0 S0 Q (.code (.region id ops true) :: k) .normal σ) ()
    | c => KQ P N w0 S0 Q (.code c :: k) .normal σ
def ex (P : Program) (N : Nat) (w0 : World) (S0 : Env) (Q : Exit → St → Prop) (sc : Sch) (k : List Fr) (_ : Tx P N w0 S0 Q sc k) (n : Nat) (σ : St) : Prop := exR P N w0 S0 Q sc n k σ
end

section
variable {P : Program} {N : Nat} {w0 : World} {S0 : Env} {Q : Exit → St → Prop} {sc : Sch}
theorem KQ_ret : ∀ (k : List Fr) (σ : St), KQ P N w0 S0 Q k .ret σ = Q .ret σ
  | [], σ => rfl
  | .code _ :: k, σ | .blk _ :: k, σ | .ops _ _ :: k, σ | .drw _ _ _ :: k, σ | .lp _ :: k, σ => KQ_ret k σ
theorem KQ_exit {id : Nat} : ∀ {k k' : List Fr}, unwind id k = some k' → ∀ σ, KQ P N w0 S0 Q k' .normal σ → KQ P N w0 S0 Q k (.exit id) σ
  | [], k', h => by cases h
  | .code _ :: k, k', h | .ops _ _ :: k, k', h | .drw _ _ _ :: k, k', h | .lp _ :: k, k', h => fun σ q => KQ_exit (k := k) h σ q
  | .blk i :: k, k', h => fun σ q => by
    simp only [unwind] at h
    simp only [KQ]
    by_cases e : id = i
    · rw [if_pos e] at h ⊢; cases h; exact q
    · rw [if_neg e] at h ⊢; exact KQ_exit h σ q
theorem callK_mono {σ : St} {o : Oper} {K K' : St → Prop} (hK : ∀ σ, K σ → K' σ) (h : callK P σ o K) : callK P σ o K' := by
  unfold callK at *
  split at h
  · obtain ⟨h1, R, h2, h3⟩ := h; exact ⟨h1, R, h2, fun r hr ho => hK _ (h3 r hr ho)⟩
  · exact h
theorem extK_mono {σ : St} {o : Oper} {K K' : St → Prop} (hK : ∀ σ, K σ → K' σ) (h : extK P σ o K) : extK P σ o K' := by
  cases h with
  | range ho hd hx hT hnd hz h => exact .range ho hd hx hT hnd hz (hK _ h)
  | next ho hx hid h0 h1 => exact .next ho hx hid (fun e => hK _ (h0 e)) fun k hk hs => hK _ (h1 k hk hs)
  | entry ho hx hid h => exact .entry ho hx hid (hK _ h)
  | clo ho hd hq h => exact .clo ho hd hq (hK _ h)
  | lend hc ha hR hp h => exact .lend hc ha hR hp fun r hr ho => hK _ (h r hr ho)
  | proc hc hx ho hh hR h => exact .proc hc hx ho hh hR fun r own' hr => ⟨(h r own' hr).1, hK _ (h r own' hr).2⟩
  | defer ho hx hd h => exact .defer ho hx hd (hK _ h)
theorem asX_ok {ops : List Oper} {σ : St} {o : Oper} : ∀ {As : List Nat}, asX P N ops σ o As → asOk P N ops.toArray σ o As
  | [], h => h
  | k :: As, ⟨h, ht⟩ => by
    refine ⟨?_, asX_ok ht⟩
    cases hp : nth ops k with
    | none => simp only [hp] at h
    | some p =>
      simp only [hp] at h
      obtain ⟨h1, h2⟩ := h
      simp only [Bool.and_eq_true, Option.isNone_iff_eq_none] at h1
      cases hq : wres P σ p with
      | none => simp only [hq] at h2
      | some q =>
        simp only [hq] at h2
        refine ⟨p, q, rfl, h1.1.1, h1.1.2, h1.2, hq, ?_⟩
        rcases h2 with h2 | ⟨u, h3, h4⟩
        · rcases (Bool.or_eq_true ..).mp h2 with h | h
          · exact .inl h
          · exact .inr (.inl h)
        · exact .inr (.inr ⟨u, h3, h4⟩)
theorem Br_iff {b : Bool} {A B : Prop} {t : Tg (A ∧ B)} (h : Br b A B t) : (b = true → A) ∧ (b = false → B) := by cases b <;> simpa [Br] using h
theorem ex_run : ∀ (n : Nat) (k : List Fr) (σ : St), exR P N w0 S0 Q sc n k σ → KQ P N w0 S0 Q k .normal σ
  | 0, _, _, h => h
  | n + 1, [], σ, h => h
  | n + 1, .lp K :: k, σ, h => h
  | n + 1, .blk _ :: k, σ, h => ex_run n k σ h
  | n + 1, .ops _ [] :: k, σ, h => ex_run n k σ h
  | n + 1, .drw _ _ [] :: k, σ, h => ex_run n k σ h
  | n + 1, .ops all (o :: l) :: k, σ, ⟨hd, h⟩ => by
    show opX P N all.toArray σ o _
    unfold opX
    cases hg : guardA all.toArray σ o with
    | none => rw [hg] at h; exact h.elim
    | some g =>
      rw [hg] at h
      obtain ⟨ht, hf⟩ := Br_iff (t := ()) h
      refine ⟨fun e => ⟨hd, ?_⟩, fun e => ⟨hd, ex_run n _ _ (hf e)⟩⟩
      have h := ht e
      cases hv : vval P σ o with
      | some r => rw [hv] at h; exact ex_run n _ _ h
      | none =>
        rw [hv] at h
        cases hw : wstep P σ o with
        | some σ' => rw [Ov_none, hw] at h; exact ex_run n _ _ h
        | none =>
          rw [Ov_none, hw, Ov_none] at h
          cases hc : cloA σ o with
          | some σ' =>
            rw [hc] at h
            unfold cloA at hc
            split at hc
            · next fn first caps d ho hd =>
              obtain ⟨q, hq, rfl⟩ := Option.map_eq_some_iff.1 hc
              exact .inr (.clo ho hd hq (ex_run n _ _ h))
            · cases hc
          | none =>
            rw [hc] at h
            rcases h rfl with h | h
            · exact .inl (callK_mono (fun σ' => ex_run n _ σ') h)
            · exact .inr (extK_mono (fun σ' => ex_run n _ σ') h)
  | n + 1, .drw all B ((i, As) :: is) :: k, σ, h => by
    show opsI P N all.toArray B _ ((i, As) :: is) σ
    replace h : Ov (nth all i) _ False () := h
    cases ho : nth all i with
    | none => rw [ho] at h; exact h.elim
    | some o =>
      rw [ho] at h
      obtain ⟨hA, hd, h⟩ := h
      refine os_g (o := o) (g := guardA all.toArray σ o) ho (asX_ok hA) rfl ?_
      cases hg : guardA all.toArray σ o with
      | none => rw [hg] at h; exact h.elim
      | some g =>
        rw [hg] at h
        obtain ⟨ht, hf⟩ := Br_iff (t := ()) h
        cases g with
        | false => exact ⟨hd, ex_run n _ _ (hf rfl)⟩
        | true =>
          refine ⟨hd, ?_⟩
          have h := ht rfl
          cases hv : vval P σ o with
          | some r => rw [hv] at h; exact ex_run n _ _ h
          | none =>
            rw [hv] at h
            unfold VS
            cases hw : wstep P σ o with
            | some σ' => rw [Ov_none, hw] at h; exact ex_run n _ _ h
            | none =>
              rw [Ov_none, hw] at h
              exact ⟨(h rfl).1, callK_mono (fun σ' => ex_run n _ σ') (h rfl).2⟩
  | n + 1, .code c :: k, σ, h => by
    show AWp P N w0 S0 c (KQ P N w0 S0 Q k) σ
    cases c with
    | seq x y =>
      refine aw_sq ((ex_run n (.code x :: .code y :: k) σ h : AWp P N w0 S0 x _ σ).mono fun e σ q => ?_)
      cases e <;> exact q
    | skip => exact aw_skip (ex_run n k σ h)
    | label l => exact aw_label (ex_run n k σ h)
    | block id c =>
      refine aw_block ((ex_run n (.code c :: .blk id :: k) σ h : AWp P N w0 S0 c _ σ).mono fun e σ q => ?_)
      cases e with
      | exit id' =>
        simp only [KQ] at q
        simp only [inBlockA]
        by_cases e : id' = id
        · rw [if_pos e] at q ⊢; exact q
        · rw [if_neg e] at q ⊢; exact q
      | _ => exact q
    | exit id =>
      refine aw_exit ?_
      replace h : Ov (unwind id k) _ _ () := h
      cases hu : unwind id k with
      | none => rw [hu] at h; exact h
      | some k' => rw [hu] at h; exact KQ_exit hu σ (ex_run n k' σ h)
    | ret => exact aw_ret (by rw [KQ_ret]; exact h)
    | cond c x y =>
      replace h : Tst (σ.ev c) _ _ () := h
      unfold Tst at h
      split at h
      · next b hb =>
        obtain ⟨ht, hf⟩ := Br_iff (t := ()) h
        exact aw_cond hb (fun e => ex_run n (.code x :: k) σ (ht e)) fun e => ex_run n (.code y :: k) σ (hf e)
      · exact h.elim
    | region id ops draw =>
      cases draw with
      | false =>
        have h' := ex_run n (.ops ops.toList ops.toList :: k) σ h
        exact aw_region (l := ops.toList) h'
      | true =>
        replace h : Ov (look sc id) _ _ () := h
        cases hq : look sc id with
        | none => rw [hq] at h; exact h
        | some q =>
          rw [hq] at h
          obtain ⟨h1, h2⟩ := h
          have h' := ex_run n (.drw ops.toList q.1 q.2 :: k) σ h2
          exact aw_drawn (l := ops.toList) h1.1 q.1 q.2 h1.2 h'
    | _ => exact h
theorem ex_aw {n : Nat} {c : Code} {σ : St} {t : Tx P N w0 S0 Q sc [.code c]} (h : ex P N w0 S0 Q sc [.code c] t n σ) : AWp P N w0 S0 c Q σ := (ex_run n [.code c] σ h : AWp P N w0 S0 c _ σ)
end
end Go.Smd
