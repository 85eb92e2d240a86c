/- Part 8 of the proof: Ag Aj Region. -/
import Derived.Test.YtannholebjdckaaGreatQS07
import Derived.Deep.LoopGhost
import Derived.Test.YtannholebjdckaaGreatQS01
import Derived.Orders
import Derived.OrdersHeld
import Derived.Deep.Quiet
import Derived.BigQuiet
set_option linter.unusedVariables false
section
set_option linter.unusedSimpArgs false
namespace Go.Smd
open Go.RowKit
section
variable (P : Program) (N : Nat) (w0 : World) (S0 : Env)
def AWp (c : Code) (Q : Exit → St → Prop) (σ : St) : Prop := ∀ β a w, Sim P N w0 S0 β σ a w → c.wp P (fun e a' w' => ∃ β' σ', Q e σ' ∧ Sim P N w0 S0 β' σ' a' w') a w
def Weak (σ σ' : St) : Prop := ∀ β a w, Sim P N w0 S0 β σ a w → ∃ β', Sim P N w0 S0 β' σ' a w
end
def thenA (K : St → Prop) (Q : Exit → St → Prop) : Exit → St → Prop
  | .normal, σ => K σ
  | e, σ => Q e σ
def inBlockA (id : Nat) (Q : Exit → St → Prop) : Exit → St → Prop
  | .exit id', σ => if id' = id then Q .normal σ else Q (.exit id') σ
  | e, σ => Q e σ
section
variable {P : Program} {N : Nat} {w0 : World} {S0 : Env} {Q : Exit → St → Prop} {σ : St}
theorem AWp.mono {c : Code} {Q' : Exit → St → Prop} (h : AWp P N w0 S0 c Q σ) (k : ∀ e σ, Q e σ → Q' e σ) : AWp P N w0 S0 c Q' σ :=
  fun β a w s => wp_mono (h β a w s) fun e a w ⟨β', σ', q, s'⟩ => ⟨β', σ', k e σ' q, s'⟩
theorem Weak.refl : Weak P N w0 S0 σ σ := fun β _ _ s => ⟨β, s⟩
theorem Weak.trans {σ1 σ2 : St} (h : Weak P N w0 S0 σ σ1) (k : Weak P N w0 S0 σ1 σ2) : Weak P N w0 S0 σ σ2 := fun β a w s => let ⟨β', s'⟩ := h β a w s; k β' a w s'
theorem aw_seq {x y : Code} (h : ∀ K : St → Prop, (∀ σ, AWp P N w0 S0 y Q σ → K σ) → AWp P N w0 S0 x (thenA K Q) σ) : AWp P N w0 S0 (.seq x y) Q σ := fun β a w s => by
  refine wp_seq (wp_mono (h _ (fun _ h => h) β a w s) ?_)
  rintro e a' w' ⟨β', σ', q, s'⟩
  cases e with
  | normal => exact q β' a' w' s'
  | _ => exact ⟨β', σ', q, s'⟩
theorem aw_cond {c : Operand} {x y : Code} {t : Bool} (hc : σ.ev c = .c (.d (.v (.bool t)))) (ht : t = true → AWp P N w0 S0 x Q σ) (hf : t = false → AWp P N w0 S0 y Q σ) : AWp P N w0 S0 (.cond c x y) Q σ := fun β a w s => by
  have hr := s.ev c
  rw [hc] at hr
  refine wp_cond_split (rep_v hr).1 (fun e => ht e β a w s) fun e => hf e β a w s
theorem aw_skip (h : Q .normal σ) : AWp P N w0 S0 .skip Q σ := fun β _ _ s => wp_skip ⟨β, σ, h, s⟩
theorem aw_label {l : Nat} (h : Q .normal σ) : AWp P N w0 S0 (.label l) Q σ := fun β _ _ s => wp_label ⟨β, σ, h, s⟩
theorem aw_exit {id : Nat} (h : Q (.exit id) σ) : AWp P N w0 S0 (.exit id) Q σ := fun β _ _ s => wp_exit ⟨β, σ, h, s⟩
theorem aw_ret (h : Q .ret σ) : AWp P N w0 S0 .ret Q σ := fun β _ _ s => wp_ret ⟨β, σ, h, s⟩
theorem aw_block {id : Nat} {c : Code} (h : AWp P N w0 S0 c (inBlockA id Q) σ) : AWp P N w0 S0 (.block id c) Q σ := fun β a w s => by
  refine wp_block (wp_mono (h β a w s) ?_)
  rintro e a' w' ⟨β', σ', q, s'⟩
  cases e with
  | exit id' =>
    simp only [Exit.inBlock]
    simp only [inBlockA] at q
    split
    · next h => rw [if_pos h] at q; exact ⟨β', σ', q, s'⟩
    · next h => rw [if_neg h] at q; exact ⟨β', σ', q, s'⟩
  | _ => exact ⟨β', σ', q, s'⟩
theorem aw_region {id : Nat} {l : List Oper} (h : opsA P N l.toArray l σ (Q .normal)) : AWp P N w0 S0 (.region id l.toArray false) Q σ := fun β a w s =>
  wp_region_lit (opsA_run (fun β σ a w k s => ⟨β, σ, k, s⟩) _ β σ a w h s)
theorem aw_loop {X : Type} {c : Code} (inv : X → St) (ok : X → Prop) (μ : X → Nat) (x0 : X) (h0 : Weak P N w0 S0 σ (inv x0)) (k0 : ok x0)
    (round : ∀ x, ok x → ∀ K : St → Prop, (∀ σ' x', Weak P N w0 S0 σ' (inv x') → ok x' → μ x' < μ x → K σ') → AWp P N w0 S0 c (thenA K Q) (inv x)) : AWp P N w0 S0 (.loop c) Q σ := fun β a w s => by
  obtain ⟨β0, s0⟩ := h0 β a w s
  refine wp_loop_ghost (fun n a w => ∃ β x, μ x = n ∧ ok x ∧ Sim P N w0 S0 β (inv x) a w) (μ x0) ⟨β0, x0, rfl, k0, s0⟩ ?_
  rintro n a w ⟨β, x, rfl, hx, s⟩
  refine wp_mono (round x hx _ (fun σ' x' h1 h2 h3 => (⟨x', h1, h2, h3⟩ : ∃ x', Weak P N w0 S0 σ' (inv x') ∧ ok x' ∧ μ x' < μ x)) β a w s) ?_
  rintro e a' w' ⟨β', σ', q, s'⟩
  cases e with
  | normal =>
    obtain ⟨x', h1, h2, h3⟩ := q
    obtain ⟨β2, s2⟩ := h1 β' a' w' s'
    exact ⟨μ x', h3, β2, x', rfl, h2, s2⟩
  | _ => exact ⟨β', σ', q, s'⟩
def AvLe (P : Program) (x y : Av) : Prop := ∀ S β h w v, RepA P S β h w x v → RepA P S β h w y v
theorem AvLe.refl (x : Av) : AvLe P x x := fun _ _ _ _ _ h => h
theorem AvLe.any (x : Av) : AvLe P x .any := fun _ _ _ _ _ _ => trivial
theorem AvLe.nil (E : TypeId) : AvLe P (.c (.d (.v (.slice none 0 0)))) (.c (.d (.sl E []))) := fun S β h w v k => by
  obtain ⟨rfl, _⟩ := rep_v k
  exact RepD.nil E
def OwLe (P : Program) (x y : Ow) : Prop := (∀ S β h w v, RepO P S β h w v x → RepO P S β h w v y) ∧ (∀ xs T, x = .cells xs T → ∃ xs' T', y = .cells xs' T') ∧ (∀ v E xs, x = .arr v E xs → ∃ E' xs', y = .arr v E' xs') ∧ (∀ f xs, x = .clo f xs → ∃ f' xs', y = .clo f' xs') ∧ (∀ b ∈ y.fp, b ∈ x.fp)
theorem occ_le {x y : Ow} (h : OwLe P x y) {v : Value} {b : Nat} (k : occ v y b) : occ v x b := k.imp id (h.2.2.2.2 b)
theorem OwLe.refl (x : Ow) : OwLe P x x := ⟨fun _ _ _ _ _ h => h, fun xs T h => ⟨xs, T, h⟩, fun v E xs h => ⟨E, xs, h⟩, fun f xs h => ⟨f, xs, h⟩, fun _ h => h⟩
def ClLe (P : Program) (x y : Cl) : Prop := ∀ S β h w v, RepC P S β h w x v → RepC P S β h w y v
theorem ClLe.refl (x : Cl) : ClLe P x x := fun _ _ _ _ _ h => h
theorem ClLe.nil (E : TypeId) : ClLe P (.d (.v (.slice none 0 0))) (.d (.sl E [])) := fun S β h w v k => AvLe.nil E S β h w v k
theorem OwLe.cells {xs ys : List Cl} {T : TypeId} (h : All2 (ClLe P) xs ys) : OwLe P (.cells xs T) (.cells ys T) :=
  ⟨fun S β hh w v ⟨b, us, h1, h2, h3⟩ => ⟨b, us, h1, h2, All2.of (by rw [← h.length, h3.length]) fun i y u hy hu => by
    obtain ⟨x, hx, hle⟩ := h.at' hy
    obtain ⟨u', hu', hr⟩ := h3.at hx
    rw [hu] at hu'; cases hu'
    exact hle _ _ _ _ _ hr⟩, fun _ _ _ => ⟨_, _, rfl⟩, fun _ _ _ h => (by cases h), fun _ _ h => (by cases h), fun b hb => by simp [Ow.fp] at hb⟩
theorem AvLe.agg {xs ys : List Cl} (h : All2 (ClLe P) xs ys) : AvLe P (.agg xs) (.agg ys) := fun S β hh w v ⟨us, h1, h3⟩ => ⟨us, h1, All2.of (by rw [← h.length, h3.length]) fun i y u hy hu => by
    obtain ⟨x, hx, hle⟩ := h.at' hy
    obtain ⟨u', hu', hr⟩ := h3.at hx
    rw [hu] at hu'; cases hu'
    exact hle _ _ _ _ _ hr⟩
def keys {α : Type} (l : List (Nat × α)) : List Nat := l.map (·.1)
def closedSt (tl : List (Nat × Av)) (hl : List (Nat × Ow)) : Bool := tl.all (fun p => p.2.ids.all fun i => (keys hl).contains i) && hl.all fun p => p.2.ids.all fun i => (keys hl).contains i
theorem look_key {α : Type} : ∀ {l : List (Nat × α)} {n : Nat}, n ∈ keys l → ∃ x, look l n = some x
  | [], _, h => by simp [keys] at h
  | (k, y) :: l, n, h => by
    simp only [look]
    by_cases e : k = n
    · exact ⟨y, by rw [if_pos e]⟩
    · rw [if_neg e]
      exact look_key (by simp only [keys, List.map_cons, List.mem_cons] at h; rcases h with h | h; exact absurd h.symm e; exact h)
theorem Weak.forget {tl : List (Nat × Av)} {hl : List (Nat × Ow)} (ht : ∀ p ∈ tl, AvLe P (σ.tmp p.1) p.2 ∧ (∀ id ∈ p.2.ids, id ∈ (σ.tmp p.1).ids)) (hh : ∀ p ∈ hl, ∃ o, σ.h p.1 = some o ∧ OwLe P o p.2) (hc : closedSt tl hl = true) : Weak P N w0 S0 σ ⟨tl, hl⟩ := by
  intro β a w s
  have hsub : ∀ id o, (St.mk tl hl).h id = some o → ∃ o', σ.h id = some o' ∧ OwLe P o' o := fun id o h => hh _ (look_mem h)
  simp only [closedSt, Bool.and_eq_true, List.all_eq_true] at hc
  have hS : ∀ b, Sd w0 S0 β σ.h w b → Sd w0 S0 β (St.mk tl hl).h w b := fun b hb => ⟨hb.1, hb.2.1, fun id o h hc => by obtain ⟨o', h', hle⟩ := hsub id o h; exact hb.2.2 id o' h' (occ_le hle hc)⟩
  have fix : ∀ {x : Cl} {v : Value}, (∀ id ∈ x.ids, id ∈ keys hl) → RepC P (Sd w0 S0 β σ.h w) β σ.h w x v → RepC P (Sd w0 S0 β (St.mk tl hl).h w) β (St.mk tl hl).h w x v := by
    intro x v hx r
    cases x with
    | d x => exact RepD.mono r hS
    | own id off =>
      obtain ⟨xs, T, b, h1, h2, h3⟩ := r
      obtain ⟨o, ho⟩ := look_key (hx id (by simp [Cl.ids]))
      obtain ⟨o', h4, hle⟩ := hsub id o ho
      rw [h1] at h4; cases h4
      obtain ⟨xs', T', rfl⟩ := hle.2.1 xs T rfl
      exact ⟨xs', T', b, ho, h2, h3⟩
    | gs id n =>
      obtain ⟨ver, E, xs, h1, h2, h3, h4⟩ := r
      obtain ⟨o, ho⟩ := look_key (hx id (by simp [Cl.ids]))
      obtain ⟨o', h5, hle⟩ := hsub id o ho
      rw [h1] at h5; cases h5
      obtain ⟨E', xs', rfl⟩ := hle.2.2.1 ver E xs rfl
      exact ⟨ver, E', xs', ho, h2, h3, h4⟩
    | ga id n sz i =>
      obtain ⟨ver, E, xs, h1, h2, h3, h4⟩ := r
      obtain ⟨o, ho⟩ := look_key (hx id (by simp [Cl.ids]))
      obtain ⟨o', h5, hle⟩ := hsub id o ho
      rw [h1] at h5; cases h5
      obtain ⟨E', xs', rfl⟩ := hle.2.2.1 ver E xs rfl
      exact ⟨ver, E', xs', ho, h2, h3, h4⟩
    | io T id off =>
      obtain ⟨xs, T, b, h1, h2, h3⟩ := r
      obtain ⟨o, ho⟩ := look_key (hx id (by simp [Cl.ids]))
      obtain ⟨o', h4, hle⟩ := hsub id o ho
      rw [h1] at h4; cases h4
      obtain ⟨xs', T', rfl⟩ := hle.2.1 xs T rfl
      exact ⟨xs', T', b, ho, h2, h3⟩
    | fn id =>
      obtain ⟨f, xs, h1, h2, h3⟩ := r
      obtain ⟨o, ho⟩ := look_key (hx id (by simp [Cl.ids]))
      obtain ⟨o', h4, hle⟩ := hsub id o ho
      rw [h1] at h4; cases h4
      obtain ⟨f', xs', rfl⟩ := hle.2.2.2.1 f xs rfl
      exact ⟨f', xs', ho, h2, h3⟩
    | un => exact r
  refine ⟨β, s.ext, s.hK, fun i o0 hi0 => ⟨(s.kept i o0 hi0).1, fun o ho => ?_⟩, fun i j oi oj b hi hj => ?_, fun i o b hi => ?_, fun i o hi => ?_, fun t => ?_, s.sz, s.dfr⟩
  · obtain ⟨o1, h1, hle⟩ := hsub i o ho
    have hk := (s.kept i o0 hi0).2 o1 h1
    cases o1 with
    | cells xs T => obtain ⟨xs', T', rfl⟩ := hle.2.1 xs T rfl; cases o0 <;> first | exact hk | exact hk.elim
    | arr v E xs => obtain ⟨E', xs', rfl⟩ := hle.2.2.1 v E xs rfl; cases o0 <;> first | exact hk | exact hk.elim
    | clo f xs => obtain ⟨f', xs', rfl⟩ := hle.2.2.2.1 f xs rfl; cases o0 <;> first | exact hk | exact hk.elim
  · obtain ⟨o1, h1, l1⟩ := hsub i oi hi; obtain ⟨o2, h2, l2⟩ := hsub j oj hj; exact fun k1 k2 => s.inj i j o1 o2 b h1 h2 (occ_le l1 k1) (occ_le l2 k2)
  · obtain ⟨o1, h1, l1⟩ := hsub i o hi; exact fun k1 => s.new i o1 b h1 (occ_le l1 k1)
  · obtain ⟨o', h1, hle⟩ := hsub i o hi
    have hr := hle.1 _ _ _ _ _ (s.own i o' h1)
    have hmem := hc.2 _ (look_mem hi)
    cases o with
    | cells xs T =>
      obtain ⟨b, us, h3, h4, h5⟩ := hr
      refine ⟨b, us, h3, h4, h5.imp fun x _ hx r => fix (fun id hid => ?_) r⟩
      have := hmem id (List.mem_flatMap.2 ⟨x, hx, hid⟩)
      simpa using this
    | arr ver E xs =>
      obtain ⟨h3, h4, h5⟩ := hr
      exact ⟨h3.frame (framedRDs P) (fun _ _ => rfl) (fun _ _ => rfl) (fun _ h => h) hS, h4, h5⟩
    | clo f xs =>
      obtain ⟨us, h3, h5⟩ := hr
      refine ⟨us, h3.mono hS, h5.imp fun x _ hx r => fix (fun id hid => ?_) r⟩
      have := hmem id (List.mem_flatMap.2 ⟨x, hx, hid⟩)
      simpa using this
  · cases hx : look tl t with
    | none => simp only [St.tmp, hx, Option.getD_none]; trivial
    | some x =>
      have hm := look_mem hx
      have e : (St.mk tl hl).tmp t = x := by simp [St.tmp, hx]
      rw [e]
      have hr := (ht _ hm).1 _ _ _ _ _ (s.tmp t)
      have hk := hc.1 _ hm
      simp only at hr hk
      cases x with
      | c x => exact fix (fun id hid => by have := hk id hid; simpa using this) hr
      | agg xs => obtain ⟨us, hu, ha⟩ := hr; exact ⟨us, hu, ha.imp fun x _ hx r => fix (fun id hid => by have := hk id (List.mem_flatMap.2 ⟨x, hx, hid⟩); simpa using this) r⟩
      | tup xs =>
        obtain ⟨us, hu, ha⟩ := hr
        refine ⟨us, hu, ha.imp fun p _ hp r => ?_⟩
        have hp' : ∀ x ∈ p.2, ∀ id ∈ x.ids, id ∈ keys hl := fun x hx id hid => by
          have := hk id (List.mem_flatMap.2 ⟨p, hp, List.mem_flatMap.2 ⟨x, hx, hid⟩⟩); simpa using this
        unfold RepP at *
        split at r
        · next hb => rw [if_pos hb]; obtain ⟨us, hu, ha⟩ := r; exact ⟨us, hu, ha.imp fun x _ hx r => fix (hp' x hx) r⟩
        · next hb => rw [if_neg hb]; obtain ⟨y, hy, hr⟩ := r; exact ⟨y, hy, fix (hp' y (by rw [hy]; simp)) hr⟩
      | any => trivial
theorem Weak.same {tl : List (Nat × Av)} {hl : List (Nat × Ow)} (ht : ∀ p ∈ tl, σ.tmp p.1 = p.2) (hh : ∀ p ∈ hl, σ.h p.1 = some p.2) (hc : closedSt tl hl = true) : Weak P N w0 S0 σ ⟨tl, hl⟩ :=
  Weak.forget (fun p hp => by rw [ht p hp]; exact ⟨AvLe.refl _, fun _ h => h⟩) (fun p hp => ⟨_, hh p hp, OwLe.refl _⟩) hc
def resOne (P : Program) (σ : St) : ResultVar → Option Av
  | .tmp t => some (σ.tmp t)
  | .cell t T => (loadA P σ.h T (σ.tmp t)).map (argC P T)
def toPart : Av → Option (Bool × List Cl)
  | .c x => some (false, [x])
  | .agg xs => some (true, xs)
  | _ => none
def resAll (P : Program) (σ : St) : List ResultVar → Option (List Av)
  | [] => some []
  | r :: rs => match resOne P σ r, resAll P σ rs with
    | some x, some xs => some (x :: xs)
    | _, _ => none
def toParts : List Av → Option (List (Bool × List Cl))
  | [] => some []
  | x :: xs => match toPart x, toParts xs with
    | some p, some ps => some (p :: ps)
    | _, _ => none
def resA (P : Program) (σ : St) (rs : List ResultVar) : Option Av :=
  match resAll P σ rs with
  | some [x] => some x
  | some xs => (toParts xs).map .tup
  | none => none
def resSem (tmps : Array Value) : ResultVar → Sem Value
  | .tmp t => pure (tmps.getD t undef)
  | .cell b t => do loadVar t (← asAddr (tmps.getD b undef))
theorem results_eq (fn : Func) (tmps : Array Value) : results fn tmps = (do
  let vs ← fn.results.mapM (resSem tmps)
  pure (if h : vs.size = 1 then vs[0] else .tuple vs)) := rfl
theorem resAll_run {β : Nat → Value} {a : Act} {w : World} (s : Sim P N w0 S0 β σ a w) : ∀ {rs : List ResultVar} {xs : List Av}, resAll P σ rs = some xs →
    ∃ us, (rs.mapM (resSem a.tmps)).run P w = .ok us w ∧ All2 (RepA P (Sd w0 S0 β σ.h w) β σ.h w) xs us
  | [], xs, h => by simp only [resAll] at h; cases h; exact ⟨[], by simp, .nil⟩
  | r :: rs, xs, h => by
    simp only [resAll] at h
    split at h
    · next x xs' h1 h2 =>
      cases h
      obtain ⟨us, h3, h4⟩ := resAll_run s h2
      cases r with
      | tmp t =>
        simp only [resOne] at h1; cases h1
        refine ⟨a.tmps.getD t undef :: us, ?_, .cons (s.tmp t) h4⟩
        simp only [List.mapM_cons, resSem, Sem.run_bind, Sem.run_pure, Result.andThen_ok, h3]
      | cell b T =>
        simp only [resOne] at h1
        obtain ⟨x0, h10, rfl⟩ := Option.map_eq_some_iff.1 h1
        obtain ⟨u, h5, h6⟩ := loadA_run s h10 (s.tmp b)
        replace h6 := argC_rep (T := T) h6
        refine ⟨u :: us, ?_, .cons h6 h4⟩
        have hp : ∃ ad, a.tmps.getD b undef = .pointer (some ad) := by
          cases hv : a.tmps.getD b undef with
          | pointer q => cases q with
            | none => rw [hv] at h5; simp [Instr.loadAt, Instr.sureAddr, stuck, Sem.run_bind, Sem.run, Result.andThen] at h5
            | some ad => exact ⟨ad, rfl⟩
          | _ => rw [hv] at h5; simp [Instr.loadAt, Instr.sureAddr, stuck, Sem.run_bind, Sem.run, Result.andThen] at h5
        obtain ⟨ad, hp⟩ := hp
        rw [hp] at h5
        have h7 : (loadVar T ad).run P w = .ok u w := h5
        simp only [List.mapM_cons, resSem, hp, asAddr, Sem.run_bind, Sem.run_pure, Result.andThen_ok, h7, h3]
    · cases h
theorem toPart_rep {S : Nat → Prop} {β : Nat → Value} {h : Nat → Option Ow} {w : World} {x : Av} {p : Bool × List Cl} {v : Value} (hp : toPart x = some p) (r : RepA P S β h w x v) : RepP P S β h w p v := by
  unfold toPart at hp
  split at hp
  · cases hp; exact (show (if (false : Bool) then _ else _) from by rw [if_neg (by decide)]; exact ⟨_, rfl, r⟩)
  · cases hp; exact (show (if (true : Bool) then _ else _) from by rw [if_pos rfl]; exact r)
  · cases hp
theorem toParts_rep {S : Nat → Prop} {β : Nat → Value} {h : Nat → Option Ow} {w : World} : ∀ {xs : List Av} {ps : List (Bool × List Cl)} {us : List Value}, toParts xs = some ps → All2 (RepA P S β h w) xs us → All2 (RepP P S β h w) ps us
  | [], ps, us, hp, r => by simp only [toParts] at hp; cases hp; cases r; exact .nil
  | x :: xs, ps, us, hp, r => by
    simp only [toParts] at hp
    split at hp
    · next p ps' h1 h2 =>
      cases hp
      cases r with
      | cons r t => exact .cons (toPart_rep h1 r) (toParts_rep h2 t)
    · cases hp
theorem resA_run {β : Nat → Value} {a : Act} {w : World} (s : Sim P N w0 S0 β σ a w) {fn : Func} {r : Av} (h : resA P σ fn.results.toList = some r) : ∃ v, (results fn a.tmps).run P w = .ok v w ∧ RepA P (Sd w0 S0 β σ.h w) β σ.h w r v := by
  have key : ∀ xs, resAll P σ fn.results.toList = some xs → ∃ us, All2 (RepA P (Sd w0 S0 β σ.h w) β σ.h w) xs us ∧ (results fn a.tmps).run P w = .ok (if h : us.length = 1 then us[0] else .tuple us.toArray) w := fun xs hx => by
    obtain ⟨us, h1, h2⟩ := resAll_run s hx
    refine ⟨us, h2, ?_⟩
    rw [results_eq, Array.mapM_eq_mapM_toList]
    simp [Sem.run_bind, h1, Result.andThen]
  unfold resA at h
  split at h
  · next x hx =>
    cases h
    obtain ⟨us, h1, h2⟩ := key _ hx
    cases h1 with
    | cons r t => cases t; exact ⟨_, by simpa using h2, r⟩
  · next xs hne hx =>
    obtain ⟨ps, hp, rfl⟩ := Option.map_eq_some_iff.1 h
    obtain ⟨us, h1, h2⟩ := key _ hx
    have hl : us.length ≠ 1 := fun hl => by
      rw [← h1.length] at hl
      match xs, hl with
      | [x], _ => exact hne x rfl
    rw [dif_neg hl] at h2
    exact ⟨_, h2, us, rfl, toParts_rep hp h1⟩
  · cases h
def startL : Nat → List Av → List (Nat × Av)
  | _, [] => []
  | k, x :: xs => (k, x) :: startL (k + 1) xs
def Fin (P : Program) (rs : List ResultVar) (R : Av → Prop) (σ : St) : Prop := ∃ r r', resA P σ rs = some r ∧ (frzA P (Av.deep σ.h r) σ.h r).isD = true ∧ AvLe P (frzA P (Av.deep σ.h r) σ.h r) r' ∧ R r'
def FinQ (P : Program) (rs : List ResultVar) (R : Av → Prop) : Exit → St → Prop
  | .normal, σ | .ret, σ => Fin P rs R σ
  | _, _ => False
def St.start (args : List Av) : St := ⟨startL 0 args, []⟩
theorem look_startL : ∀ (args : List Av) (k t : Nat), look (startL k args) t = if k ≤ t then args[t - k]? else none
  | [], k, t => by simp [startL, look]
  | x :: xs, k, t => by
    rw [startL, look]
    by_cases e : k = t
    · rw [if_pos e, if_pos (by omega), e]; simp
    · rw [if_neg e, look_startL xs (k + 1) t]
      by_cases h : k ≤ t
      · rw [if_pos h, if_pos (by omega)]
        have : t - k = (t - (k + 1)) + 1 := by omega
        rw [this]; simp
      · rw [if_neg h, if_neg (by omega)]
theorem start_tmp (args : List Av) (t : Nat) : (St.start args).tmp t = (args[t]?).getD .any := by
  unfold St.start St.tmp
  simp only
  rw [look_startL]; simp
theorem leaves_idle {fn : Func} {tmps : Array Value} {R : Ending → World → Prop} {w : World} {v : Value} (hv : (results fn tmps).run P w = .ok v w) (hR : R (.returned v) w) : ∀ ds : List Deferred, (∀ d ∈ ds, Idle P d) → Leaves P fn tmps R ds .returning w
  | [], _ => ⟨v, hv, hR⟩
  | d :: ds, h => by
    obtain ⟨fv, cap, f, args, h1, h2⟩ := h d (List.mem_cons_self ..)
    obtain ⟨h3, h4⟩ := h2 w
    refine ⟨fun h => (by cases h), fv, cap, f, args, h1, h3, fun c cs hc => ?_⟩
    obtain ⟨e, u', w', fr, ⟨v', rfl, rfl, rfl⟩, h6⟩ := h4 c cs hc
    exact ⟨_, _, _, fr, leaves_idle hv hR ds fun d hd => h d (List.mem_cons_of_mem _ hd), h6⟩
theorem acalls_of {f : FuncId} {fn : Func} {c : Code} {args : List Av} {R : Av → Prop} {N : Nat} {rs : Array ResultVar} (hf : P.funcs[f]? = some fn) (hn : (fn.name == "runtime.NumGoroutine") = false) (hb : fn.body = some c) (hN : fn.ntmps = N) (hrs : fn.results = rs) (hl : args.length ≤ N)
    (h : (∀ x ∈ args, okA P x) → ∀ w0 S0, AWp P N w0 S0 c (FinQ P rs.toList R) (St.start args)) : ACalls P f args R := by
  subst hN; subst hrs
  refine ⟨⟨fn, hf, hn, by rw [hb]; rfl⟩, fun w S vs hS ha => ?_⟩
  have hok : ∀ x ∈ args, okA P x := fun x hx => by
    obtain ⟨i, hi⟩ := List.getElem?_of_mem hx
    obtain ⟨u, _, hr⟩ := ha.at hi
    exact ⟨_, _, _, hr⟩
  have hlen := ha.length
  refine calls_of_wp_defers hf hb ?_
  have s0 : Sim P fn.ntmps w ⟨S, (· < w.heap.size), noH, noB⟩ noB (St.start args) { tmps := vs.toArray ++ Array.replicate (fn.ntmps - vs.toArray.size) undef, defers := [] } w := by
    refine ⟨KExt.refl _ w, fun _ h => h, fun i o0 h => (by cases h), fun i j oi oj b hi => (by cases hi), fun i o b hi => (by cases hi), fun i o hi => (by cases hi), fun t => ?_, by simp; omega, fun d hd => (by cases hd)⟩
    rw [start_tmp]
    by_cases h : t < args.length
    · rw [List.getElem?_eq_getElem h]
      obtain ⟨u, hu, hr⟩ := ha.at (List.getElem?_eq_getElem h)
      have hlt : t < vs.length := by omega
      have : (vs.toArray ++ Array.replicate (fn.ntmps - vs.toArray.size) undef).getD t undef = u := by
        have hu' : vs[t] = u := by rw [List.getElem?_eq_getElem hlt] at hu; exact Option.some.inj hu
        simp [Array.getElem?_append, hlt, hu']
      rw [this]
      simp only [Option.getD_some]
      refine hr.imp hr.noH fun d u k => k.mono fun b hb => ⟨.inl hb, hS b hb, fun id o h => by cases h⟩
    · rw [List.getElem?_eq_none (by omega)]; trivial
  refine wp_mono (h hok w ⟨S, (· < w.heap.size), noH, noB⟩ noB _ w s0) ?_
  rintro e a' w' ⟨β', σ', hq, s'⟩
  have hq2 : (e = .normal ∨ e = .ret) ∧ Fin P fn.results.toList R σ' := by cases e <;> first | exact ⟨.inl rfl, hq⟩ | exact ⟨.inr rfl, hq⟩ | exact hq.elim
  obtain ⟨he, r0, r, h1, h2, hle, h3⟩ := hq2
  obtain ⟨v, hv, hr0⟩ := resA_run s' h1
  have hr2 := RepA.frz s' hr0 (Av.deep σ'.h r0)
  have hr3 := hle _ _ _ _ _ (hr2.imp (S' := fun b => S b ∨ w.heap.size ≤ b) (β' := noB) (h' := noH) (w' := w') h2 fun d u k => k.mono fun b hb => hb.1.imp id fun h => Nat.le_of_not_lt h)
  have fin := leaves_idle (R := fun e w' => ∃ v' r, e = Ending.returned v' ∧ R r ∧ RepA P (fun b => S b ∨ w.heap.size ≤ b) noB noH w' r v' ∧ Ext w w') hv ⟨v, r, rfl, h3, hr3, s'.ext.toExt fun _ h => h⟩ a'.defers s'.dfr
  rcases he with rfl | rfl <;> exact fin
def FinP (P : Program) (rs : List ResultVar) (R : Av → List (Nat × Ow) → Prop) (σ : St) : Prop := ∃ r, resA P σ rs = some r ∧ R r (dedupK σ.own)
def FinPQ (P : Program) (rs : List ResultVar) (R : Av → List (Nat × Ow) → Prop) : Exit → St → Prop
  | .normal, σ | .ret, σ => FinP P rs R σ
  | _, _ => False
theorem aproc_of {f : FuncId} {fn : Func} {c : Code} {args : List Av} {own : List (Nat × Ow)} {R : Av → List (Nat × Ow) → Prop} {N : Nat} {rs : Array ResultVar} (hf : P.funcs[f]? = some fn) (hn : (fn.name == "runtime.NumGoroutine") = false) (hb : fn.body = some c) (hN : fn.ntmps = N) (hrs : fn.results = rs) (hl : args.length ≤ N)
    (h : (∀ x ∈ args, x.isD = true → okA P x) → ∀ w0 S0, AWp P N w0 S0 c (FinPQ P rs.toList R) ⟨startL 0 args, own⟩) : AProc P f args own R := by
  subst hN; subst hrs
  refine ⟨⟨fn, hf, hn, by rw [hb]; rfl⟩, fun w E β vs s ha => ?_⟩
  have hok : ∀ x ∈ args, x.isD = true → okA P x := fun x hx hd => by
    obtain ⟨i, hi⟩ := List.getElem?_of_mem hx
    obtain ⟨u, _, hr⟩ := ha.at hi
    exact ⟨_, _, _, hr.data hd⟩
  have hlen := ha.length
  refine calls_of_wp_defers hf hb ?_
  have s0 : Sim P fn.ntmps w E β ⟨startL 0 args, own⟩ { tmps := vs.toArray ++ Array.replicate (fn.ntmps - vs.toArray.size) undef, defers := [] } w := by
    refine ⟨s.ext, s.hK, s.kept, s.inj, s.new, s.own, fun t => ?_, by simp; omega, fun d hd => (by cases hd)⟩
    have e : (St.mk (startL 0 args) own).tmp t = (args[t]?).getD .any := start_tmp args t
    rw [e]
    by_cases h : t < args.length
    · rw [List.getElem?_eq_getElem h]
      obtain ⟨u, hu, hr⟩ := ha.at (List.getElem?_eq_getElem h)
      have hlt : t < vs.length := by omega
      have : (vs.toArray ++ Array.replicate (fn.ntmps - vs.toArray.size) undef).getD t undef = u := by
        have hu' : vs[t] = u := by rw [List.getElem?_eq_getElem hlt] at hu; exact Option.some.inj hu
        simp [Array.getElem?_append, hlt, hu']
      rw [this]
      simp only [Option.getD_some]
      exact hr
    · rw [List.getElem?_eq_none (by omega)]; trivial
  refine wp_mono (h hok w E β _ w s0) ?_
  rintro e a' w' ⟨β', σ', hq, s'⟩
  have hq2 : (e = .normal ∨ e = .ret) ∧ FinP P fn.results.toList R σ' := by cases e <;> first | exact ⟨.inl rfl, hq⟩ | exact ⟨.inr rfl, hq⟩ | exact hq.elim
  obtain ⟨he, r, h1, h3⟩ := hq2
  obtain ⟨v, hv, hr0⟩ := resA_run s' h1
  have hh : (St.mk [] (dedupK σ'.own)).h = σ'.h := funext fun i => look_dedup σ'.own i
  have s2 : Sim P 0 w E β' ⟨[], dedupK σ'.own⟩ act0 w' := ⟨s'.ext, s'.hK, by rw [hh]; exact s'.kept, by rw [hh]; exact s'.inj, by rw [hh]; exact s'.new, by rw [hh]; exact s'.own, fun t => trivial, rfl, fun d hd => (by cases hd)⟩
  have fin := leaves_idle (R := fun e w' => ∃ v r β' own', e = Ending.returned v ∧ R r own' ∧ Sim P 0 w E β' ⟨[], own'⟩ act0 w' ∧ RepA P (Sd w E β' (look own') w') β' (look own') w' r v) hv ⟨v, r, β', dedupK σ'.own, rfl, h3, s2, by have e : look (dedupK σ'.own) = σ'.h := hh; rw [e]; exact hr0⟩ a'.defers s'.dfr
  rcases he with rfl | rfl <;> exact fin
end
end Go.Smd
end
section
set_option linter.unusedSimpArgs false
namespace Go.Smd
open Go.RowKit
def inK (l : List (Nat × Ow)) : List (Nat × Ow) := mapKV (fun i => i + zed) (Ow.ren fun i => i + zed) (dedupK l)
def mapR : List (Nat × Ow) → List (Nat × Nat)
  | [] => []
  | (k, _) :: l => (k + zed, k) :: mapR l
theorem mapR_eq : ∀ l : List (Nat × Ow), mapR l = l.map fun p => (p.1 + zed, p.1)
  | [] => rfl
  | (k, x) :: l => by rw [mapR, mapR_eq l]; rfl
def inR (l : List (Nat × Ow)) : List (Nat × Nat) := mapR (dedupK l)
def inOk (xs : List Av) (l : List (Nat × Ow)) : Bool := xs.all (fun x => x.ids.all (hasKey l)) && keysO (dedupK l) fun _ x => x.ids.all (hasKey l)
theorem inK_eq (l : List (Nat × Ow)) : inK l = (dedupK l).map fun p => (p.1 + zed, p.2.ren fun i => i + zed) := mapKV_eq _ _ _
theorem inR_eq (l : List (Nat × Ow)) : inR l = (dedupK l).map fun p => (p.1 + zed, p.1) := mapR_eq _
theorem nodup_dedup {α : Type} : ∀ l : List (Nat × α), ((dedupK l).map (·.1)).Nodup
  | [] => List.nodup_nil
  | (k, x) :: l => by
    simp only [dedupK, filK_eq, List.map_cons, List.nodup_cons]
    refine ⟨fun h => ?_, (nodup_dedup l).sublist (List.Sublist.map _ List.filter_sublist)⟩
    obtain ⟨q, hq, e⟩ := List.mem_map.1 h
    simp only [List.mem_filter, Bool.not_eq_true', beq_eq_false_iff_ne] at hq
    exact hq.2 e.symm
theorem key_dedup {α : Type} (l : List (Nat × α)) (i : Nat) : hasKey (dedupK l) i = hasKey l i := by
  cases h : hasKey l i with
  | true => obtain ⟨x, hx⟩ := hasKey_iff.1 h; exact hasKey_iff.2 ⟨x, (look_dedup l i).trans hx⟩
  | false =>
    cases h2 : hasKey (dedupK l) i with
    | false => rfl
    | true => obtain ⟨x, hx⟩ := hasKey_iff.1 h2; rw [look_dedup] at hx; rw [hasKey_iff.2 ⟨x, hx⟩] at h; cases h
theorem key_map {α β : Type} (l : List (Nat × α)) (g : Nat × α → Nat) (f : Nat × α → β) (i : Nat) : hasKey (l.map fun p => (g p, f p)) i = true ↔ ∃ p ∈ l, g p = i := by
  simp [hasKey_eq]
theorem key_mem {α : Type} {l : List (Nat × α)} {i : Nat} : hasKey l i = true ↔ ∃ p ∈ l, p.1 = i := by simp [hasKey_eq]
theorem Cl.ren_ren {f g : Nat → Nat} {x : Cl} (h : ∀ id ∈ x.ids, g (f id) = id) : (x.ren f).ren g = x := by
  cases x <;> simp [Cl.ren, Cl.ids] at h ⊢ <;> exact h
theorem map_ren_ren {f g : Nat → Nat} {xs : List Cl} (h : ∀ id ∈ xs.flatMap Cl.ids, g (f id) = id) : (xs.map (Cl.ren f)).map (Cl.ren g) = xs := by
  rw [List.map_map]
  conv => rhs; rw [← List.map_id xs]
  exact List.map_congr_left fun x hx => Cl.ren_ren fun id hid => h id (List.mem_flatMap.2 ⟨x, hx, hid⟩)
theorem Av.ren_ren {f g : Nat → Nat} {x : Av} (h : ∀ id ∈ x.ids, g (f id) = id) : (x.ren f).ren g = x := by
  cases x with
  | c x => simp only [Av.ren]; rw [Cl.ren_ren h]
  | agg xs => simp only [Av.ren]; rw [map_ren_ren h]
  | tup xs =>
    simp only [Av.ren, List.map_map]
    congr 1
    conv => rhs; rw [← List.map_id xs]
    refine List.map_congr_left fun p hp => ?_
    simp only [Function.comp_apply, id]
    rw [map_ren_ren fun id hid => h id (List.mem_flatMap.2 ⟨p, hp, hid⟩)]
  | any => rfl
theorem Ow.ren_ren {f g : Nat → Nat} {x : Ow} (h : ∀ id ∈ x.ids, g (f id) = id) : (x.ren f).ren g = x := by
  cases x with
  | cells xs T => simp only [Ow.ren]; rw [map_ren_ren h]
  | arr k E xs => rfl
  | clo f xs => simp only [Ow.ren]; rw [map_ren_ren h]
theorem Cl.ids_ren (f : Nat → Nat) (x : Cl) : (x.ren f).ids = x.ids.map f := by cases x <;> rfl
theorem map_ids_ren (f : Nat → Nat) (xs : List Cl) : (xs.map (Cl.ren f)).flatMap Cl.ids = (xs.flatMap Cl.ids).map f := by
  induction xs with
  | nil => rfl
  | cons x xs ih => simp only [List.map_cons, List.flatMap_cons, ih, Cl.ids_ren, List.map_append]
theorem Av.ids_ren (f : Nat → Nat) (x : Av) : (x.ren f).ids = x.ids.map f := by
  cases x with
  | c x => exact Cl.ids_ren f x
  | agg xs => exact map_ids_ren f xs
  | tup xs =>
    simp only [Av.ren, Av.ids]
    induction xs with
    | nil => rfl
    | cons p xs ih => simp only [List.map_cons, List.flatMap_cons, ih, map_ids_ren, List.map_append]
  | any => rfl
theorem Ow.ids_ren (f : Nat → Nat) (x : Ow) : (x.ren f).ids = x.ids.map f := by
  cases x with
  | cells xs T => exact map_ids_ren f xs
  | arr k E xs => rfl
  | clo g xs => exact map_ids_ren f xs
section
variable {P : Program} {N : Nat} {ops : Array Oper} {σ : St} {o : Oper} {os : List Oper} {K : St → Prop}
theorem renI_in (l : List (Nat × Ow)) (t : Nat) {i : Nat} (h : hasKey l i = true) : renI (inR l) t (i + zed) = i := by
  unfold renI
  have : look (inR l) (i + zed) = some i := by
    rw [← key_dedup] at h
    obtain ⟨p, hp, rfl⟩ := key_mem.1 h
    refine look_of_mem (l := inR l) ?_ (p := (p.1 + zed, p.1)) (by rw [inR_eq]; exact List.mem_map.2 ⟨p, hp, rfl⟩)
    have := nodup_dedup l
    rw [inR_eq, List.map_map]
    exact List.pairwise_map.2 ((List.pairwise_map.1 this).imp fun h e => h (by simpa using e))
  rw [this]
variable (P N ops os K σ) in
def BackR (d : Option Tmp) (r : Av) (own' : List (Nat × Ow)) : Prop := backOk σ (inR σ.own) (d.getD 0) own' = true ∧ opsA P N ops os ((σ.back (inR σ.own) (d.getD 0) own').put d ((r.ren (renI (inR σ.own) (d.getD 0))).fix (look (backH σ (inR σ.own) (d.getD 0) own')))) K
theorem vk_i {d : Option Tmp} {f : FuncId} {xs ys args : List Av} {Ts : List TypeId} {own0 : List (Nat × Ow)} {fn : Func} {c : Code} {N' : Nat} {rs : Array ResultVar} (he : o.dst = d) (hw : wstep P σ o = none) (hc : calleeOf P σ o = some (f, xs, Ts)) (hA : argsC P [] σ.h xs Ts = ys) (hok : inOk ys σ.own = true)
    (hY : ys.map (Av.ren fun i => i + zed) = args) (hO : inK σ.own = own0) (hf : P.funcs[f]? = some fn) (hn : (fn.name == "runtime.NumGoroutine") = false) (hb : fn.body = some c) (hN : fn.ntmps = N') (hrs : fn.results = rs) (hl : args.length ≤ N')
    (h : (∀ x ∈ args, x.isD = true → okA P x) → ∀ w0 S0, AWp P N' w0 S0 c (FinPQ P rs.toList (BackR P N ops σ os K d)) ⟨startL 0 args, own0⟩) : VK P N ops σ o os K d none := by
  subst hA; subst hO; subst hY
  simp only [inOk, keysO_eq, Bool.and_eq_true, List.all_eq_true] at hok
  obtain ⟨hok1, hok2⟩ := hok
  have keyO : ∀ i, hasKey (inK σ.own) (i + zed) = hasKey σ.own i := fun i => by
    rw [← key_dedup σ.own]
    cases hq : hasKey (dedupK σ.own) i with
    | true => obtain ⟨p, hp, rfl⟩ := key_mem.1 hq; rw [inK_eq]; exact (key_map _ _ _ _).2 ⟨p, hp, rfl⟩
    | false =>
      cases h2 : hasKey (inK σ.own) (i + zed) with
      | false => rfl
      | true =>
        rw [inK_eq] at h2
        obtain ⟨p, hp, e⟩ := (key_map _ _ _ _).1 h2
        rw [key_mem.2 ⟨p, hp, by omega⟩] at hq; cases hq
  refine vk_p (ρ := inR σ.own) (own0 := inK σ.own) (R := BackR P N ops σ os K d) (args := (argsC P [] σ.h xs Ts).map (Av.ren fun i => i + zed)) (d.getD 0) he hw hc ?_ ?_ ?_ (aproc_of hf hn hb hN hrs hl h) fun r own' h => h
  · rw [List.map_map]
    conv => lhs; rw [← List.map_id (argsC P [] σ.h xs Ts)]
    refine List.map_congr_left fun x hx => ?_
    simp only [Function.comp_apply, id]
    exact (Av.ren_ren fun i hi => renI_in σ.own _ (hok1 x hx i hi)).symm
  · simp only [handOk, keysO_eq, Bool.and_eq_true, List.all_eq_true, decide_eq_true_eq]
    have nodupB_of : ∀ {l : List Nat}, l.Nodup → nodupB l = true := by
      intro l
      induction l with
      | nil => intro _; rfl
      | cons x l ih => intro h; rw [List.nodup_cons] at h; simp only [nodupB, Bool.and_eq_true, Bool.not_eq_true']; exact ⟨by simpa using h.1, ih h.2⟩
    refine ⟨⟨⟨⟨⟨nodupB_of ?_, nodupB_of ?_⟩, ?_⟩, ?_⟩, ?_⟩, ?_⟩
    · rw [inR_eq, List.map_map]
      exact List.pairwise_map.2 ((List.pairwise_map.1 (nodup_dedup σ.own)).imp fun h e => h (by simpa using e))
    · rw [inR_eq, List.map_map]; exact nodup_dedup σ.own
    · intro p hp; rw [inR_eq] at hp; obtain ⟨q, _, rfl⟩ := List.mem_map.1 hp; exact Nat.le_add_left _ _
    · intro p hp
      rw [inK_eq] at hp
      obtain ⟨q, hq, rfl⟩ := List.mem_map.1 hp
      refine ⟨by rw [inR_eq]; exact (key_map _ _ _ _).2 ⟨q, hq, rfl⟩, fun i hi => ?_⟩
      rw [Ow.ids_ren] at hi
      obtain ⟨j, hj, rfl⟩ := List.mem_map.1 hi
      rw [keyO]; exact hok2 q hq j hj
    · intro x hx
      obtain ⟨y, hy, rfl⟩ := List.mem_map.1 hx
      intro i hi
      rw [Av.ids_ren] at hi
      obtain ⟨j, hj, rfl⟩ := List.mem_map.1 hi
      rw [keyO]; exact hok1 y hy j hj
    · intro p hp; rw [inR_eq] at hp; obtain ⟨q, hq, rfl⟩ := List.mem_map.1 hp; rw [inK_eq]; exact (key_map _ _ _ _).2 ⟨q, hq, rfl⟩
  · have key : ∀ l : List (Nat × Ow), (∀ p ∈ l, p ∈ dedupK σ.own) → handed σ.h (renI (inR σ.own) (d.getD 0)) (l.map fun p => (p.1 + zed, p.2.ren fun i => i + zed)) := by
      intro l
      induction l with
      | nil => intro _; trivial
      | cons p l ih =>
        intro hl
        have hp := hl p (List.mem_cons_self ..)
        have hk : hasKey σ.own p.1 = true := by rw [← key_dedup]; exact key_mem.2 ⟨p, hp, rfl⟩
        refine ⟨?_, ih fun q hq => hl q (List.mem_cons_of_mem _ hq)⟩
        show σ.h (renI (inR σ.own) (d.getD 0) (p.1 + zed)) = some _
        rw [renI_in σ.own _ hk, Ow.ren_ren fun i hi => renI_in σ.own _ (hok2 p hp i hi)]
        exact (look_dedup σ.own p.1).symm.trans (look_of_mem (nodup_dedup σ.own) hp)
    rw [inK_eq]; exact key _ fun p hp => hp
theorem invoke_method {w : World} {T : TypeId} {y u : Value} {f : FuncId} {name : String} {fn : Func} (hm : ∀ n, (method (n + 1) T y name).run P w = .ok (f, u) w) (hf : P.funcs[f]? = some fn) (hn : (fn.name == "runtime.NumGoroutine") = false) (hb : fn.body.isSome = true) (us : Array Value) :
    (invoke (.fn (.method name) #[]) (#[.iface T y] ++ us)).run P w = .ok (.enter f (#[u] ++ us)) w := by
  obtain ⟨n, hn1⟩ := made_pos
  have hm' := hm (P.types.size + n)
  have hdep : P.types.size + Made.depth = P.types.size + n + 1 := by omega
  have hext : (#[Value.iface T y] ++ us).extract 1 (#[Value.iface T y] ++ us).size = us := by rw [← Array.toList_inj]; simp [List.take_of_length_le]
  have hget : (#[Value.iface T y] ++ us)[0]? = some (.iface T y) := by simp [Array.getElem?_append]
  simp only [invoke, Sem.run_bind, Sem.run_pure, Result.andThen_ok, hget, hext, callMethod]
  simp only [program, Sem.run_bind, Sem.run, Result.andThen_ok, hdep, hm']
  rw [run_callFunc hf hn hb]
theorem idle_of {T E : TypeId} {f : FuncId} {name : String} {fn : Func} (hm : P.meth T name = some (f, true)) (hp : P.ptrT T = some (some E)) (hf : P.funcs[f]? = some fn) (hn : (fn.name == "runtime.NumGoroutine") = false) (hb : fn.body = some .skip) (hr : fn.results = #[]) (y : Value) (us : Array Value) :
    Idle P { target := .fn (.method name) #[], args := #[.iface T y] ++ us } :=
  ⟨_, _, f, #[y] ++ us, rfl, fun w => ⟨invoke_method (fun n => method_ptr hm hp n y w) hf hn (by rw [hb]; rfl) us,
    (callsD_of_wp (R := fun e w' => ∃ v, e = .returned v ∧ w' = w) hf hb (wp_skip ⟨rfl, .tuple #[], by simp [results, hr], _, rfl, rfl⟩)).mono fun e u' w' ⟨h1, v, h2, h3⟩ => ⟨v, h2, h1, h3⟩⟩⟩
end
end Go.Smd
end
section
namespace Go.Smd
open Go.RowKit
structure Grow (w : World) where
  val : World
  ext : Ext w val
instance (w : World) : Nonempty (Grow w) := ⟨⟨w, Ext.refl w⟩⟩
@[go_sem] theorem Grow.cellq {w : World} (g : Grow w) (a : Addr) (h : (w.cell? a).isSome = true) : g.val.cell? a = w.cell? a := by
  obtain ⟨v, hv⟩ := Option.isSome_iff_exists.1 h
  rw [g.ext.cell hv, hv]
@[go_sem] theorem Grow.heapq {w : World} (g : Grow w) (b : Nat) (h : (w.heap[b]?).isSome = true) : g.val.heap[b]? = w.heap[b]? := by
  obtain ⟨v, hv⟩ := Option.isSome_iff_exists.1 h
  rw [g.ext.heap hv, hv]
def Cls (w : World) : World → Prop := fun w' => ∃ g : Grow w, w' = g.val
@[go_sem] theorem Cls_iff (w w' : World) : Cls w w' = ∃ g : Grow w, w' = g.val := rfl
section
variable {P : Program} {ops : Array Oper} {Q : Exit → Act → World → Prop} {B : List Nat}
def wpAnyE (P : Program) (ops : Array Oper) (B : List Nat) (Q : Exit → Act → World → Prop) : Nat → Array Bool → Act → World → Prop
  | 0, listed, a, w => Region.ready .any ops listed = [] ∧ Q .normal a w
  | n + 1, listed, a, w =>
    (Region.ready .any ops listed = [] → Q .normal a w) ∧
    ∀ i ∈ Region.ready .any ops listed, wpOp P ops Q i (fun a' w' => (B.contains i = false → Ext w w') ∧ wpAnyE P ops B Q n (listed.setIfInBounds i true) a' w') a w
theorem wpAny_of_E : ∀ (n : Nat) (listed : Array Bool) (a : Act) (w : World), wpAnyE P ops B Q n listed a w → wpAny P .any ops Q n listed a w
  | 0, _, _, _, h => h
  | n + 1, _, _, _, h => ⟨h.1, fun i hi => wpOp_mono (fun a' w' k => wpAny_of_E n _ a' w' k.2) (h.2 i hi)⟩
theorem wp_region_E {id : Nat} {a : Act} {w : World} (B : List Nat) (hm : P.follows .mixedOrders = true) (h : wpAnyE P ops B Q ops.size (Array.replicate ops.size false) a w.drew) : (Code.region id ops true).wp P Q a w :=
  wp_region_any hm (wpAny_of_E _ _ _ _ h)
def valueOp : Op → Bool
  | .move _ | .assign _ | .pick .. | .load .. | .nilCheck _ | .binOp .. | .unOp .. | .convert .. | .fieldAddr .. | .field .. | .indexAddr .. | .index .. | .lookup .. | .extract .. | .slice .. | .makeInterface .. | .makeFunc .. | .typeAssert .. | .build .. => true
  | .call { callee := .builtin .len, .. } => true
  | .call { callee := .builtin .min, .. } => true
  | _ => false
theorem run_value_form {s : Sem Value} {w w' : World} {n : Next} (h : ((do let x ← s; pure (Next.value x)) : Sem Next).run P w = .ok n w') : ∃ x, n = .value x := by
  rw [Sem.run_bind] at h
  cases hs : s.run P w with
  | ok x w1 => rw [hs] at h; simp [Result.andThen] at h; exact ⟨x, h.1.symm⟩
  | halt x w1 => rw [hs] at h; simp [Result.andThen] at h
theorem run_halt_form {α : Type} {s : Sem α} {f : α → Sem Next} {w w' : World} {n : Next} (hf : ∀ a w1, (f a).run P w1 = .ok n w' → ∃ x, n = .value x) (h : (s >>= f).run P w = .ok n w') : ∃ x, n = .value x := by
  rw [Sem.run_bind] at h
  cases hs : s.run P w with
  | ok x w1 => rw [hs] at h; exact hf x w1 h
  | halt x w1 => rw [hs] at h; simp [Result.andThen] at h
theorem nilDeref_not {α : Type} {w w' : World} {n : α} (h : (runtimePanic .nilDeref : Sem α).run P w = .ok n w') : False := by
  unfold runtimePanic at h
  simp [program, goPanic, Sem.run] at h
theorem valueOp_form {o : Oper} (ho : valueOp o.op = true) {ρ : Operand → Value} {w w' : World} {n : Next} (h : (execOp ρ o).run P w = .ok n w') : ∃ x, n = .value x := by
  obtain ⟨dst, op, type, pos, after, guard⟩ := o
  cases op <;> simp only [valueOp, Bool.false_eq_true] at ho <;> simp only [execOp] at h
  case move x => simp at h; exact ⟨_, h.1.symm⟩
  case assign x => simp at h; exact ⟨_, h.1.symm⟩
  case pick c a b => exact run_halt_form (fun a w1 h => by simp at h; exact ⟨_, h.1.symm⟩) h
  case nilCheck x =>
    split at h
    · exact (nilDeref_not h).elim
    · exact (nilDeref_not h).elim
    · exact (nilDeref_not h).elim
    · split at h
      · exact (nilDeref_not h).elim
      · exact run_halt_form (fun a w1 h => run_halt_form (fun b w2 h => by
          split at h
          · simp [unsupported, Sem.run] at h
          · simp at h; exact ⟨_, h.1.symm⟩) h) h
      · simp at h; exact ⟨_, h.1.symm⟩
    · simp at h; exact ⟨_, h.1.symm⟩
  case call c =>
    obtain ⟨callee, args, argTypes⟩ := c
    cases callee with
    | builtin b =>
      cases b <;> simp only [Bool.false_eq_true] at ho
      · exact run_value_form (s := Builtin.len_ argTypes type (args.map ρ)) h
      · exact run_value_form (s := Builtin.min_ argTypes type (args.map ρ)) h
    | value f => simp at ho
    | invoke r m => simp at ho
  all_goals exact run_value_form h
theorem Cls.of {w w' : World} (h : Ext w w') : Cls w w' := ⟨⟨w', h⟩, rfl⟩
theorem yieldsIf_of_quiet {o : Oper} {a : Act} {w : World} {v : Value} (hv : valueOp o.op = true) (hw : Region.wanted o (yielded ops a.tmps) = true) (h : ∀ w', Cls w w' → o.quietAt P a (Cls w) w' v) : YieldsIf P ops (Ext w) o v a := by
  refine .inl ⟨hw, fun w' hE => ?_⟩
  have h1 := h w' (Cls.of hE)
  unfold Oper.quietAt at h1
  generalize hr : (execOp a.eval o).run P w' = r at h1
  cases r with
  | ok n w'' =>
    obtain ⟨x, rfl⟩ := valueOp_form hv hr
    simp only [Oper.quietUpon] at h1
    rw [h1.1, h1.2]
  | halt x w'' => simp only [Oper.quietUpon] at h1
def waits (ops : Array Oper) : Nat → Nat → Nat → Bool
  | 0, _, _ => false
  | k + 1, j, i => ((ops[j]?).map fun o => o.after.any fun e => Region.binds .any e && (e.on == i || waits ops k e.on i)).getD false
def Closed (ops : Array Oper) (listed : Array Bool) : Prop := ∀ j o, ops[j]? = some o → listed.getD j false = true → ∀ e ∈ o.after, Region.binds .any e = true → listed.getD e.on false = true
theorem waits_listed {listed : Array Bool} (hc : Closed ops listed) {i : Nat} : ∀ (k j : Nat), waits ops k j i = true → (∀ o, ops[j]? = some o → ∀ e ∈ o.after, Region.binds .any e = true → listed.getD e.on false = true) → listed.getD i false = true
  | 0, _, h, _ => by simp [waits] at h
  | k + 1, j, h, hj => by
    cases ho : ops[j]? with
    | none => simp [waits, ho] at h
    | some o =>
      simp only [waits, ho, Option.map_some, Option.getD_some] at h
      obtain ⟨e, he, hb⟩ := Array.any_eq_true'.1 h
      simp only [Bool.and_eq_true, Bool.or_eq_true, beq_iff_eq] at hb
      have hl := hj o ho e he hb.1
      rcases hb.2 with rfl | hw
      · exact hl
      · exact waits_listed hc k e.on hw fun o' ho' => hc e.on o' ho' hl
theorem Closed.set {listed : Array Bool} (hc : Closed ops listed) {i : Nat} (hi : i ∈ Region.ready .any ops listed) : Closed ops (listed.setIfInBounds i true) := fun j o ho hl e he hb => by
  refine getD_set_true ?_
  by_cases hij : i = j
  · subst hij
    obtain ⟨_, o', ho', hall⟩ := mem_ready.1 hi
    rw [ho] at ho'; cases ho'
    exact hall e he hb
  · rw [getD_set_ne false hij] at hl
    exact hc j o ho hl e he hb
theorem not_both {listed : Array Bool} {i : Nat} (h0 : listed.getD i true = false) (h1 : listed.getD i false = true) : False := by
  rcases Nat.lt_or_ge i listed.size with h | h
  · simp [h] at h0 h1; rw [h0] at h1; cases h1
  · simp [Array.getElem?_eq_none h] at h1
theorem wpAnyE_first {i : Nat} {oi : Oper} {v : Value} (hi : ops[i]? = some oi) (hsel : ∀ (j : Nat) (o : Oper) cs b, ops[j]? = some o → o.op ≠ .select cs b) (hQ : ∀ c a w, Q (.panic c) (a.put oi.dst v) w → Q (.panic c) a w) :
    ∀ (n : Nat) (listed : Array Bool) (a : Act) (w : World),
      (∀ j oj, ops[j]? = some oj → j ≠ i → listed.getD j true = false → (∀ e ∈ oj.after, Region.binds .any e = true → e.on ≠ i) → oi.apart ops oj = true) →
      (∀ j, B.contains j = true → j ≠ i → listed.getD j true = false → waits ops 64 j i = true) → Closed ops listed →
      i ∈ Region.ready .any ops listed → YieldsIf P ops (Ext w) oi v a →
      wpAnyE P ops B Q n (listed.setIfInBounds i true) (a.put oi.dst v) w → wpAnyE P ops B Q (n + 1) listed a w := by
  intro n
  induction n with
  | zero =>
    intro listed a w _ _ _ hr hy H
    refine ⟨fun h => (by rw [h] at hr; cases hr), fun j hj => ?_⟩
    by_cases hji : j = i
    · subst hji; exact hy.wpOp hi (Ext.refl w) ⟨fun _ => Ext.refl w, H⟩
    · have := ready_mono hj hji
      rw [H.1] at this
      cases this
  | succ n ih =>
    intro listed a w hfree hbar hcl hr hy H
    refine ⟨fun h => (by rw [h] at hr; cases hr), fun j hj => ?_⟩
    by_cases hji : j = i
    · subst hji; exact hy.wpOp hi (Ext.refl w) ⟨fun _ => Ext.refl w, H⟩
    · have h1 := H.2 j (ready_mono hj hji)
      obtain ⟨hjun, oj, hoj, hall⟩ := mem_ready.1 hj
      have hnot : ∀ e ∈ oj.after, Region.binds .any e = true → e.on ≠ i := fun e he hb heq => by
        have h1 := hall e he hb
        rw [heq] at h1
        exact not_both (mem_ready.1 hr).1 h1
      have hap := hfree j oj hoj hji hjun hnot
      have hnB : B.contains j = false := by
        cases hc : B.contains j with
        | false => rfl
        | true => exact (not_both (mem_ready.1 hr).1 (waits_listed hcl 64 j (hbar j hc hji hjun) fun o ho => by rw [hoj] at ho; cases ho; exact hall)).elim
      have h2 := wpOp_putIf hoj hap (fun cs b => hsel i oi cs b hi) (fun cs b => hsel j oj cs b hoj) hQ hy h1
      have hfree' : ∀ k ok, ops[k]? = some ok → k ≠ i → (listed.setIfInBounds j true).getD k true = false → (∀ e ∈ ok.after, Region.binds .any e = true → e.on ≠ i) → oi.apart ops ok = true := fun k ok hk hki hun hno => by
        refine hfree k ok hk hki ?_ hno
        by_cases hjk : j = k
        · subst hjk; exact hjun
        · rw [getD_set_ne true hjk] at hun; exact hun
      have hbar' : ∀ k, B.contains k = true → k ≠ i → (listed.setIfInBounds j true).getD k true = false → waits ops 64 k i = true := fun k hk hki hun => by
        refine hbar k hk hki ?_
        by_cases hjk : j = k
        · subst hjk; exact hjun
        · rw [getD_set_ne true hjk] at hun; exact hun
      refine wpOp_mono (fun a' w' h3 => ?_) h2
      have hE := h3.2.1 hnB
      refine ⟨fun _ => hE, ih (listed.setIfInBounds j true) a' w' hfree' hbar' (hcl.set hj) (ready_mono hr (Ne.symm hji)) ?_ ?_⟩
      · rcases h3.1 with ⟨hw, hy'⟩ | hn
        · exact .inl ⟨hw, fun w2 h2 => hy' w2 (hE.trans h2)⟩
        · exact .inr hn
      · rw [Array.setIfInBounds_comm _ _ hji]
        exact h3.2.2
def lst (n : Nat) (done : List Nat) : Array Bool := (Array.range n).map fun i => done.contains i
def takeOk (ops : Array Oper) (B : List Nat) (listed : Array Bool) (i : Nat) : Bool :=
  Region.free .any ops listed i && (Region.ready .any ops listed).contains i && ((ops[i]?).map fun o => valueOp o.op).getD false &&
  B.all fun j => j == i || listed.getD j true || waits ops 64 j i
def takesOk (ops : Array Oper) (B : List Nat) : Array Bool → List Nat → Bool
  | _, [] => true
  | listed, i :: is => takeOk ops B listed i && takesOk ops B (listed.setIfInBounds i true) is
def listedBehind : Array Bool → List Nat → Array Bool
  | listed, [] => listed
  | listed, i :: is => listedBehind (listed.setIfInBounds i true) is
theorem panic_put (hQ : ∀ c (a : Act) t w, Q (.panic c) { a with tmps := t } w → Q (.panic c) a w) (c : List PanicEntry) (a : Act) (d : Option Tmp) (v : Value) (w : World) (h : Q (.panic c) (a.put d v) w) : Q (.panic c) a w := by
  cases d with
  | none => exact h
  | some d => exact hQ c a _ w h
theorem takes_go (hsel : Region.noSelect ops = true) (hQ : ∀ c (a : Act) t w, Q (.panic c) { a with tmps := t } w → Q (.panic c) a w) {w : World} : ∀ (is : List Nat) (n : Nat) (listed : Array Bool) (a : Act) (l : List Oper),
    is.map (ops[·]?) = l.map some → takesOk ops B listed is = true →
    Closed ops listed → wpQuiet P ops (Cls w) (fun a' => wpAnyE P ops B Q n (listedBehind listed is) a' w) l a → wpAnyE P ops B Q (n + is.length) listed a w
  | [], n, listed, a, l, hl, _, _, h => by
    cases l with
    | nil => exact h
    | cons o l => simp at hl
  | i :: is, n, listed, a, l, hl, hok, hcl, h => by
    cases l with
    | nil => simp at hl
    | cons o l =>
      simp only [List.map_cons, List.cons.injEq] at hl
      simp only [takesOk, Bool.and_eq_true] at hok
      obtain ⟨hok, hok'⟩ := hok
      simp only [takeOk, Bool.and_eq_true] at hok
      obtain ⟨⟨⟨hf, hr⟩, hvo⟩, hB⟩ := hok
      have hfree : ∀ j oj, ops[j]? = some oj → j ≠ i → listed.getD j true = false → (∀ e ∈ oj.after, Region.binds .any e = true → e.on ≠ i) → o.apart ops oj = true := fun j oj hj hne hun hno => Region.free_spec hl.1 hf j oj hj hne hun hno
      have hbar : ∀ j, B.contains j = true → j ≠ i → listed.getD j true = false → waits ops 64 j i = true := fun j hc hne hun => by
        have := List.all_eq_true.1 hB j (by simpa using hc)
        simp only [hun, Bool.or_false, Bool.or_eq_true, beq_iff_eq, hne, false_or] at this
        exact this
      have hcl' := hcl.set (i := i) (by simpa using hr)
      simp only [hl.1, Option.map_some, Option.getD_some] at hvo
      show wpAnyE P ops B Q (n + (is.length + 1)) listed a w
      rw [← Nat.add_assoc]
      unfold wpQuiet at h
      split at h
      · next hw =>
        obtain ⟨v, hv, h⟩ := h
        exact wpAnyE_first hl.1 (Region.noSelect_spec hsel) (fun c a w => panic_put hQ c a _ _ w) _ _ _ _ hfree hbar hcl (by simpa using hr) (yieldsIf_of_quiet hvo hw hv) (takes_go hsel hQ is n _ _ l hl.2 hok' hcl' h)
      · next hw =>
        exact wpAnyE_first hl.1 (Region.noSelect_spec hsel) (fun c a w => panic_put hQ c a _ _ w) _ _ _ _ hfree hbar hcl (by simpa using hr) (.inr ⟨by simpa using hw, rfl⟩) (takes_go hsel hQ is n _ _ l hl.2 hok' hcl' h)
def closedB (ops : Array Oper) (listed : Array Bool) : Bool := (List.range ops.size).all fun j => !listed.getD j false || ((ops[j]?).map fun o => o.after.all fun e => !Region.binds .any e || listed.getD e.on false).getD true
theorem closedB_spec {listed : Array Bool} (h : closedB ops listed = true) : Closed ops listed := fun j o ho hl e he hb => by
  have h1 := List.all_eq_true.1 h j (List.mem_range.2 (Array.getElem?_eq_some_iff.1 ho).1)
  simp only [hl, ho, Bool.not_true, Bool.false_or, Option.map_some, Option.getD_some] at h1
  have := Array.all_eq_true_iff_forall_mem.1 h1 e he
  simpa [hb] using this
def qIdx (P : Program) (ops : Array Oper) (C : World → Prop) (K : Act → Prop) : List Nat → Act → Prop
  | [], a => K a
  | i :: is, a => ∃ o, ops[i]? = some o ∧ wpQuiet P ops C (qIdx P ops C K is) [o] a
def nth : List Oper → Nat → Option Oper
  | [], _ => none
  | o :: _, 0 => some o
  | _ :: l, i + 1 => nth l i
theorem nth_eq : ∀ (l : List Oper) (i : Nat), nth l i = l[i]?
  | [], i => by simp [nth]
  | o :: l, 0 => by simp [nth]
  | o :: l, i + 1 => by simp [nth, nth_eq l i]
theorem op_of_nth {i : Nat} {o : Oper} (h : nth ops.toList i = some o) : ops[i]? = some o := by rw [nth_eq] at h; simpa using h
theorem qIdx_step {C : World → Prop} {K : Act → Prop} {i : Nat} {is : List Nat} {a : Act} {o : Oper} (ho : nth ops.toList i = some o) (h : wpQuiet P ops C (qIdx P ops C K is) [o] a) : qIdx P ops C K (i :: is) a := ⟨o, op_of_nth ho, h⟩
theorem qIdx_nil {C : World → Prop} {K : Act → Prop} {a : Act} (h : K a) : qIdx P ops C K [] a := h
theorem qIdx_list {C : World → Prop} {K : Act → Prop} : ∀ (is : List Nat) (a : Act), qIdx P ops C K is a → ∃ l, is.map (ops[·]?) = l.map some ∧ wpQuiet P ops C K l a
  | [], a, h => ⟨[], rfl, h⟩
  | i :: is, a, ⟨o, ho, h⟩ => by
    unfold wpQuiet at h
    split at h
    · next hw =>
      obtain ⟨v, hv, h⟩ := h
      obtain ⟨l, hl, h⟩ := qIdx_list is _ h
      exact ⟨o :: l, by simp [ho, hl], by unfold wpQuiet; rw [if_pos hw]; exact ⟨v, hv, h⟩⟩
    · next hw =>
      obtain ⟨l, hl, h⟩ := qIdx_list is _ h
      exact ⟨o :: l, by simp [ho, hl], by unfold wpQuiet; rw [if_neg hw]; exact h⟩
theorem E_takes {w : World} {m : Nat} {listed listed' : Array Bool} {a : Act} (is : List Nat) (n : Nat) (hsel : Region.noSelect ops = true) (hQ : ∀ c (a : Act) t w, Q (.panic c) { a with tmps := t } w → Q (.panic c) a w)
    (hok : (takesOk ops B listed is && closedB ops listed) = true) (hm : m = n + is.length) (hli : listedBehind listed is = listed')
    (h : qIdx P ops (Cls w) (fun a' => wpAnyE P ops B Q n listed' a' w) is a) : wpAnyE P ops B Q m listed a w := by
  subst hm; subst hli
  simp only [Bool.and_eq_true] at hok
  obtain ⟨l, hl, hq⟩ := qIdx_list is a h
  exact takes_go hsel hQ is n listed a l hl hok.1 (closedB_spec hok.2) hq
theorem wpOp_of_list {i : Nat} {o : Oper} {K : Act → World → Prop} {a : Act} {w : World} (ho : ops[i]? = some o) (h : wpList P ops (Exit.then K Q) [o] a w) : wpOp P ops Q i K a w := by
  unfold wpOp
  simp only [ho]
  unfold wpList at h
  split
  · next hw =>
    rw [if_pos hw] at h
    refine h.imp (fun h => ?_) fun ⟨h1, a', w', h2⟩ => ⟨h1, a', w', h2⟩
    unfold Oper.wp at *
    generalize (execOp a.eval o).run P w = r at *
    cases r with
    | ok nx w1 =>
      cases nx <;> simp only [Oper.upon] at h ⊢ <;> first
        | exact h
        | exact Calls.mono h fun e w'' he => by cases e <;> exact he
        | exact Rows.mono h fun _ _ he => he
    | halt x w1 => cases x <;> simp only [Oper.upon] at h ⊢ <;> exact h
  · next hw => rw [if_neg hw] at h; exact h
theorem E_one {w : World} {n m i : Nat} {o : Oper} {listed listed' : Array Bool} {a : Act} (hr : Region.ready .any ops listed = [i]) (ho' : nth ops.toList i = some o) (hm : m = n + 1) (hli : listed.setIfInBounds i true = listed')
    (h : wpList P ops (Exit.then (fun a' w' => Ext w w' ∧ wpAnyE P ops B Q n listed' a' w') Q) [o] a w) : wpAnyE P ops B Q m listed a w := by
  have ho := op_of_nth ho'
  subst hm; subst hli
  refine ⟨fun h0 => by rw [h0] at hr; simp at hr, fun j hj => ?_⟩
  rw [hr] at hj; simp at hj; subst hj
  exact wpOp_mono (fun _ _ k => ⟨fun _ => k.1, k.2⟩) (wpOp_of_list ho h)
theorem E_bar {w : World} {n m i : Nat} {o : Oper} {listed listed' : Array Bool} {a : Act} (hr : Region.ready .any ops listed = [i]) (hB : B.contains i = true) (ho' : nth ops.toList i = some o) (hm : m = n + 1) (hli : listed.setIfInBounds i true = listed')
    (h : wpList P ops (Exit.then (fun a' w' => wpAnyE P ops B Q n listed' a' w') Q) [o] a w) : wpAnyE P ops B Q m listed a w := by
  have ho := op_of_nth ho'
  subst hm; subst hli
  refine ⟨fun h0 => by rw [h0] at hr; simp at hr, fun j hj => ?_⟩
  rw [hr] at hj; simp at hj; subst hj
  exact wpOp_mono (fun _ _ k => ⟨fun hb => (by rw [hB] at hb; cases hb), k⟩) (wpOp_of_list ho h)
theorem E_end {K : Act → World → Prop} {a : Act} {w : World} (h : K a w) : wpList P ops (Exit.then K Q) [] a w := h
theorem E_done {w : World} {m : Nat} {listed : Array Bool} {a : Act} (hr : Region.ready .any ops listed = []) (h : Q .normal a w) : wpAnyE P ops B Q m listed a w := by
  cases m with
  | zero => exact ⟨hr, h⟩
  | succ n => exact ⟨fun _ => h, fun j hj => by rw [hr] at hj; cases hj⟩
end
end Go.Smd
end
