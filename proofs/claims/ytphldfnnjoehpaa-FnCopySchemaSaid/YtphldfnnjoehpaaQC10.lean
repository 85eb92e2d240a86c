/- Part 10 of the proof: Ag. -/
import Derived.Test.YtphldfnnjoehpaaQC09
import Derived.Deep.LoopGhost
set_option linter.unusedVariables false
section
set_option linter.unusedSimpArgs false
namespace Go.Smd
open Go.RowKit
section
variable (P : Program) (N : Nat) (w0 : World) (S0 : Env)
def AWp (c : Code) (Q : Exit → St → Prop) (σ : St) : Prop := ∀ β a w, Sim P N w0 S0 β σ a w → c.wp P (fun e a' w' => ∃ β' σ', Q e σ' ∧ Sim P N w0 S0 β' σ' a' w') a w
def Weak (σ σ' : St) : Prop := ∀ β a w, Sim P N w0 S0 β σ a w → ∃ β', Sim P N w0 S0 β' σ' a w
end
def thenA (K : St → Prop) (Q : Exit → St → Prop) : Exit → St → Prop
  | .normal, σ => K σ
  | e, σ => Q e σ
def inBlockA (id : Nat) (Q : Exit → St → Prop) : Exit → St → Prop
  | .exit id', σ => if id' = id then Q .normal σ else Q (.exit id') σ
  | e, σ => Q e σ
section
variable {P : Program} {N : Nat} {w0 : World} {S0 : Env} {Q : Exit → St → Prop} {σ : St}
theorem AWp.mono {c : Code} {Q' : Exit → St → Prop} (h : AWp P N w0 S0 c Q σ) (k : ∀ e σ, Q e σ → Q' e σ) : AWp P N w0 S0 c Q' σ :=
  fun β a w s => wp_mono (h β a w s) fun e a w ⟨β', σ', q, s'⟩ => ⟨β', σ', k e σ' q, s'⟩
theorem Weak.refl : Weak P N w0 S0 σ σ := fun β _ _ s => ⟨β, s⟩
theorem Weak.trans {σ1 σ2 : St} (h : Weak P N w0 S0 σ σ1) (k : Weak P N w0 S0 σ1 σ2) : Weak P N w0 S0 σ σ2 := fun β a w s => let ⟨β', s'⟩ := h β a w s; k β' a w s'
theorem aw_seq {x y : Code} (h : ∀ K : St → Prop, (∀ σ, AWp P N w0 S0 y Q σ → K σ) → AWp P N w0 S0 x (thenA K Q) σ) : AWp P N w0 S0 (.seq x y) Q σ := fun β a w s => by
  refine wp_seq (wp_mono (h _ (fun _ h => h) β a w s) ?_)
  rintro e a' w' ⟨β', σ', q, s'⟩
  cases e with
  | normal => exact q β' a' w' s'
  | _ => exact ⟨β', σ', q, s'⟩
theorem aw_cond {c : Operand} {x y : Code} {t : Bool} (hc : σ.ev c = .c (.d (.v (.bool t)))) (ht : t = true → AWp P N w0 S0 x Q σ) (hf : t = false → AWp P N w0 S0 y Q σ) : AWp P N w0 S0 (.cond c x y) Q σ := fun β a w s => by
  have hr := s.ev c
  rw [hc] at hr
  refine wp_cond_split (rep_v hr).1 (fun e => ht e β a w s) fun e => hf e β a w s
theorem aw_skip (h : Q .normal σ) : AWp P N w0 S0 .skip Q σ := fun β _ _ s => wp_skip ⟨β, σ, h, s⟩
theorem aw_label {l : Nat} (h : Q .normal σ) : AWp P N w0 S0 (.label l) Q σ := fun β _ _ s => wp_label ⟨β, σ, h, s⟩
theorem aw_exit {id : Nat} (h : Q (.exit id) σ) : AWp P N w0 S0 (.exit id) Q σ := fun β _ _ s => wp_exit ⟨β, σ, h, s⟩
theorem aw_ret (h : Q .ret σ) : AWp P N w0 S0 .ret Q σ := fun β _ _ s => wp_ret ⟨β, σ, h, s⟩
theorem aw_block {id : Nat} {c : Code} (h : AWp P N w0 S0 c (inBlockA id Q) σ) : AWp P N w0 S0 (.block id c) Q σ := fun β a w s => by
  refine wp_block (wp_mono (h β a w s) ?_)
  rintro e a' w' ⟨β', σ', q, s'⟩
  cases e with
  | exit id' =>
    simp only [Exit.inBlock]
    simp only [inBlockA] at q
    split
    · next h => rw [if_pos h] at q; exact ⟨β', σ', q, s'⟩
    · next h => rw [if_neg h] at q; exact ⟨β', σ', q, s'⟩
  | _ => exact ⟨β', σ', q, s'⟩
theorem aw_region {id : Nat} {l : List Oper} (h : opsA P N l.toArray l σ (Q .normal)) : AWp P N w0 S0 (.region id l.toArray false) Q σ := fun β a w s =>
  wp_region_lit (opsA_run (fun β σ a w k s => ⟨β, σ, k, s⟩) _ β σ a w h s)
theorem aw_loop {X : Type} {c : Code} (inv : X → St) (ok : X → Prop) (μ : X → Nat) (x0 : X) (h0 : Weak P N w0 S0 σ (inv x0)) (k0 : ok x0)
    (round : ∀ x, ok x → ∀ K : St → Prop, (∀ σ' x', Weak P N w0 S0 σ' (inv x') → ok x' → μ x' < μ x → K σ') → AWp P N w0 S0 c (thenA K Q) (inv x)) : AWp P N w0 S0 (.loop c) Q σ := fun β a w s => by
  obtain ⟨β0, s0⟩ := h0 β a w s
  refine wp_loop_ghost (fun n a w => ∃ β x, μ x = n ∧ ok x ∧ Sim P N w0 S0 β (inv x) a w) (μ x0) ⟨β0, x0, rfl, k0, s0⟩ ?_
  rintro n a w ⟨β, x, rfl, hx, s⟩
  refine wp_mono (round x hx _ (fun σ' x' h1 h2 h3 => (⟨x', h1, h2, h3⟩ : ∃ x', Weak P N w0 S0 σ' (inv x') ∧ ok x' ∧ μ x' < μ x)) β a w s) ?_
  rintro e a' w' ⟨β', σ', q, s'⟩
  cases e with
  | normal =>
    obtain ⟨x', h1, h2, h3⟩ := q
    obtain ⟨β2, s2⟩ := h1 β' a' w' s'
    exact ⟨μ x', h3, β2, x', rfl, h2, s2⟩
  | _ => exact ⟨β', σ', q, s'⟩
def AvLe (P : Program) (x y : Av) : Prop := ∀ S β h w v, RepA P S β h w x v → RepA P S β h w y v
theorem AvLe.refl (x : Av) : AvLe P x x := fun _ _ _ _ _ h => h
theorem AvLe.any (x : Av) : AvLe P x .any := fun _ _ _ _ _ _ => trivial
theorem AvLe.nil (E : TypeId) : AvLe P (.c (.d (.v (.slice none 0 0)))) (.c (.d (.sl E []))) := fun S β h w v k => by
  obtain ⟨rfl, _⟩ := rep_v k
  exact RepD.nil E
def OwLe (P : Program) (x y : Ow) : Prop := (∀ S β h w v, RepO P S β h w v x → RepO P S β h w v y) ∧ (∀ xs T, x = .cells xs T → ∃ xs' T', y = .cells xs' T') ∧ (∀ v E xs, x = .arr v E xs → ∃ E' xs', y = .arr v E' xs') ∧ (∀ f xs, x = .clo f xs → ∃ f' xs', y = .clo f' xs') ∧ (∀ b ∈ y.fp, b ∈ x.fp)
theorem occ_le {x y : Ow} (h : OwLe P x y) {v : Value} {b : Nat} (k : occ v y b) : occ v x b := k.imp id (h.2.2.2.2 b)
theorem OwLe.refl (x : Ow) : OwLe P x x := ⟨fun _ _ _ _ _ h => h, fun xs T h => ⟨xs, T, h⟩, fun v E xs h => ⟨E, xs, h⟩, fun f xs h => ⟨f, xs, h⟩, fun _ h => h⟩
def ClLe (P : Program) (x y : Cl) : Prop := ∀ S β h w v, RepC P S β h w x v → RepC P S β h w y v
theorem ClLe.refl (x : Cl) : ClLe P x x := fun _ _ _ _ _ h => h
theorem ClLe.nil (E : TypeId) : ClLe P (.d (.v (.slice none 0 0))) (.d (.sl E [])) := fun S β h w v k => AvLe.nil E S β h w v k
theorem OwLe.cells {xs ys : List Cl} {T : TypeId} (h : All2 (ClLe P) xs ys) : OwLe P (.cells xs T) (.cells ys T) :=
  ⟨fun S β hh w v ⟨b, us, h1, h2, h3⟩ => ⟨b, us, h1, h2, All2.of (by rw [← h.length, h3.length]) fun i y u hy hu => by
    obtain ⟨x, hx, hle⟩ := h.at' hy
    obtain ⟨u', hu', hr⟩ := h3.at hx
    rw [hu] at hu'; cases hu'
    exact hle _ _ _ _ _ hr⟩, fun _ _ _ => ⟨_, _, rfl⟩, fun _ _ _ h => (by cases h), fun _ _ h => (by cases h), fun b hb => by simp [Ow.fp] at hb⟩
theorem AvLe.agg {xs ys : List Cl} (h : All2 (ClLe P) xs ys) : AvLe P (.agg xs) (.agg ys) := fun S β hh w v ⟨us, h1, h3⟩ => ⟨us, h1, All2.of (by rw [← h.length, h3.length]) fun i y u hy hu => by
    obtain ⟨x, hx, hle⟩ := h.at' hy
    obtain ⟨u', hu', hr⟩ := h3.at hx
    rw [hu] at hu'; cases hu'
    exact hle _ _ _ _ _ hr⟩
def keys {α : Type} (l : List (Nat × α)) : List Nat := l.map (·.1)
def closedSt (tl : List (Nat × Av)) (hl : List (Nat × Ow)) : Bool := tl.all (fun p => p.2.ids.all fun i => (keys hl).contains i) && hl.all fun p => p.2.ids.all fun i => (keys hl).contains i
theorem look_key {α : Type} : ∀ {l : List (Nat × α)} {n : Nat}, n ∈ keys l → ∃ x, look l n = some x
  | [], _, h => by simp [keys] at h
  | (k, y) :: l, n, h => by
    simp only [look]
    by_cases e : k = n
    · exact ⟨y, by rw [if_pos e]⟩
    · rw [if_neg e]
      exact look_key (by simp only [keys, List.map_cons, List.mem_cons] at h; rcases h with h | h; exact absurd h.symm e; exact h)
theorem Weak.forget {tl : List (Nat × Av)} {hl : List (Nat × Ow)} (ht : ∀ p ∈ tl, AvLe P (σ.tmp p.1) p.2 ∧ (∀ id ∈ p.2.ids, id ∈ (σ.tmp p.1).ids)) (hh : ∀ p ∈ hl, ∃ o, σ.h p.1 = some o ∧ OwLe P o p.2) (hc : closedSt tl hl = true) : Weak P N w0 S0 σ ⟨tl, hl⟩ := by
  intro β a w s
  have hsub : ∀ id o, (St.mk tl hl).h id = some o → ∃ o', σ.h id = some o' ∧ OwLe P o' o := fun id o h => hh _ (look_mem h)
  simp only [closedSt, Bool.and_eq_true, List.all_eq_true] at hc
  have hS : ∀ b, Sd w0 S0 β σ.h w b → Sd w0 S0 β (St.mk tl hl).h w b := fun b hb => ⟨hb.1, hb.2.1, fun id o h hc => by obtain ⟨o', h', hle⟩ := hsub id o h; exact hb.2.2 id o' h' (occ_le hle hc)⟩
  have fix : ∀ {x : Cl} {v : Value}, (∀ id ∈ x.ids, id ∈ keys hl) → RepC P (Sd w0 S0 β σ.h w) β σ.h w x v → RepC P (Sd w0 S0 β (St.mk tl hl).h w) β (St.mk tl hl).h w x v := by
    intro x v hx r
    cases x with
    | d x => exact RepD.mono r hS
    | own id off =>
      obtain ⟨xs, T, b, h1, h2, h3⟩ := r
      obtain ⟨o, ho⟩ := look_key (hx id (by simp [Cl.ids]))
      obtain ⟨o', h4, hle⟩ := hsub id o ho
      rw [h1] at h4; cases h4
      obtain ⟨xs', T', rfl⟩ := hle.2.1 xs T rfl
      exact ⟨xs', T', b, ho, h2, h3⟩
    | gs id n =>
      obtain ⟨ver, E, xs, h1, h2, h3, h4⟩ := r
      obtain ⟨o, ho⟩ := look_key (hx id (by simp [Cl.ids]))
      obtain ⟨o', h5, hle⟩ := hsub id o ho
      rw [h1] at h5; cases h5
      obtain ⟨E', xs', rfl⟩ := hle.2.2.1 ver E xs rfl
      exact ⟨ver, E', xs', ho, h2, h3, h4⟩
    | ga id n sz i =>
      obtain ⟨ver, E, xs, h1, h2, h3, h4⟩ := r
      obtain ⟨o, ho⟩ := look_key (hx id (by simp [Cl.ids]))
      obtain ⟨o', h5, hle⟩ := hsub id o ho
      rw [h1] at h5; cases h5
      obtain ⟨E', xs', rfl⟩ := hle.2.2.1 ver E xs rfl
      exact ⟨ver, E', xs', ho, h2, h3, h4⟩
    | io T id off =>
      obtain ⟨xs, T, b, h1, h2, h3⟩ := r
      obtain ⟨o, ho⟩ := look_key (hx id (by simp [Cl.ids]))
      obtain ⟨o', h4, hle⟩ := hsub id o ho
      rw [h1] at h4; cases h4
      obtain ⟨xs', T', rfl⟩ := hle.2.1 xs T rfl
      exact ⟨xs', T', b, ho, h2, h3⟩
    | fn id =>
      obtain ⟨f, xs, h1, h2, h3⟩ := r
      obtain ⟨o, ho⟩ := look_key (hx id (by simp [Cl.ids]))
      obtain ⟨o', h4, hle⟩ := hsub id o ho
      rw [h1] at h4; cases h4
      obtain ⟨f', xs', rfl⟩ := hle.2.2.2.1 f xs rfl
      exact ⟨f', xs', ho, h2, h3⟩
    | un => exact r
  refine ⟨β, s.ext, s.hK, fun i o0 hi0 => ⟨(s.kept i o0 hi0).1, fun o ho => ?_⟩, fun i j oi oj b hi hj => ?_, fun i o b hi => ?_, fun i o hi => ?_, fun t => ?_, s.sz, s.dfr⟩
  · obtain ⟨o1, h1, hle⟩ := hsub i o ho
    have hk := (s.kept i o0 hi0).2 o1 h1
    cases o1 with
    | cells xs T => obtain ⟨xs', T', rfl⟩ := hle.2.1 xs T rfl; cases o0 <;> first | exact hk | exact hk.elim
    | arr v E xs => obtain ⟨E', xs', rfl⟩ := hle.2.2.1 v E xs rfl; cases o0 <;> first | exact hk | exact hk.elim
    | clo f xs => obtain ⟨f', xs', rfl⟩ := hle.2.2.2.1 f xs rfl; cases o0 <;> first | exact hk | exact hk.elim
  · obtain ⟨o1, h1, l1⟩ := hsub i oi hi; obtain ⟨o2, h2, l2⟩ := hsub j oj hj; exact fun k1 k2 => s.inj i j o1 o2 b h1 h2 (occ_le l1 k1) (occ_le l2 k2)
  · obtain ⟨o1, h1, l1⟩ := hsub i o hi; exact fun k1 => s.new i o1 b h1 (occ_le l1 k1)
  · obtain ⟨o', h1, hle⟩ := hsub i o hi
    have hr := hle.1 _ _ _ _ _ (s.own i o' h1)
    have hmem := hc.2 _ (look_mem hi)
    cases o with
    | cells xs T =>
      obtain ⟨b, us, h3, h4, h5⟩ := hr
      refine ⟨b, us, h3, h4, h5.imp fun x _ hx r => fix (fun id hid => ?_) r⟩
      have := hmem id (List.mem_flatMap.2 ⟨x, hx, hid⟩)
      simpa using this
    | arr ver E xs =>
      obtain ⟨h3, h4, h5⟩ := hr
      exact ⟨h3.frame (framedRDs P) (fun _ _ => rfl) (fun _ _ => rfl) (fun _ h => h) hS, h4, h5⟩
    | clo f xs =>
      obtain ⟨us, h3, h5⟩ := hr
      refine ⟨us, h3.mono hS, h5.imp fun x _ hx r => fix (fun id hid => ?_) r⟩
      have := hmem id (List.mem_flatMap.2 ⟨x, hx, hid⟩)
      simpa using this
  · cases hx : look tl t with
    | none => simp only [St.tmp, hx, Option.getD_none]; trivial
    | some x =>
      have hm := look_mem hx
      have e : (St.mk tl hl).tmp t = x := by simp [St.tmp, hx]
      rw [e]
      have hr := (ht _ hm).1 _ _ _ _ _ (s.tmp t)
      have hk := hc.1 _ hm
      simp only at hr hk
      cases x with
      | c x => exact fix (fun id hid => by have := hk id hid; simpa using this) hr
      | agg xs => obtain ⟨us, hu, ha⟩ := hr; exact ⟨us, hu, ha.imp fun x _ hx r => fix (fun id hid => by have := hk id (List.mem_flatMap.2 ⟨x, hx, hid⟩); simpa using this) r⟩
      | tup xs =>
        obtain ⟨us, hu, ha⟩ := hr
        refine ⟨us, hu, ha.imp fun p _ hp r => ?_⟩
        have hp' : ∀ x ∈ p.2, ∀ id ∈ x.ids, id ∈ keys hl := fun x hx id hid => by
          have := hk id (List.mem_flatMap.2 ⟨p, hp, List.mem_flatMap.2 ⟨x, hx, hid⟩⟩); simpa using this
        unfold RepP at *
        split at r
        · next hb => rw [if_pos hb]; obtain ⟨us, hu, ha⟩ := r; exact ⟨us, hu, ha.imp fun x _ hx r => fix (hp' x hx) r⟩
        · next hb => rw [if_neg hb]; obtain ⟨y, hy, hr⟩ := r; exact ⟨y, hy, fix (hp' y (by rw [hy]; simp)) hr⟩
      | any => trivial
theorem Weak.same {tl : List (Nat × Av)} {hl : List (Nat × Ow)} (ht : ∀ p ∈ tl, σ.tmp p.1 = p.2) (hh : ∀ p ∈ hl, σ.h p.1 = some p.2) (hc : closedSt tl hl = true) : Weak P N w0 S0 σ ⟨tl, hl⟩ :=
  Weak.forget (fun p hp => by rw [ht p hp]; exact ⟨AvLe.refl _, fun _ h => h⟩) (fun p hp => ⟨_, hh p hp, OwLe.refl _⟩) hc
def resOne (P : Program) (σ : St) : ResultVar → Option Av
  | .tmp t => some (σ.tmp t)
  | .cell t T => (loadA P σ.h T (σ.tmp t)).map (argC P T)
def toPart : Av → Option (Bool × List Cl)
  | .c x => some (false, [x])
  | .agg xs => some (true, xs)
  | _ => none
def resAll (P : Program) (σ : St) : List ResultVar → Option (List Av)
  | [] => some []
  | r :: rs => match resOne P σ r, resAll P σ rs with
    | some x, some xs => some (x :: xs)
    | _, _ => none
def toParts : List Av → Option (List (Bool × List Cl))
  | [] => some []
  | x :: xs => match toPart x, toParts xs with
    | some p, some ps => some (p :: ps)
    | _, _ => none
def resA (P : Program) (σ : St) (rs : List ResultVar) : Option Av :=
  match resAll P σ rs with
  | some [x] => some x
  | some xs => (toParts xs).map .tup
  | none => none
def resSem (tmps : Array Value) : ResultVar → Sem Value
  | .tmp t => pure (tmps.getD t undef)
  | .cell b t => do loadVar t (← asAddr (tmps.getD b undef))
theorem results_eq (fn : Func) (tmps : Array Value) : results fn tmps = (do
  let vs ← fn.results.mapM (resSem tmps)
  pure (if h : vs.size = 1 then vs[0] else .tuple vs)) := rfl
theorem resAll_run {β : Nat → Value} {a : Act} {w : World} (s : Sim P N w0 S0 β σ a w) : ∀ {rs : List ResultVar} {xs : List Av}, resAll P σ rs = some xs →
    ∃ us, (rs.mapM (resSem a.tmps)).run P w = .ok us w ∧ All2 (RepA P (Sd w0 S0 β σ.h w) β σ.h w) xs us
  | [], xs, h => by simp only [resAll] at h; cases h; exact ⟨[], by simp, .nil⟩
  | r :: rs, xs, h => by
    simp only [resAll] at h
    split at h
    · next x xs' h1 h2 =>
      cases h
      obtain ⟨us, h3, h4⟩ := resAll_run s h2
      cases r with
      | tmp t =>
        simp only [resOne] at h1; cases h1
        refine ⟨a.tmps.getD t undef :: us, ?_, .cons (s.tmp t) h4⟩
        simp only [List.mapM_cons, resSem, Sem.run_bind, Sem.run_pure, Result.andThen_ok, h3]
      | cell b T =>
        simp only [resOne] at h1
        obtain ⟨x0, h10, rfl⟩ := Option.map_eq_some_iff.1 h1
        obtain ⟨u, h5, h6⟩ := loadA_run s h10 (s.tmp b)
        replace h6 := argC_rep (T := T) h6
        refine ⟨u :: us, ?_, .cons h6 h4⟩
        have hp : ∃ ad, a.tmps.getD b undef = .pointer (some ad) := by
          cases hv : a.tmps.getD b undef with
          | pointer q => cases q with
            | none => rw [hv] at h5; simp [Instr.loadAt, Instr.sureAddr, stuck, Sem.run_bind, Sem.run, Result.andThen] at h5
            | some ad => exact ⟨ad, rfl⟩
          | _ => rw [hv] at h5; simp [Instr.loadAt, Instr.sureAddr, stuck, Sem.run_bind, Sem.run, Result.andThen] at h5
        obtain ⟨ad, hp⟩ := hp
        rw [hp] at h5
        have h7 : (loadVar T ad).run P w = .ok u w := h5
        simp only [List.mapM_cons, resSem, hp, asAddr, Sem.run_bind, Sem.run_pure, Result.andThen_ok, h7, h3]
    · cases h
theorem toPart_rep {S : Nat → Prop} {β : Nat → Value} {h : Nat → Option Ow} {w : World} {x : Av} {p : Bool × List Cl} {v : Value} (hp : toPart x = some p) (r : RepA P S β h w x v) : RepP P S β h w p v := by
  unfold toPart at hp
  split at hp
  · cases hp; exact (show (if (false : Bool) then _ else _) from by rw [if_neg (by decide)]; exact ⟨_, rfl, r⟩)
  · cases hp; exact (show (if (true : Bool) then _ else _) from by rw [if_pos rfl]; exact r)
  · cases hp
theorem toParts_rep {S : Nat → Prop} {β : Nat → Value} {h : Nat → Option Ow} {w : World} : ∀ {xs : List Av} {ps : List (Bool × List Cl)} {us : List Value}, toParts xs = some ps → All2 (RepA P S β h w) xs us → All2 (RepP P S β h w) ps us
  | [], ps, us, hp, r => by simp only [toParts] at hp; cases hp; cases r; exact .nil
  | x :: xs, ps, us, hp, r => by
    simp only [toParts] at hp
    split at hp
    · next p ps' h1 h2 =>
      cases hp
      cases r with
      | cons r t => exact .cons (toPart_rep h1 r) (toParts_rep h2 t)
    · cases hp
theorem resA_run {β : Nat → Value} {a : Act} {w : World} (s : Sim P N w0 S0 β σ a w) {fn : Func} {r : Av} (h : resA P σ fn.results.toList = some r) : ∃ v, (results fn a.tmps).run P w = .ok v w ∧ RepA P (Sd w0 S0 β σ.h w) β σ.h w r v := by
  have key : ∀ xs, resAll P σ fn.results.toList = some xs → ∃ us, All2 (RepA P (Sd w0 S0 β σ.h w) β σ.h w) xs us ∧ (results fn a.tmps).run P w = .ok (if h : us.length = 1 then us[0] else .tuple us.toArray) w := fun xs hx => by
    obtain ⟨us, h1, h2⟩ := resAll_run s hx
    refine ⟨us, h2, ?_⟩
    rw [results_eq, Array.mapM_eq_mapM_toList]
    simp [Sem.run_bind, h1, Result.andThen]
  unfold resA at h
  split at h
  · next x hx =>
    cases h
    obtain ⟨us, h1, h2⟩ := key _ hx
    cases h1 with
    | cons r t => cases t; exact ⟨_, by simpa using h2, r⟩
  · next xs hne hx =>
    obtain ⟨ps, hp, rfl⟩ := Option.map_eq_some_iff.1 h
    obtain ⟨us, h1, h2⟩ := key _ hx
    have hl : us.length ≠ 1 := fun hl => by
      rw [← h1.length] at hl
      match xs, hl with
      | [x], _ => exact hne x rfl
    rw [dif_neg hl] at h2
    exact ⟨_, h2, us, rfl, toParts_rep hp h1⟩
  · cases h
def startL : Nat → List Av → List (Nat × Av)
  | _, [] => []
  | k, x :: xs => (k, x) :: startL (k + 1) xs
def Fin (P : Program) (rs : List ResultVar) (R : Av → Prop) (σ : St) : Prop := ∃ r r', resA P σ rs = some r ∧ (frzA P (Av.deep σ.h r) σ.h r).isD = true ∧ AvLe P (frzA P (Av.deep σ.h r) σ.h r) r' ∧ R r'
def FinQ (P : Program) (rs : List ResultVar) (R : Av → Prop) : Exit → St → Prop
  | .normal, σ | .ret, σ => Fin P rs R σ
  | _, _ => False
def St.start (args : List Av) : St := ⟨startL 0 args, []⟩
theorem look_startL : ∀ (args : List Av) (k t : Nat), look (startL k args) t = if k ≤ t then args[t - k]? else none
  | [], k, t => by simp [startL, look]
  | x :: xs, k, t => by
    rw [startL, look]
    by_cases e : k = t
    · rw [if_pos e, if_pos (by omega), e]; simp
    · rw [if_neg e, look_startL xs (k + 1) t]
      by_cases h : k ≤ t
      · rw [if_pos h, if_pos (by omega)]
        have : t - k = (t - (k + 1)) + 1 := by omega
        rw [this]; simp
      · rw [if_neg h, if_neg (by omega)]
theorem start_tmp (args : List Av) (t : Nat) : (St.start args).tmp t = (args[t]?).getD .any := by
  unfold St.start St.tmp
  simp only
  rw [look_startL]; simp
theorem leaves_idle {fn : Func} {tmps : Array Value} {R : Ending → World → Prop} {w : World} {v : Value} (hv : (results fn tmps).run P w = .ok v w) (hR : R (.returned v) w) : ∀ ds : List Deferred, (∀ d ∈ ds, Idle P d) → Leaves P fn tmps R ds .returning w
  | [], _ => ⟨v, hv, hR⟩
  | d :: ds, h => by
    obtain ⟨fv, cap, f, args, h1, h2⟩ := h d (List.mem_cons_self ..)
    obtain ⟨h3, h4⟩ := h2 w
    refine ⟨fun h => (by cases h), fv, cap, f, args, h1, h3, fun c cs hc => ?_⟩
    obtain ⟨e, u', w', fr, ⟨v', rfl, rfl, rfl⟩, h6⟩ := h4 c cs hc
    exact ⟨_, _, _, fr, leaves_idle hv hR ds fun d hd => h d (List.mem_cons_of_mem _ hd), h6⟩
theorem acalls_of {f : FuncId} {fn : Func} {c : Code} {args : List Av} {R : Av → Prop} {N : Nat} {rs : Array ResultVar} (hf : P.funcs[f]? = some fn) (hn : (fn.name == "runtime.NumGoroutine") = false) (hb : fn.body = some c) (hN : fn.ntmps = N) (hrs : fn.results = rs) (hl : args.length ≤ N)
    (h : (∀ x ∈ args, okA P x) → ∀ w0 S0, AWp P N w0 S0 c (FinQ P rs.toList R) (St.start args)) : ACalls P f args R := by
  subst hN; subst hrs
  refine ⟨⟨fn, hf, hn, by rw [hb]; rfl⟩, fun w S vs hS ha => ?_⟩
  have hok : ∀ x ∈ args, okA P x := fun x hx => by
    obtain ⟨i, hi⟩ := List.getElem?_of_mem hx
    obtain ⟨u, _, hr⟩ := ha.at hi
    exact ⟨_, _, _, hr⟩
  have hlen := ha.length
  refine calls_of_wp_defers hf hb ?_
  have s0 : Sim P fn.ntmps w ⟨S, (· < w.heap.size), noH, noB⟩ noB (St.start args) { tmps := vs.toArray ++ Array.replicate (fn.ntmps - vs.toArray.size) undef, defers := [] } w := by
    refine ⟨KExt.refl _ w, fun _ h => h, fun i o0 h => (by cases h), fun i j oi oj b hi => (by cases hi), fun i o b hi => (by cases hi), fun i o hi => (by cases hi), fun t => ?_, by simp; omega, fun d hd => (by cases hd)⟩
    rw [start_tmp]
    by_cases h : t < args.length
    · rw [List.getElem?_eq_getElem h]
      obtain ⟨u, hu, hr⟩ := ha.at (List.getElem?_eq_getElem h)
      have hlt : t < vs.length := by omega
      have : (vs.toArray ++ Array.replicate (fn.ntmps - vs.toArray.size) undef).getD t undef = u := by
        have hu' : vs[t] = u := by rw [List.getElem?_eq_getElem hlt] at hu; exact Option.some.inj hu
        simp [Array.getElem?_append, hlt, hu']
      rw [this]
      simp only [Option.getD_some]
      refine hr.imp hr.noH fun d u k => k.mono fun b hb => ⟨.inl hb, hS b hb, fun id o h => by cases h⟩
    · rw [List.getElem?_eq_none (by omega)]; trivial
  refine wp_mono (h hok w ⟨S, (· < w.heap.size), noH, noB⟩ noB _ w s0) ?_
  rintro e a' w' ⟨β', σ', hq, s'⟩
  have hq2 : (e = .normal ∨ e = .ret) ∧ Fin P fn.results.toList R σ' := by cases e <;> first | exact ⟨.inl rfl, hq⟩ | exact ⟨.inr rfl, hq⟩ | exact hq.elim
  obtain ⟨he, r0, r, h1, h2, hle, h3⟩ := hq2
  obtain ⟨v, hv, hr0⟩ := resA_run s' h1
  have hr2 := RepA.frz s' hr0 (Av.deep σ'.h r0)
  have hr3 := hle _ _ _ _ _ (hr2.imp (S' := fun b => S b ∨ w.heap.size ≤ b) (β' := noB) (h' := noH) (w' := w') h2 fun d u k => k.mono fun b hb => hb.1.imp id fun h => Nat.le_of_not_lt h)
  have fin := leaves_idle (R := fun e w' => ∃ v' r, e = Ending.returned v' ∧ R r ∧ RepA P (fun b => S b ∨ w.heap.size ≤ b) noB noH w' r v' ∧ Ext w w') hv ⟨v, r, rfl, h3, hr3, s'.ext.toExt fun _ h => h⟩ a'.defers s'.dfr
  rcases he with rfl | rfl <;> exact fin
def FinP (P : Program) (rs : List ResultVar) (R : Av → List (Nat × Ow) → Prop) (σ : St) : Prop := ∃ r, resA P σ rs = some r ∧ R r (dedupK σ.own)
def FinPQ (P : Program) (rs : List ResultVar) (R : Av → List (Nat × Ow) → Prop) : Exit → St → Prop
  | .normal, σ | .ret, σ => FinP P rs R σ
  | _, _ => False
theorem aproc_of {f : FuncId} {fn : Func} {c : Code} {args : List Av} {own : List (Nat × Ow)} {R : Av → List (Nat × Ow) → Prop} {N : Nat} {rs : Array ResultVar} (hf : P.funcs[f]? = some fn) (hn : (fn.name == "runtime.NumGoroutine") = false) (hb : fn.body = some c) (hN : fn.ntmps = N) (hrs : fn.results = rs) (hl : args.length ≤ N)
    (h : (∀ x ∈ args, x.isD = true → okA P x) → ∀ w0 S0, AWp P N w0 S0 c (FinPQ P rs.toList R) ⟨startL 0 args, own⟩) : AProc P f args own R := by
  subst hN; subst hrs
  refine ⟨⟨fn, hf, hn, by rw [hb]; rfl⟩, fun w E β vs s ha => ?_⟩
  have hok : ∀ x ∈ args, x.isD = true → okA P x := fun x hx hd => by
    obtain ⟨i, hi⟩ := List.getElem?_of_mem hx
    obtain ⟨u, _, hr⟩ := ha.at hi
    exact ⟨_, _, _, hr.data hd⟩
  have hlen := ha.length
  refine calls_of_wp_defers hf hb ?_
  have s0 : Sim P fn.ntmps w E β ⟨startL 0 args, own⟩ { tmps := vs.toArray ++ Array.replicate (fn.ntmps - vs.toArray.size) undef, defers := [] } w := by
    refine ⟨s.ext, s.hK, s.kept, s.inj, s.new, s.own, fun t => ?_, by simp; omega, fun d hd => (by cases hd)⟩
    have e : (St.mk (startL 0 args) own).tmp t = (args[t]?).getD .any := start_tmp args t
    rw [e]
    by_cases h : t < args.length
    · rw [List.getElem?_eq_getElem h]
      obtain ⟨u, hu, hr⟩ := ha.at (List.getElem?_eq_getElem h)
      have hlt : t < vs.length := by omega
      have : (vs.toArray ++ Array.replicate (fn.ntmps - vs.toArray.size) undef).getD t undef = u := by
        have hu' : vs[t] = u := by rw [List.getElem?_eq_getElem hlt] at hu; exact Option.some.inj hu
        simp [Array.getElem?_append, hlt, hu']
      rw [this]
      simp only [Option.getD_some]
      exact hr
    · rw [List.getElem?_eq_none (by omega)]; trivial
  refine wp_mono (h hok w E β _ w s0) ?_
  rintro e a' w' ⟨β', σ', hq, s'⟩
  have hq2 : (e = .normal ∨ e = .ret) ∧ FinP P fn.results.toList R σ' := by cases e <;> first | exact ⟨.inl rfl, hq⟩ | exact ⟨.inr rfl, hq⟩ | exact hq.elim
  obtain ⟨he, r, h1, h3⟩ := hq2
  obtain ⟨v, hv, hr0⟩ := resA_run s' h1
  have hh : (St.mk [] (dedupK σ'.own)).h = σ'.h := funext fun i => look_dedup σ'.own i
  have s2 : Sim P 0 w E β' ⟨[], dedupK σ'.own⟩ act0 w' := ⟨s'.ext, s'.hK, by rw [hh]; exact s'.kept, by rw [hh]; exact s'.inj, by rw [hh]; exact s'.new, by rw [hh]; exact s'.own, fun t => trivial, rfl, fun d hd => (by cases hd)⟩
  have fin := leaves_idle (R := fun e w' => ∃ v r β' own', e = Ending.returned v ∧ R r own' ∧ Sim P 0 w E β' ⟨[], own'⟩ act0 w' ∧ RepA P (Sd w E β' (look own') w') β' (look own') w' r v) hv ⟨v, r, β', dedupK σ'.own, rfl, h3, s2, by have e : look (dedupK σ'.own) = σ'.h := hh; rw [e]; exact hr0⟩ a'.defers s'.dfr
  rcases he with rfl | rfl <;> exact fin
end
end Go.Smd
end
