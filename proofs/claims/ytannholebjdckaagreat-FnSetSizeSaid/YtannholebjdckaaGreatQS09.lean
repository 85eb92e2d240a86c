/- Part 9 of the proof: Ah. -/
import Derived.Test.YtannholebjdckaaGreatQS08
set_option linter.unusedVariables false
section
set_option linter.unusedSimpArgs false
namespace Go.Smd
open Go.RowKit
def Eqv (σ τ : St) : Prop := (∀ t, σ.tmp t = τ.tmp t) ∧ σ.h = τ.h
def Resp (K : St → Prop) : Prop := ∀ σ τ, Eqv σ τ → K σ → K τ
theorem Eqv.refl (σ : St) : Eqv σ σ := ⟨fun _ => rfl, rfl⟩
theorem Eqv.symm {σ τ : St} (h : Eqv σ τ) : Eqv τ σ := ⟨fun t => (h.1 t).symm, h.2.symm⟩
theorem Eqv.trans {σ τ υ : St} (h : Eqv σ τ) (k : Eqv τ υ) : Eqv σ υ := ⟨fun t => (h.1 t).trans (k.1 t), h.2.trans k.2⟩
theorem Eqv.ev {σ τ : St} (h : Eqv σ τ) : σ.ev = τ.ev := by
  funext x
  cases x with
  | tmp t => exact h.1 t
  | _ => rfl
theorem put_tmp (σ : St) (d : Option Tmp) (x : Av) (t : Nat) : (σ.put d x).tmp t = if d = some t then x else σ.tmp t := by
  cases d with
  | none => simp [St.put]
  | some d => by_cases e : d = t <;> simp [St.put, St.tmp, look, e]
theorem put_h (σ : St) (d : Option Tmp) (x : Av) : (σ.put d x).h = σ.h := by cases d <;> rfl
theorem Eqv.put {σ τ : St} (h : Eqv σ τ) (d : Option Tmp) (x : Av) : Eqv (σ.put d x) (τ.put d x) := ⟨fun t => by rw [put_tmp, put_tmp, h.1 t], by rw [put_h, put_h, h.2]⟩
theorem Eqv.new {σ τ : St} (h : Eqv σ τ) (id : Nat) (o : Ow) : Eqv (σ.new id o) (τ.new id o) := ⟨h.1, by rw [new_h, new_h, h.2]⟩
theorem Eqv.frz {P : Program} {σ τ : St} (h : Eqv σ τ) (F : List Nat) : Eqv (σ.frz P F) (τ.frz P F) := ⟨fun t => by rw [frz_tmp, frz_tmp, h.1 t, h.2], by funext i; rw [frz_h, frz_h, h.2]⟩
theorem Eqv.give {P : Program} {σ τ : St} (h : Eqv σ τ) (F : List Nat) : Eqv (σ.give P F) (τ.give P F) := by
  unfold St.give; split
  · exact h
  · exact h.frz _
theorem Eqv.swap (σ : St) {d e : Option Tmp} (x y : Av) (h : ∀ t, d = some t → e ≠ some t) : Eqv ((σ.put d x).put e y) ((σ.put e y).put d x) := by
  refine ⟨fun t => ?_, by rw [put_h, put_h, put_h, put_h]⟩
  rw [put_tmp, put_tmp, put_tmp, put_tmp]
  by_cases h1 : d = some t
  · simp only [if_pos h1, if_neg (h t h1)]
  · simp only [if_neg h1]
section
variable {P : Program} {N : Nat} {ops : Array Oper}
theorem vval_congr {σ τ : St} {o : Oper} (he : ∀ x ∈ o.op.operands, σ.ev x = τ.ev x) (hh : σ.h = τ.h) : vval P σ o = vval P τ o := by
  obtain ⟨dst, op, type, pos, after, guard⟩ := o
  cases op <;> simp only [Op.operands] at he <;> simp only [vval]
  case build t ps =>
    have : ∀ x ∈ ps.toList, σ.ev x.2 = τ.ev x.2 := fun x hx => he _ (by simp; exact ⟨x.1, by simpa using hx⟩)
    unfold buildA
    rw [List.map_congr_left (g := fun p => (p.1, τ.ev p.2)) fun p hp => by rw [this p hp]]
  case call c =>
    unfold lenCall
    rw [hh]
    have hx : ∀ x ∈ c.args.toList, σ.ev x = τ.ev x := fun x hx => he x (by simp only [Call.operands]; simp [Array.mem_toList_iff.1 hx])
    split
    · rw [List.map_congr_left hx]
    · split
      · next x T h1 hT => rw [hx x (by rw [h1]; simp)]
      · rfl
    · rfl
  case slice t x lo hi mx =>
    cases lo <;> cases hi <;> cases mx <;> simp_all
  all_goals (first | rfl | (simp_all; done))
theorem calleeOf_congr {σ τ : St} {o : Oper} (he : ∀ x ∈ o.op.operands, σ.ev x = τ.ev x) (hh : σ.h = τ.h) : calleeOf P σ o = calleeOf P τ o := by
  obtain ⟨dst, op, type, pos, after, guard⟩ := o
  cases op <;> simp only [Op.operands] at he <;> simp only [calleeOf]
  case call c =>
    obtain ⟨callee, args, tys⟩ := c
    have hm : args.toList.map σ.ev = args.toList.map τ.ev := List.map_congr_left fun x hx => he x (by simp only [Call.operands]; simp [Array.mem_toList_iff.1 hx])
    cases callee with
    | value f =>
      have hf : σ.ev f = τ.ev f := he f (by simp [Call.operands])
      cases f <;> simp only [hm, hh, hf]
    | invoke r n =>
      have hf : σ.ev r = τ.ev r := he r (by simp [Call.operands])
      simp only [hm, hh, hf]
    | builtin b => rfl
theorem callOf_congr {σ τ : St} {o : Oper} (he : ∀ x ∈ o.op.operands, σ.ev x = τ.ev x) (hh : σ.h = τ.h) : callOf P σ o = callOf P τ o := by
  unfold callOf
  rw [calleeOf_congr he hh, hh]
theorem guardA_congr {σ τ : St} {o : Oper} (h : ∀ t ∈ o.looksAt ops, σ.tmp t = τ.tmp t) : guardA ops σ o = guardA ops τ o := by
  unfold guardA
  split
  · rfl
  · next j want hg =>
    split
    · rfl
    · next d hd => rw [h d (by simp [Oper.looksAt, hg, hd])]
theorem ops_looks {o : Oper} {σ τ : St} (h : ∀ t ∈ o.looksAt ops, σ.tmp t = τ.tmp t) : ∀ x ∈ o.op.operands, σ.ev x = τ.ev x := fun x hx => by
  cases x with
  | tmp t => exact h t (List.mem_append_left _ (List.mem_filterMap.2 ⟨.tmp t, by simpa using hx, rfl⟩))
  | _ => rfl
theorem put_looks {σ : St} {o : Oper} {d : Option Tmp} {v : Av} (h : ∀ t, d = some t → t ∉ o.looksAt ops) : ∀ t ∈ o.looksAt ops, (σ.put d v).tmp t = σ.tmp t := fun t ht => by
  rw [put_tmp, if_neg fun e => h t e ht]
theorem wres_congr {σ τ : St} {o : Oper} (he : ∀ x ∈ o.op.operands, σ.ev x = τ.ev x) (hh : σ.h = τ.h) : wres P σ o = wres P τ o := by
  obtain ⟨dst, op, type, pos, after, guard⟩ := o
  cases op <;> simp only [Op.operands] at he <;> cases dst <;> simp only [wres]
  case buildSlice.some t n ps d =>
    have : ∀ x ∈ ps.toList, σ.ev x.2 = τ.ev x.2 := fun x hx => he _ (by simp; exact ⟨x.1, by simpa using hx⟩)
    rw [hh, List.map_congr_left (g := fun p => (p.1, τ.ev p.2)) fun p hp => by rw [this p hp]]
  case call.some c d =>
    have hx : ∀ x ∈ c.args.toList, σ.ev x = τ.ev x := fun x hx => he x (by simp only [Call.operands]; simp [Array.mem_toList_iff.1 hx])
    unfold appCall
    split
    · split
      · next x y T T' h1 h2 => rw [h1] at hx; rw [hh, hx x (by simp), hx y (by simp)]
      · rfl
    · rfl
  all_goals (first | rfl | (simp_all; done))
def isA : Op → Bool
  | .alloc _ | .box .. | .buildSlice .. | .makeSlice .. => true
  | _ => false
def isW : Op → Bool
  | .alloc _ | .box .. | .buildSlice .. | .makeSlice .. | .store .. => true
  | .call c => match c.callee with | .builtin .append => true | _ => false
  | _ => false
def insens : Op → Bool
  | .load .. | .call _ | .lookup .. | .index .. | .indexAddr .. | .convert .. => false
  | op => valueOp op
def isApp : Op → Bool
  | .call c => match c.callee with | .builtin .append => true | _ => false
  | _ => false
def noLen : Op → Bool
  | .call _ | .indexAddr .. => false
  | _ => true
theorem newCells_mono {h h' : Nat → Option Ow} {d : Nat} {cs : List Cl} {T : TypeId} {q : Wres} (hn : h d = none → h' d = none) (k : newCells h d cs T = some q) : newCells h' d cs T = some q := by
  unfold newCells at *
  split at k
  · next h1 => rw [if_pos ⟨by rw [hn (Option.isNone_iff_eq_none.1 h1.1)]; rfl, h1.2⟩]; exact k
  · cases k
theorem newArr_mono {h h' : Nat → Option Ow} {d : Nat} {E : TypeId} {xs : List (List D)} {q : Wres} (hn : h d = none → h' d = none) (k : newArr h d E xs = some q) : newArr h' d E xs = some q := by
  unfold newArr at *
  split at k
  · next h1 => rw [if_pos ⟨by rw [hn (Option.isNone_iff_eq_none.1 h1.1)]; rfl, h1.2⟩]; exact k
  · cases k
theorem litA_mono {h h' : Nat → Option Ow} {d : Nat} {T : TypeId} {n : Nat} {ps : List (Nat × Av)} {q : Wres} (hn : h d = none → h' d = none) (k : litA P h d T n ps = some q) : litA P h' d T n ps = some q := by
  unfold litA at *
  split at k
  · cases k
  · split at k
    · cases k
    · split at k
      · next hc =>
        rw [if_pos hc]
        split at k
        · exact newArr_mono hn k
        · cases k
      · cases k
theorem makeA_mono {h h' : Nat → Option Ow} {d : Nat} {T : TypeId} {x y : Av} {q : Wres} (hn : h d = none → h' d = none) (k : makeA P h d T x y = some q) : makeA P h' d T x y = some q := by
  unfold makeA at *
  split at k
  · split at k
    · next hc => rw [if_pos hc]; exact newArr_mono hn k
    · cases k
  · cases k
theorem rowA_mono {h h' : Nat → Option Ow} {E no : Nat} {y : Av} {ys : List (List D)} (hm : ∀ id x, h id = some x → h' id = some x) (k : rowA h E no y = some ys) : rowA h' E no y = some ys := by
  unfold rowA at *
  split at k
  · exact k
  · exact k
  · split at k
    · next hid => rw [hm _ _ hid]; exact k
    · cases k
  · cases k
theorem baseA_mono {h h' : Nat → Option Ow} {E : Nat} {y : Av} {q : Option (Nat × Nat × List (List D))} (hm : ∀ id x, h id = some x → h' id = some x) (k : baseA h E y = some q) : baseA h' E y = some q := by
  unfold baseA at *
  split at k
  · split at k
    · next hid => rw [hm _ _ hid]; exact k
    · cases k
  · exact k
  · cases k
theorem appA_mono {h h' : Nat → Option Ow} {d T : Nat} {x y : Av} {q : Wres} (hm : ∀ id x, h id = some x → h' id = some x) (hn : h d = none → h' d = none) (k : appA P h d T x y = some q) : appA P h' d T x y = some q := by
  unfold appA at *
  split at k
  · cases k
  · split at k
    · next hE =>
      rw [if_pos hE]
      unfold app1 at *
      split at k
      · next hb =>
        rw [baseA_mono hm hb]
        split at k
        · next hr => simp only [rowA_mono hm hr]; exact k
        · cases k
      · next hb =>
        rw [baseA_mono hm hb]
        split at k
        · next hr =>
          simp only [rowA_mono hm hr]
          split at k
          · next hc => rw [if_pos ⟨by rw [hn (Option.isNone_iff_eq_none.1 hc.1)]; rfl, hc.2.1, hc.2.2⟩]; exact k
          · cases k
        · cases k
      · cases k
    · cases k
theorem storeA_mono {h h' : Nat → Option Ow} {T : TypeId} {x y : Av} {q : Wres} (hm : ∀ id x, h id = some x → h' id = some x) (k : storeA P h T x y = some q) : storeA P h' T x y = some q := by
  unfold storeA at *
  split at k
  · next n g id off ys h1 h2 =>
    split at k
    · next hid => simp only [h2, hm _ _ hid]; exact k
    · cases k
  · next n g id k0 sz i ys h1 h2 =>
    split at k
    · next hid => simp only [h2, hm _ _ hid]; exact k
    · cases k
  · cases k
theorem wres_mono {σ τ : St} {o : Oper} {q : Wres} (he : ∀ x ∈ o.op.operands, σ.ev x = τ.ev x) (hm : ∀ id x, σ.h id = some x → τ.h id = some x) (hn : ∀ d, o.dst = some d → σ.h d = none → τ.h d = none) (k : wres P σ o = some q) : wres P τ o = some q := by
  obtain ⟨dst, op, type, pos, after, guard⟩ := o
  cases op <;> simp only [Op.operands] at he <;> cases dst <;> simp only [wres] at k ⊢
  case buildSlice.some t n ps d =>
    have : ∀ x ∈ ps.toList, σ.ev x.2 = τ.ev x.2 := fun x hx => he _ (by simp; exact ⟨x.1, by simpa using hx⟩)
    rw [List.map_congr_left (g := fun p => (p.1, τ.ev p.2)) fun p hp => by rw [this p hp]] at k
    exact litA_mono (hn d rfl) k
  case makeSlice.some t n c d =>
    rw [he n (by simp), he c (by simp)] at k
    exact makeA_mono (hn d rfl) k
  case call.some c d =>
    have hx : ∀ x ∈ c.args.toList, σ.ev x = τ.ev x := fun x hx => he x (by simp only [Call.operands]; simp [Array.mem_toList_iff.1 hx])
    unfold appCall at *
    split at k
    · split at k
      · next x y T T' h1 h2 =>
        rw [h1] at hx
        rw [hx x (by simp), hx y (by simp)] at k
        split at k
        · next hT => rw [if_pos hT]; exact appA_mono hm (hn d rfl) k
        · cases k
      · cases k
    · cases k
  case alloc.some T d =>
    cases hz : zeroCs P T with
    | none => rw [hz] at k; cases k
    | some cs => rw [hz] at k; exact newCells_mono (hn d rfl) k
  case box.some T x d =>
    rw [he x (by simp)] at k
    cases hz : cellsA (τ.ev x) with
    | none => rw [hz] at k; cases k
    | some cs => rw [hz] at k; exact newCells_mono (hn d rfl) k
  case store.none T p x =>
    rw [he p (by simp), he x (by simp)] at k
    exact storeA_mono hm k
  all_goals cases k
theorem wres_where {σ : St} {o : Oper} {id : Nat} {x : Ow} {r : Av} (k : wres P σ o = some (id, x, r)) : (o.dst = some id ∧ σ.h id = none) ∨ (isA o.op = false ∧ ∃ y, σ.h id = some y) := by
  have nc : ∀ {d cs T}, newCells σ.h d cs T = some (id, x, r) → some d = some id ∧ σ.h id = none := fun h => by obtain ⟨h1, _, h2⟩ := newCells_run h; cases h2; exact ⟨rfl, h1⟩
  have na : ∀ {d E xs}, newArr σ.h d E xs = some (id, x, r) → some d = some id ∧ σ.h id = none := fun h => by obtain ⟨h1, _, h2⟩ := newArr_run h; cases h2; exact ⟨rfl, h1⟩
  have nf : ∀ {d f cs}, newClo σ.h d f cs = some (id, x, r) → some d = some id ∧ σ.h id = none := fun h => by obtain ⟨h1, _, h2⟩ := newClo_run h; cases h2; exact ⟨rfl, h1⟩
  obtain ⟨dst, op, type, pos, after, guard⟩ := o
  cases op <;> cases dst <;> simp only [wres] at k
  case buildSlice.some t n ps d =>
    unfold litA at k
    split at k
    · cases k
    · split at k
      · cases k
      · split at k
        · split at k
          · exact .inl (na k)
          · cases k
        · cases k
  case makeSlice.some t n c d =>
    unfold makeA at k
    split at k
    · split at k
      · exact .inl (na k)
      · cases k
    · cases k
  case call.some c d =>
    unfold appCall at k
    split at k
    · split at k
      · split at k
        · unfold appA at k
          split at k
          · cases k
          · split at k
            · unfold app1 at k
              split at k
              · next hb =>
                split at k
                · split at k
                  · cases k
                    refine .inr ⟨rfl, ?_⟩
                    unfold baseA at hb
                    split at hb
                    · split at hb
                      · next hid =>
                        split at hb
                        · cases hb; exact ⟨_, hid⟩
                        · cases hb
                      · cases hb
                    · cases hb
                    · cases hb
                  · cases k
                · cases k
              · split at k
                · split at k
                  · next hc => cases k; exact .inl ⟨rfl, Option.isNone_iff_eq_none.1 hc.1⟩
                  · cases k
                · cases k
              · cases k
            · cases k
        · cases k
      · cases k
    · cases k
  case alloc.some T d =>
    obtain ⟨cs, _, hn⟩ := Option.bind_eq_some_iff.1 k; exact .inl (nc hn)
  case box.some T x d =>
    obtain ⟨cs, _, hn⟩ := Option.bind_eq_some_iff.1 k; exact .inl (nc hn)
  case store.none T p x =>
    unfold storeA at k
    split at k
    · split at k
      · next hid =>
        split at k
        · cases k; exact .inr ⟨rfl, _, hid⟩
        · cases k
      · cases k
    · split at k
      · next hid =>
        split at k
        · obtain ⟨ds, _, he⟩ := Option.map_eq_some_iff.1 k
          cases he; exact .inr ⟨rfl, _, hid⟩
        · cases k
      · cases k
    · cases k
  all_goals cases k
theorem wstep_some {σ σ' : St} {o : Oper} (h : wstep P σ o = some σ') : ∃ id x r, wres P σ o = some (id, x, r) ∧ σ' = (σ.new id x).put o.dst r := by
  unfold wstep at h
  split at h
  · next id x r hw => exact ⟨id, x, r, hw, (Option.some.inj h).symm⟩
  · cases h
theorem wstep_of {σ : St} {o : Oper} {id : Nat} {x : Ow} {r : Av} (h : wres P σ o = some (id, x, r)) : wstep P σ o = some ((σ.new id x).put o.dst r) := by unfold wstep; rw [h]
theorem wstep_eqv {σ τ : St} {o : Oper} (h : Eqv σ τ) : (∀ σ', wstep P σ o = some σ' → ∃ τ', wstep P τ o = some τ' ∧ Eqv σ' τ') ∧ (wstep P σ o = none → wstep P τ o = none) := by
  have e := wres_congr (P := P) (o := o) (σ := σ) (τ := τ) (fun x _ => by rw [h.ev]) h.2
  refine ⟨fun σ' k => ?_, fun k => ?_⟩
  · obtain ⟨id, x, r, h1, rfl⟩ := wstep_some k
    exact ⟨_, wstep_of (e ▸ h1), (h.new _ _).put _ _⟩
  · unfold wstep at *
    rw [← e]
    cases hw : wres P σ o with
    | none => rfl
    | some q => rw [hw] at k; cases k
theorem vval_mono {σ τ : St} {o : Oper} {r : Av} (he : ∀ x ∈ o.op.operands, σ.ev x = τ.ev x) (hm : ∀ id x, σ.h id = some x → τ.h id = some x) (k : vval P σ o = some r) : vval P τ o = some r := by
  have e : vval P ⟨τ.tmps, σ.own⟩ o = some r := by
    rw [← k]
    refine vval_congr (fun x hx => ?_) rfl
    rw [he x hx]
    cases x <;> rfl
  have hh : ∀ x, (St.mk τ.tmps σ.own).ev x = τ.ev x := fun x => by cases x <;> rfl
  obtain ⟨dst, op, type, pos, after, guard⟩ := o
  cases op <;> simp only [vval, hh] at e ⊢
  case load T x =>
    unfold loadA at *
    split at e
    · split at e
      · next hid => rw [hm _ _ hid]; exact e
      · cases e
    · split at e
      · next hid => rw [hm _ _ hid]; exact e
      · cases e
    · exact e
    · cases e
  case indexAddr T x i =>
    unfold indexAddrA at *
    split at e
    · exact e
    · split at e
      · next hid => simp only [hm _ _ hid]; exact e
      · cases e
    · cases e
  case call c =>
    have hf : (St.mk τ.tmps σ.own).ev = τ.ev := funext hh
    unfold lenCall at *
    split at e
    · rw [hf] at e; exact e
    · split at e
      · next x T h1 h2 =>
        rw [hh] at e
        split at e
        · exact e
        unfold lenA at *
        split at e
        · exact e
        · exact e
        · exact e
        · split at e
          · next hid => rw [hm _ _ hid]; exact e
          · cases e
        · cases e
      · cases e
    · cases e
  case build T ps =>
    unfold buildA at *
    simp only [hh] at e
    exact e
  case slice T x lo hi mx =>
    cases mx with
    | none =>
      have e1 : lo.map (St.mk τ.tmps σ.own).ev = lo.map τ.ev := by cases lo <;> simp [hh]
      have e2 : hi.map (St.mk τ.tmps σ.own).ev = hi.map τ.ev := by cases hi <;> simp [hh]
      simp only [vval, hh, e1, e2] at e ⊢
      exact e
    | some m => simp only [vval] at e; cases e
  all_goals exact e
def gaFree (σ : St) (o : Oper) : Bool := match o.op with | .load _ x => (match σ.ev x with | .c (.ga ..) => false | _ => true) | _ => true
theorem vval_cells {σ τ : St} {o : Oper} {r : Av} (hl : noLen o.op = true) (hg : gaFree σ o = true) (he : ∀ x ∈ o.op.operands, σ.ev x = τ.ev x) (hm : ∀ id xs T, σ.h id = some (.cells xs T) → τ.h id = some (.cells xs T)) (k : vval P σ o = some r) : vval P τ o = some r := by
  have e : vval P ⟨τ.tmps, σ.own⟩ o = some r := by
    rw [← k]
    refine vval_congr (fun x hx => ?_) rfl
    rw [he x hx]
    cases x <;> rfl
  have hh : ∀ x, (St.mk τ.tmps σ.own).ev x = τ.ev x := fun x => by cases x <;> rfl
  obtain ⟨dst, op, type, pos, after, guard⟩ := o
  cases op <;> simp only [noLen, Bool.false_eq_true] at hl <;> simp only [vval, hh] at e ⊢
  case load T x =>
    unfold loadA at *
    split at e
    · split at e
      · next hid => rw [hm _ _ _ hid]; exact e
      · cases e
    · next hx =>
      have h1 := he x (by simp [Op.operands])
      simp only [gaFree, h1, hx, Bool.false_eq_true] at hg
    · exact e
    · cases e
  case build T ps =>
    unfold buildA at *
    simp only [hh] at e
    exact e
  case slice T x lo hi mx =>
    cases mx with
    | none =>
      have e1 : lo.map (St.mk τ.tmps σ.own).ev = lo.map τ.ev := by cases lo <;> simp [hh]
      have e2 : hi.map (St.mk τ.tmps σ.own).ev = hi.map τ.ev := by cases hi <;> simp [hh]
      simp only [vval, hh, e1, e2] at e ⊢
      exact e
    | some m => simp only [vval] at e; cases e
  all_goals exact e
theorem app_where {σ : St} {o : Oper} {id : Nat} {x : Ow} {r : Av} (ha : isApp o.op = true) (k : wres P σ o = some (id, x, r)) : σ.h id = none ∨ ∃ v E xs, σ.h id = some (.arr v E xs) := by
  obtain ⟨dst, op, type, pos, after, guard⟩ := o
  cases op <;> simp only [isApp, Bool.false_eq_true] at ha
  case call c =>
    cases dst with
    | none => simp [wres] at k
    | some d =>
      simp only [wres] at k
      unfold appCall at k
      split at k
      · split at k
        · split at k
          · unfold appA at k
            split at k
            · cases k
            · split at k
              · unfold app1 at k
                split at k
                · next hb =>
                  split at k
                  · split at k
                    · cases k
                      unfold baseA at hb
                      split at hb
                      · split at hb
                        · next hid =>
                          split at hb
                          · cases hb; exact .inr ⟨_, _, _, hid⟩
                          · cases hb
                        · cases hb
                      · cases hb
                      · cases hb
                    · cases k
                  · cases k
                · split at k
                  · split at k
                    · next hc => cases k; exact .inl (Option.isNone_iff_eq_none.1 hc.1)
                    · cases k
                  · cases k
                · cases k
              · cases k
          · cases k
        · cases k
      · cases k
theorem vval_ins {σ τ : St} {o : Oper} (hi : insens o.op = true) (he : ∀ x ∈ o.op.operands, σ.ev x = τ.ev x) : vval P σ o = vval P τ o := by
  have h1 : vval P σ o = vval P ⟨σ.tmps, []⟩ o := by
    have hh : ∀ x, (St.mk σ.tmps []).ev x = σ.ev x := fun x => by cases x <;> rfl
    have hf : (St.mk σ.tmps []).ev = σ.ev := funext hh
    obtain ⟨dst, op, type, pos, after, guard⟩ := o
    cases op <;> simp only [insens, valueOp, Bool.false_eq_true] at hi <;> (try simp only [vval, hh, hf, buildA])
    case slice T x lo hi mx => cases mx <;> simp only [vval, hh, hf]
  have h2 : vval P τ o = vval P ⟨τ.tmps, []⟩ o := by
    have hh : ∀ x, (St.mk τ.tmps []).ev x = τ.ev x := fun x => by cases x <;> rfl
    have hf : (St.mk τ.tmps []).ev = τ.ev := funext hh
    obtain ⟨dst, op, type, pos, after, guard⟩ := o
    cases op <;> simp only [insens, valueOp, Bool.false_eq_true] at hi <;> (try simp only [vval, hh, hf, buildA])
    case slice T x lo hi mx => cases mx <;> simp only [vval, hh, hf]
  rw [h1, h2]
  refine vval_congr (fun x hx => ?_) rfl
  have := he x hx
  cases x <;> exact this
theorem callK_eqv {σ τ : St} {o : Oper} {K : St → Prop} (h : Eqv σ τ) (hK : Resp K) (k : callK P σ o K) : callK P τ o K := by
  unfold callK at *
  rw [← callOf_congr (σ := σ) (fun x _ => by rw [h.ev]) h.2]
  split
  · next f args F hc =>
    rw [hc] at k
    obtain ⟨ha, R, hR, hr⟩ := k
    exact ⟨ha, R, hR, fun r h1 h2 => hK _ _ ((h.give F).put _ _) (hr r h1 h2)⟩
  · next hc => rw [hc] at k; exact k
theorem execA_eqv {σ τ : St} {o : Oper} {K : St → Prop} (h : Eqv σ τ) (hK : Resp K) (k : execA P N σ o K) : execA P N τ o K := by
  unfold execA at *
  refine ⟨k.1, ?_⟩
  rw [← vval_congr (σ := σ) (fun x _ => by rw [h.ev]) h.2]
  have k2 := k.2
  split
  · next r hv => rw [hv] at k2; exact hK _ _ (h.put _ _) k2
  · next hv =>
    rw [hv] at k2
    simp only at k2
    obtain ⟨w1, w2⟩ := wstep_eqv (P := P) (o := o) h
    cases hw : wstep P σ o with
    | none => rw [w2 hw]; rw [hw] at k2; exact callK_eqv h hK k2
    | some σ' => obtain ⟨τ', e, he⟩ := w1 _ hw; rw [e]; rw [hw] at k2; exact hK _ _ he k2
theorem opA_eqv {σ τ : St} {o : Oper} {K : St → Prop} (h : Eqv σ τ) (hK : Resp K) (k : opA P N ops σ o K) : opA P N ops τ o K := by
  unfold opA at *
  rw [← guardA_congr (σ := σ) fun t _ => h.1 t]
  split
  · next g hg => rw [hg] at k; exact ⟨fun e => execA_eqv h hK (k.1 e), fun e => ⟨(k.2 e).1, hK _ _ (h.put _ _) (k.2 e).2⟩⟩
  · next hg => rw [hg] at k; exact k
theorem opA_mono {σ : St} {o : Oper} {K K' : St → Prop} (hK : ∀ σ, K σ → K' σ) (k : opA P N ops σ o K) : opA P N ops σ o K' := by
  unfold opA at *
  split
  · next g hg =>
    rw [hg] at k
    refine ⟨fun e => ?_, fun e => ⟨(k.2 e).1, hK _ (k.2 e).2⟩⟩
    obtain ⟨k1, k2⟩ := k.1 e
    refine ⟨k1, ?_⟩
    split
    · next hv => rw [hv] at k2; exact hK _ k2
    · next hv =>
      rw [hv] at k2
      simp only at k2
      split
      · next hw => rw [hw] at k2; exact hK _ k2
      · next hw =>
        rw [hw] at k2
        simp only [callK] at k2 ⊢
        split
        · next hc => rw [hc] at k2; obtain ⟨ha, R, hR, hr⟩ := k2; exact ⟨ha, R, hR, fun r h1 h2 => hK _ (hr r h1 h2)⟩
        · next hc => rw [hc] at k2; exact k2
  · next hg => rw [hg] at k; exact k
def plainCall : Op → Bool
  | .call c => match c.callee with | .builtin _ => false | _ => true
  | _ => false
theorem wres_none {σ : St} {o : Oper} (h : isW o.op = false) : wres P σ o = none := by
  obtain ⟨dst, op, type, pos, after, guard⟩ := o
  cases op <;> simp only [isW, Bool.true_eq_false] at h <;> cases dst <;> simp only [wres]
  case call.some c d =>
    unfold appCall
    split
    · next hc => simp [hc] at h
    · rfl
theorem wstep_none {σ : St} {o : Oper} (h : isW o.op = false) : wstep P σ o = none := by unfold wstep; rw [wres_none h]
theorem plain_notW {o : Op} (h : plainCall o = true) : isW o = false := by
  cases o <;> simp only [plainCall, Bool.false_eq_true] at h <;> simp only [isW]
  case call c => cases hc : c.callee <;> simp [hc] at h ⊢
theorem value_notW {o : Op} (h : valueOp o = true) : isW o = false := by
  cases o <;> simp only [valueOp, Bool.false_eq_true] at h <;> simp only [isW]
  case call c =>
    obtain ⟨callee, args, tys⟩ := c
    cases callee with
    | builtin b => cases b <;> simp_all
    | _ => rfl
theorem vval_W {σ : St} {o : Oper} (h : isW o.op = true) : vval P σ o = none := by
  obtain ⟨dst, op, type, pos, after, guard⟩ := o
  cases op <;> simp only [isW, Bool.false_eq_true] at h <;> simp only [vval]
  case call c =>
    unfold lenCall
    split
    · next hc => simp [hc] at h
    · next hc => simp [hc] at h
    · rfl
theorem callOf_value {σ : St} {o : Oper} (h : valueOp o.op = true) : callOf P σ o = none := by
  obtain ⟨dst, op, type, pos, after, guard⟩ := o
  cases op <;> simp only [valueOp, Bool.false_eq_true] at h <;> simp only [callOf, calleeOf, Option.map_none]
  case call c =>
    obtain ⟨callee, args, tys⟩ := c
    cases callee with
    | builtin b => rfl
    | _ => simp at h
theorem callOf_W {σ : St} {o : Oper} (h : isW o.op = true) : callOf P σ o = none := by
  obtain ⟨dst, op, type, pos, after, guard⟩ := o
  cases op <;> simp only [isW, Bool.false_eq_true] at h <;> simp only [callOf, calleeOf, Option.map_none]
  case call c =>
    obtain ⟨callee, args, tys⟩ := c
    cases callee with
    | builtin b => rfl
    | _ => simp at h
theorem deep_nil {h h' : Nat → Option Ow} {x : Av} (k : Av.deep h x = []) : Av.deep h' x = [] := by
  have one : ∀ x : Cl, Cl.deep h x = [] → Cl.deep h' x = [] := fun x k => by cases x <;> simp_all [Cl.deep, Cl.deepN]
  cases x with
  | c x => exact one x k
  | agg xs => simp only [Av.deep, List.flatMap_eq_nil_iff] at *; exact fun x hx => one x (k x hx)
  | tup xs => simp only [Av.deep, List.flatMap_eq_nil_iff] at *; exact fun p hp x hx => one x (k p hp x hx)
  | any => rfl
theorem argsC_nil (h h' : Nat → Option Ow) : ∀ (xs : List Av) (Ts : List TypeId), argsC P [] h xs Ts = argsC P [] h' xs Ts
  | [], _ => by simp [argsC]
  | x :: xs, [] => by simp only [argsC, frzA_nil]; rw [argsC_nil h h' xs []]
  | x :: xs, T :: Ts => by simp only [argsC, frzA_nil]; rw [argsC_nil h h' xs Ts]
variable (P) in
def callD (σ : St) (o : Oper) : Prop := ∃ f xs Ts, calleeOf P ⟨σ.tmps, []⟩ o = some (f, xs, Ts) ∧ xs.flatMap (Av.deep σ.h) = []
theorem loadA_none {h : Nat → Option Ow} {E : TypeId} {x r : Av} (k : loadA P (look []) E x = some r) : loadA P h E x = some r := by
  unfold loadA at *
  split at k
  · next hl => simp [look] at k
  · next hl => simp [look] at k
  · next n g xs hl => exact k
  · cases k
theorem calleeOf_none {σ : St} {o : Oper} {q : FuncId × List Av × List TypeId} (h : Nat → Option Ow) (k : calleeOf P ⟨σ.tmps, []⟩ o = some q) : ∀ {τ : St}, (∀ x ∈ o.op.operands, σ.ev x = τ.ev x) → calleeOf P τ o = some q := by
  intro τ he
  obtain ⟨dst, op, type, pos, after, guard⟩ := o
  have e0 : ∀ x, (St.mk σ.tmps []).ev x = σ.ev x := fun x => by cases x <;> rfl
  cases op <;> simp only [Op.operands] at he <;> simp only [calleeOf] at k ⊢
  case call c =>
    obtain ⟨callee, args, tys⟩ := c
    have hm : args.toList.map (St.mk σ.tmps []).ev = args.toList.map τ.ev := List.map_congr_left fun x hx => (e0 x).trans (he x (by simp only [Call.operands]; simp [Array.mem_toList_iff.1 hx]))
    cases callee with
    | value f =>
      have hf : (St.mk σ.tmps []).ev f = τ.ev f := (e0 f).trans (he f (by simp [Call.operands]))
      have key : ∀ {x : Av} {q}, capArgs (look []) x = some q → capArgs τ.h x = some q := fun {x q} hq => by
        unfold capArgs at *
        split at hq
        · exact hq
        · simp [look] at hq
        · cases hq
      cases f with
      | func f => simp only [hm] at k ⊢; exact k
      | _ =>
        simp only [hm, hf] at k ⊢
        obtain ⟨q', h1, h2⟩ := Option.map_eq_some_iff.1 k
        rw [key (x := τ.ev _) h1]; exact congrArg some h2
    | invoke r n =>
      have hf : (St.mk σ.tmps []).ev r = τ.ev r := (e0 r).trans (he r (by simp [Call.operands]))
      have key : ∀ {x : Av} {q}, invokeA P (look []) x n = some q → invokeA P τ.h x n = some q := fun {x q} hq => by
        unfold invokeA at *
        split at hq
        · split at hq
          · exact hq
          · obtain ⟨r, h1, h2⟩ := Option.map_eq_some_iff.1 hq
            rw [loadA_none h1]; exact congrArg some h2
          · cases hq
        · split at hq
          · exact hq
          · split at hq
            · obtain ⟨r, h1, h2⟩ := Option.map_eq_some_iff.1 hq
              rw [loadA_none h1]; exact congrArg some h2
            · cases hq
          · exact hq
          · cases hq
        · exact hq
        · cases hq
      simp only [hm, hf] at k ⊢
      obtain ⟨q', h1, h2⟩ := Option.map_eq_some_iff.1 k
      rw [key (x := τ.ev r) h1]; exact congrArg some h2
    | builtin b => cases k
  all_goals cases k
theorem callD_nil {σ τ : St} {o : Oper} (he : ∀ x ∈ o.op.operands, σ.ev x = τ.ev x) (k : callD P σ o) : callD P τ o ∧ callOf P τ o = callOf P σ o ∧ ∃ f args, callOf P σ o = some (f, args, []) := by
  obtain ⟨f, xs, Ts, h1, h2⟩ := k
  have hσ := calleeOf_none σ.h h1 (τ := σ) fun _ _ => rfl
  have hτ := calleeOf_none τ.h h1 he
  have hτ0 := calleeOf_none τ.h h1 (τ := ⟨τ.tmps, []⟩) fun x hx => (he x hx).trans (by cases x <;> rfl)
  have h3 : xs.flatMap (Av.deep τ.h) = [] := by
    rw [List.flatMap_eq_nil_iff] at *
    exact fun x hx => deep_nil (h2 x hx)
  refine ⟨⟨f, xs, Ts, hτ0, h3⟩, ?_, f, argsC P [] σ.h xs Ts, ?_⟩
  · unfold callOf; rw [hσ, hτ]; simp only [Option.map_some, h2, h3]; rw [argsC_nil τ.h σ.h]
  · unfold callOf; rw [hσ]; simp only [Option.map_some, h2]
def gaOk (ops : Array Oper) (σ : St) (o : Oper) : Bool := ops.toList.all (fun p => !isApp p.op) || gaFree σ o
theorem gaOk_congr {σ τ : St} {o : Oper} (he : ∀ x ∈ o.op.operands, σ.ev x = τ.ev x) : gaOk ops σ o = gaOk ops τ o := by
  have : gaFree σ o = gaFree τ o := by
    unfold gaFree
    obtain ⟨dst, op, type, pos, after, guard⟩ := o
    cases op <;> simp only [Op.operands] at he <;> simp only
    case load T x => rw [he x (by simp)]
  unfold gaOk; rw [this]
variable (P N ops) in
def ValAt (σ : St) (o : Oper) (v : Av) : Prop := dstOk N o = true ∧ ((guardA ops σ o = some true ∧ vval P σ o = some v ∧ gaOk ops σ o = true) ∨ (guardA ops σ o = some false ∧ v = .tup []))
theorem ValAt.op {σ : St} {o : Oper} {v : Av} (h : ValAt P N ops σ o v) {K : St → Prop} (k : K (σ.put o.dst v)) : opA P N ops σ o K := by
  unfold opA
  obtain ⟨hd, ⟨h1, h2, _⟩ | ⟨h1, rfl⟩⟩ := h
  · rw [h1]; exact ⟨fun _ => ⟨hd, by rw [h2]; exact k⟩, fun e => (by cases e)⟩
  · rw [h1]; exact ⟨fun e => (by cases e), fun _ => ⟨hd, k⟩⟩
theorem ValAt.of {σ : St} {o : Oper} {K : St → Prop} (hv : valueOp o.op = true) (hga : gaOk ops σ o = true) (k : opA P N ops σ o K) : ∃ v, ValAt P N ops σ o v ∧ K (σ.put o.dst v) := by
  unfold opA at k
  split at k
  · next g hg =>
    cases g with
    | true =>
      obtain ⟨hd, k2⟩ := k.1 rfl
      split at k2
      · next r hr => exact ⟨r, ⟨hd, .inl ⟨hg, hr, hga⟩⟩, k2⟩
      · rw [wstep_none (value_notW hv)] at k2
        simp only [callK, callOf_value hv] at k2
    | false => exact ⟨.tup [], ⟨(k.2 rfl).1, .inr ⟨hg, rfl⟩⟩, (k.2 rfl).2⟩
  · exact k.elim
variable (P ops) in
def strictOk (σ : St) (o : Oper) (fr : Bool) : Prop := fr = true ∨ guardA ops σ o = some false ∨ (vval P σ o).isSome = true ∨ isW o.op = true ∨ (plainCall o.op = true ∧ callD P σ o)
theorem strictOk.congr {σ τ : St} {o : Oper} {fr : Bool} (h : strictOk P ops σ o fr) (he : ∀ t ∈ o.looksAt ops, σ.tmp t = τ.tmp t) (hm : ∀ id x, σ.h id = some x → τ.h id = some x) : strictOk P ops τ o fr := by
  unfold strictOk at *
  rw [← guardA_congr he]
  rcases h with h | h | h | h | ⟨h, h2⟩
  · exact .inl h
  · exact .inr (.inl h)
  · obtain ⟨r, hr⟩ := Option.isSome_iff_exists.1 h
    exact .inr (.inr (.inl (by rw [vval_mono (ops_looks he) hm hr]; rfl)))
  · exact .inr (.inr (.inr (.inl h)))
  · exact .inr (.inr (.inr (.inr ⟨h, (callD_nil (ops_looks he) h2).1⟩)))
theorem new_tmp (σ : St) (id : Nat) (x : Ow) (t : Nat) : (σ.new id x).tmp t = σ.tmp t := rfl
theorem op_swap {σ : St} {oi oj : Oper} {v : Av} {K : St → Prop} (hj : ∃ j : Nat, ops[j]? = some oj) (hi : ValAt P N ops σ oi v) (hap : oi.apart ops oj = true) (hW : isW oj.op = true → isA oj.op = true ∨ insens oi.op = true ∨ (isApp oj.op = true ∧ noLen oi.op = true)) (hK : Resp K) (hs : strictOk P ops (σ.put oi.dst v) oj false) (h : opA P N ops (σ.put oi.dst v) oj K) :
    opA P N ops σ oj fun σ' => ValAt P N ops σ' oi v ∧ K (σ'.put oi.dst v) := by
  obtain ⟨h1, h2, h3⟩ := Oper.apart_spec hap
  have lj := put_looks (ops := ops) (σ := σ) (o := oj) (d := oi.dst) (v := v) h1
  have li : ∀ (σ : St) (r : Av), ∀ t ∈ oi.looksAt ops, σ.tmp t = (σ.put oj.dst r).tmp t := fun σ r t ht => (put_looks (ops := ops) (σ := σ) (o := oi) (d := oj.dst) (v := r) h3 t ht).symm
  have step : ∀ r, K ((σ.put oi.dst v).put oj.dst r) → ValAt P N ops (σ.put oj.dst r) oi v ∧ K ((σ.put oj.dst r).put oi.dst v) := fun r k => by
    refine ⟨?_, hK _ _ (Eqv.swap σ v r h2) k⟩
    unfold ValAt at *
    rw [← guardA_congr (li σ r), ← vval_congr (ops_looks (li σ r)) (put_h _ _ _).symm, ← gaOk_congr (ops_looks (li σ r))]; exact hi
  unfold opA at *
  have hg := guardA_congr lj
  have hv := vval_congr (P := P) (ops_looks lj) (put_h σ oi.dst v)
  have hc := callOf_congr (P := P) (ops_looks lj) (put_h σ oi.dst v)
  have hw := wres_congr (P := P) (ops_looks lj) (put_h σ oi.dst v)
  unfold strictOk at hs
  have hcd : callD P (σ.put oi.dst v) oj ↔ callD P σ oj := ⟨fun h => (callD_nil (ops_looks lj) h).1, fun h => (callD_nil (fun x hx => (ops_looks lj x hx).symm) h).1⟩
  rw [hg] at h hs; rw [hv, hcd] at hs
  split at h
  · next g hgg =>
    refine ⟨fun e => ?_, fun e => ⟨(h.2 e).1, step _ (h.2 e).2⟩⟩
    subst e
    obtain ⟨hd, k⟩ := h.1 rfl
    refine ⟨hd, ?_⟩
    rw [hv] at k
    rcases hs with hs | hs | hs | hs | ⟨hp, hs⟩
    · cases hs
    · rw [hgg] at hs; cases hs
    · obtain ⟨r, hr⟩ := Option.isSome_iff_exists.1 hs
      rw [hr] at k ⊢
      exact step _ k
    · rw [vval_W hs] at k ⊢
      simp only at k ⊢
      unfold wstep at k ⊢
      rw [hw] at k
      cases hq : wres P σ oj with
      | none => rw [hq] at k; simp only [callK, callOf_W hs] at k
      | some q =>
        obtain ⟨id, x, r⟩ := q
        rw [hq] at k
        simp only at k ⊢
        have lt : ∀ t ∈ oi.looksAt ops, σ.tmp t = ((σ.new id x).put oj.dst r).tmp t := fun t ht => by rw [← li (σ.new id x) r t ht, new_tmp]
        refine ⟨?_, hK _ _ ?_ k⟩
        · unfold ValAt at *
          rw [← guardA_congr lt]
          obtain ⟨hd, ⟨g1, g2, g3⟩ | g⟩ := hi
          · refine ⟨hd, .inl ⟨g1, ?_, by rw [← gaOk_congr (ops_looks lt)]; exact g3⟩⟩
            rcases hW hs with hA | hI | ⟨hI, hL⟩
            · refine vval_mono (ops_looks lt) (fun id' y hy => ?_) g2
              rw [put_h, new_h]
              rcases wres_where hq with ⟨_, hn⟩ | ⟨hn, _⟩
              · have : id' ≠ id := fun e => by rw [e, hn] at hy; cases hy
                simp [this, hy]
              · rw [hn] at hA; cases hA
            · rw [← vval_ins hI (ops_looks lt)]; exact g2
            · refine vval_cells hL (by
                rcases (Bool.or_eq_true ..).mp g3 with h | h
                · obtain ⟨j, hj⟩ := hj
                  have := List.all_eq_true.1 h oj (by rw [Array.mem_toList_iff]; exact Array.mem_of_getElem? hj)
                  rw [hI] at this; cases this
                · exact h) (ops_looks lt) (fun id' ys T hy => ?_) g2
              rw [put_h, new_h]
              have : id' ≠ id := fun e => by
                rcases app_where hI hq with h | ⟨v, E, xs, h⟩
                · rw [e, h] at hy; cases hy
                · rw [e, h] at hy; cases hy
              simp [this, hy]
          · exact ⟨hd, .inr g⟩
        · have e1 : Eqv ((σ.put oi.dst v).new id x) ((σ.new id x).put oi.dst v) := ⟨fun t => by rw [new_tmp, put_tmp, put_tmp, new_tmp], by rw [new_h, put_h, put_h, new_h]⟩
          exact (e1.put _ _).trans (Eqv.swap (σ.new id x) v r h2)
    · cases hr : vval P σ oj with
      | some r => rw [hr] at k; exact step _ k
      | none =>
        rw [hr] at k
        simp only [wstep_none (plain_notW hp)] at k ⊢
        unfold callK at k ⊢
        obtain ⟨f, args, hs⟩ := (callD_nil (fun _ _ => rfl) hs).2.2
        rw [hc, hs] at k
        rw [hs]
        obtain ⟨ha, R, hR, hr⟩ := k
        exact ⟨ha, R, hR, fun r r1 r2 => step r (hr r r1 r2)⟩
  · exact h.elim
theorem wresA {σ τ : St} {o : Oper} {q : Wres} (hA : isA o.op = true) (he : ∀ x ∈ o.op.operands, σ.ev x = τ.ev x) (hn : τ.h q.1 = none) (k : wres P σ o = some q) : wres P τ o = some q := by
  have hd : ∀ d, o.dst = some d → d = q.1 := fun d hd => by
    rcases wres_where (id := q.1) (x := q.2.1) (r := q.2.2) k with ⟨h, _⟩ | ⟨h, _⟩
    · rw [hd] at h; exact Option.some.inj h
    · rw [hA] at h; cases h
  obtain ⟨dst, op, type, pos, after, guard⟩ := o
  cases op <;> simp only [isA, Bool.false_eq_true] at hA <;> simp only [Op.operands] at he <;> cases dst <;> simp only [wres] at k ⊢
  case alloc.some T d =>
    have hd := hd d rfl; subst hd
    cases hz : zeroCs P T with
    | none => rw [hz] at k; cases k
    | some cs => rw [hz] at k; exact newCells_mono (h := σ.h) (fun _ => hn) k
  case box.some T x d =>
    have hd := hd d rfl; subst hd
    rw [he x (by simp)] at k
    cases hz : cellsA (τ.ev x) with
    | none => rw [hz] at k; cases k
    | some cs => rw [hz] at k; exact newCells_mono (h := σ.h) (fun _ => hn) k
  case buildSlice.some t n ps d =>
    have hd := hd d rfl; subst hd
    have : ∀ x ∈ ps.toList, σ.ev x.2 = τ.ev x.2 := fun x hx => he _ (by simp; exact ⟨x.1, by simpa using hx⟩)
    rw [List.map_congr_left (g := fun p => (p.1, τ.ev p.2)) fun p hp => by rw [this p hp]] at k
    exact litA_mono (h := σ.h) (fun _ => hn) k
  case makeSlice.some t n c d =>
    have hd := hd d rfl; subst hd
    rw [he n (by simp), he c (by simp)] at k
    exact makeA_mono (h := σ.h) (fun _ => hn) k
  all_goals cases k
variable (P) in
def Comm (σ : St) (oi oj : Oper) (q : Wres) : Prop := isA oi.op = true ∨ plainCall oj.op = true ∨ ∃ u, vval P σ oj = some u ∧ vval P ((σ.new q.1 q.2.1).put oi.dst q.2.2) oj = some u
theorem alloc_swap {σ : St} {oi oj : Oper} {d : Nat} {x : Ow} {r : Av} {K : St → Prop} (hW : isW oi.op = true) (gi : oi.guard = none) (hi : wres P σ oi = some (d, x, r)) (hcm : Comm P σ oi oj (d, x, r)) (hap : oi.apart ops oj = true) (hK : Resp K) (hs : strictOk P ops σ oj false)
    (h : opA P N ops σ oj fun σ' => opA P N ops σ' oi K) : strictOk P ops ((σ.new d x).put oi.dst r) oj false ∧ opA P N ops ((σ.new d x).put oi.dst r) oj K := by
  obtain ⟨h1, h2, h3⟩ := Oper.apart_spec hap
  have lj : ∀ t ∈ oj.looksAt ops, σ.tmp t = ((σ.new d x).put oi.dst r).tmp t := fun t ht => by rw [put_looks (ops := ops) (o := oj) h1 t ht, new_tmp]
  have hm : isA oi.op = true → oi.dst = some d ∧ σ.h d = none ∧ ∀ id y, σ.h id = some y → ((σ.new d x).put oi.dst r).h id = some y := fun hA => by
    obtain ⟨hdst, hdn⟩ : oi.dst = some d ∧ σ.h d = none := by
      rcases wres_where hi with h | ⟨h, _⟩
      · exact h
      · rw [hA] at h; cases h
    refine ⟨hdst, hdn, fun id y hy => ?_⟩
    have : id ≠ d := fun e => by rw [e, hdn] at hy; cases hy
    rw [put_h, new_h]; simp [this, hy]
  have vv : ∀ u, vval P σ oj = some u → vval P ((σ.new d x).put oi.dst r) oj = some u := fun u hu => by
    rcases hcm with hA | hp | ⟨u', h1, h2⟩
    · exact vval_mono (ops_looks lj) (hm hA).2.2 hu
    · exfalso
      obtain ⟨dst, op, type, pos, after, guard⟩ := oj
      cases op <;> simp only [plainCall, Bool.false_eq_true] at hp
      case call c =>
        simp only [vval, lenCall] at hu
        split at hu
        · next hc => simp [hc] at hp
        · next hc => simp [hc] at hp
        · cases hu
    · rw [h1] at hu; cases hu; exact h2
  have after : ∀ σ' : St, wres P σ' oi = some (d, x, r) → opA P N ops σ' oi K → K ((σ'.new d x).put oi.dst r) := fun σ' hw k => by
    unfold opA at k
    have g : guardA ops σ' oi = some true := by unfold guardA; rw [gi]
    rw [g] at k
    obtain ⟨_, k⟩ := k.1 rfl
    rw [vval_W hW] at k
    simp only at k
    rw [wstep_of hw] at k
    exact k
  have hs2 : strictOk P ops ((σ.new d x).put oi.dst r) oj false := by
    have hs' := hs
    unfold strictOk at hs' ⊢
    rw [← guardA_congr lj]
    rcases hs' with h | h | h | h | ⟨h, h2⟩
    · exact .inl h
    · exact .inr (.inl h)
    · obtain ⟨u, hu⟩ := Option.isSome_iff_exists.1 h
      exact .inr (.inr (.inl (by rw [vv u hu]; rfl)))
    · exact .inr (.inr (.inr (.inl h)))
    · exact .inr (.inr (.inr (.inr ⟨h, (callD_nil (ops_looks lj) h2).1⟩)))
  refine ⟨hs2, ?_⟩
  have step : ∀ u, opA P N ops (σ.put oj.dst u) oi K → K (((σ.new d x).put oi.dst r).put oj.dst u) := fun u k => by
    have k2 := after _ (by
      rw [← hi]
      exact (wres_congr (ops_looks (ops := ops) fun t ht => (put_looks (ops := ops) (o := oi) h3 t ht).symm) (put_h _ _ _).symm).symm) k
    refine hK _ _ ?_ k2
    have e1 : Eqv ((σ.put oj.dst u).new d x) ((σ.new d x).put oj.dst u) := ⟨fun t => by rw [new_tmp, put_tmp, put_tmp, new_tmp], by rw [new_h, put_h, put_h, new_h]⟩
    exact (e1.put _ _).trans (Eqv.swap (σ.new d x) u r fun t ht he => h2 t he ht)
  unfold opA at h ⊢
  rw [← guardA_congr lj]
  unfold strictOk at hs
  split at h
  · next g hg =>
    refine ⟨fun e => ?_, fun e => ⟨(h.2 e).1, step _ (h.2 e).2⟩⟩
    subst e
    obtain ⟨hd, k⟩ := h.1 rfl
    refine ⟨hd, ?_⟩
    cases hv : vval P σ oj with
    | some u => rw [hv] at k; rw [vv u hv]; exact step _ k
    | none =>
      rw [hv] at k
      simp only at k
      rcases hs with hs | hs | hs | hs | ⟨hp, hs⟩
      · cases hs
      · rw [hg] at hs; cases hs
      · rw [hv] at hs; cases hs
      · rw [vval_W hs]
        simp only
        cases hq : wres P σ oj with
        | none => unfold wstep at k; rw [hq] at k; simp only [callK, callOf_W hs] at k
        | some q =>
          obtain ⟨id, y, u⟩ := q
          rw [wstep_of hq] at k
          simp only at k
          have hA : isA oi.op = true := by
            rcases hcm with hA | hp | ⟨u', h1, _⟩
            · exact hA
            · rw [plain_notW hp] at hs; cases hs
            · rw [hv] at h1; cases h1
          obtain ⟨hdst, hdn, hm⟩ := hm hA
          have hne : id ≠ d := fun e => by
            rcases wres_where hq with ⟨q1, _⟩ | ⟨_, z, q1⟩
            · rw [e] at q1; exact h2 d hdst q1
            · rw [e, hdn] at q1; cases q1
          have hq2 : wres P ((σ.new d x).put oi.dst r) oj = some (id, y, u) := wres_mono (ops_looks lj) hm (fun d' hd' hn => by
            have : d' ≠ d := fun e => by rw [e] at hd'; exact h2 d hdst hd'
            rw [put_h, new_h]; simp [this, hn]) hq
          rw [wstep_of hq2]
          simp only
          have k2 := after _ (wresA (σ := σ) hA (ops_looks (ops := ops) fun t ht => by rw [put_looks (ops := ops) (o := oi) h3 t ht, new_tmp]) (by rw [put_h, new_h]; simp [Ne.symm hne, hdn]) hi) k
          refine hK _ _ ⟨fun t => ?_, ?_⟩ k2
          · rw [put_tmp, new_tmp, put_tmp, new_tmp, put_tmp, new_tmp, put_tmp, new_tmp]
            by_cases e1 : oi.dst = some t
            · rw [if_pos e1, if_neg (h2 t e1), if_pos e1]
            · rw [if_neg e1, if_neg e1]
          · rw [put_h, new_h, put_h, new_h, put_h, new_h, put_h, new_h]
            funext j
            by_cases e1 : j = d <;> by_cases e2 : j = id
            · exact absurd (e2.symm.trans e1) hne
            · simp [e1, e2, Ne.symm hne]
            · simp [e1, e2, hne]
            · simp [e1, e2]
      · have hw : vval P ((σ.new d x).put oi.dst r) oj = none := by
          obtain ⟨dst, op, type, pos, after, guard⟩ := oj
          cases op <;> simp only [plainCall, Bool.false_eq_true] at hp <;> simp only [vval]
          case call c =>
            unfold lenCall
            split
            · next hc => simp [hc] at hp
            · next hc => simp [hc] at hp
            · rfl
        rw [hw]
        simp only [wstep_none (plain_notW hp)] at k ⊢
        unfold callK at k ⊢
        rw [(callD_nil (ops_looks lj) hs).2.1]
        obtain ⟨f, args, hs⟩ := (callD_nil (ops_looks lj) hs).2.2
        rw [hs] at k ⊢
        obtain ⟨ha, R, hR, hr⟩ := k
        exact ⟨ha, R, hR, fun u r1 r2 => step u (hr u r1 r2)⟩
  · exact h.elim
variable (P N ops) in
def anyS (B : List Nat) (K : St → Prop) : Nat → Array Bool → St → Prop
  | 0, listed, σ => Region.ready .any ops listed = [] ∧ K σ
  | n + 1, listed, σ => (Region.ready .any ops listed = [] → K σ) ∧
    ∀ i ∈ Region.ready .any ops listed, ∃ o, ops[i]? = some o ∧ strictOk P ops σ o (B.contains i) ∧ opA P N ops σ o fun σ' => anyS B K n (listed.setIfInBounds i true) σ'
variable {B : List Nat} {K : St → Prop}
theorem anyS_resp (hK : Resp K) : ∀ (n : Nat) (listed : Array Bool), Resp (anyS P N ops B K n listed)
  | 0, _, _, _, e, h => ⟨h.1, hK _ _ e h.2⟩
  | n + 1, listed, _, _, e, h => ⟨fun hr => hK _ _ e (h.1 hr), fun i hi => by
    obtain ⟨o, ho, hs, hop⟩ := h.2 i hi
    exact ⟨o, ho, hs.congr (fun t _ => e.1 t) (fun id x hx => by rw [← e.2]; exact hx), opA_eqv e (anyS_resp hK n _) hop⟩⟩
theorem anyS_first {i : Nat} {oi : Oper} {v : Av} (hK : Resp K) (hi : ops[i]? = some oi) :
    ∀ (n : Nat) (listed : Array Bool) (σ : St),
      (∀ j oj, ops[j]? = some oj → j ≠ i → listed.getD j true = false → (∀ e ∈ oj.after, Region.binds .any e = true → e.on ≠ i) → oi.apart ops oj = true) →
      (∀ j, B.contains j = true → j ≠ i → listed.getD j true = false → waits ops 64 j i = true) →
      (∀ j oj, ops[j]? = some oj → j ≠ i → listed.getD j true = false → isW oj.op = true → isA oj.op = true ∨ insens oi.op = true ∨ (isApp oj.op = true ∧ noLen oi.op = true) ∨ waits ops 64 j i = true) → Closed ops listed →
      i ∈ Region.ready .any ops listed → ValAt P N ops σ oi v →
      anyS P N ops B K n (listed.setIfInBounds i true) (σ.put oi.dst v) → anyS P N ops B K (n + 1) listed σ := by
  have str : ∀ {σ : St} {fr : Bool}, ValAt P N ops σ oi v → strictOk P ops σ oi fr := fun {σ fr} hv => by
    obtain ⟨_, ⟨_, h, _⟩ | ⟨h, _⟩⟩ := hv
    · exact .inr (.inr (.inl (by rw [h]; rfl)))
    · exact .inr (.inl h)
  intro n
  induction n with
  | zero =>
    intro listed σ _ _ _ _ hr hy H
    refine ⟨fun h => (by rw [h] at hr; cases hr), fun j hj => ?_⟩
    by_cases hji : j = i
    · subst hji; exact ⟨oi, hi, str hy, hy.op H⟩
    · have := ready_mono hj hji
      rw [H.1] at this
      cases this
  | succ n ih =>
    intro listed σ hfree hbar hww hcl hr hy H
    refine ⟨fun h => (by rw [h] at hr; cases hr), fun j hj => ?_⟩
    by_cases hji : j = i
    · subst hji; exact ⟨oi, hi, str hy, hy.op H⟩
    · obtain ⟨oj, hoj, hst, h1⟩ := H.2 j (ready_mono hj hji)
      obtain ⟨hjun, oj', hoj', hall⟩ := mem_ready.1 hj
      have hjj : oj' = oj := by rw [hoj] at hoj'; exact (Option.some.inj hoj').symm
      rw [hjj] at hall
      have hnw : waits ops 64 j i = true → False := fun hw => not_both (mem_ready.1 hr).1 (waits_listed hcl 64 j hw fun o ho => by rw [hoj] at ho; cases ho; exact hall)
      have hnot : ∀ e ∈ oj.after, Region.binds .any e = true → e.on ≠ i := fun e he hb heq => by
        have h1 := hall e he hb
        rw [heq] at h1
        exact not_both (mem_ready.1 hr).1 h1
      have hap := hfree j oj hoj hji hjun hnot
      have hnB : B.contains j = false := by
        cases hc : B.contains j with
        | false => rfl
        | true => exact (hnw (hbar j hc hji hjun)).elim
      rw [hnB] at hst
      have h2 := op_swap ⟨j, hoj⟩ hy hap (fun hw => (hww j oj hoj hji hjun hw).imp id fun h => h.imp id fun h => h.resolve_right fun h => hnw h) (anyS_resp hK n _) hst h1
      have hlj : ∀ t ∈ oj.looksAt ops, (σ.put oi.dst v).tmp t = σ.tmp t := put_looks (Oper.apart_spec hap).1
      have un : ∀ {k}, (listed.setIfInBounds j true).getD k true = false → listed.getD k true = false := fun {k} hun => by
        by_cases hjk : j = k
        · subst hjk; exact hjun
        · rw [getD_set_ne true hjk] at hun; exact hun
      refine ⟨oj, hoj, by rw [hnB]; exact hst.congr hlj fun id x hx => by rw [put_h] at hx; exact hx, opA_mono (fun σ' h3 => ?_) h2⟩
      refine ih (listed.setIfInBounds j true) σ' (fun k ok hk hki hun hno => hfree k ok hk hki (un hun) hno) (fun k hk hki hun => hbar k hk hki (un hun)) (fun k ok hk hki hun => hww k ok hk hki (un hun)) (hcl.set hj) (ready_mono hr (Ne.symm hji)) h3.1 ?_
      rw [Array.setIfInBounds_comm _ _ hji]
      exact h3.2
variable (P N ops) in
def AOk (σ : St) (oj : Oper) (i : Nat) : Prop := ∃ o q, ops[i]? = some o ∧ isW o.op = true ∧ o.guard = none ∧ dstOk N o = true ∧ wres P σ o = some q ∧ Comm P σ o oj q
theorem anyS_late {j : Nat} {oj : Oper} (hK : Resp K) (hoj : ops[j]? = some oj) :
    ∀ (n : Nat) (listed : Array Bool) (σ : St) (As : List Nat),
      (∀ k ∈ Region.ready .any ops listed, k = j ∨ k ∈ As) → j ∈ Region.ready .any ops listed → (∀ i ∈ As, i ∈ Region.ready .any ops listed ∧ i ≠ j ∧ AOk P N ops σ oj i ∧ ∀ oi, ops[i]? = some oi → oi.apart ops oj = true) →
      (∀ i ∈ As, ∀ k ∈ As, i ≠ k → ∀ oi ok, ops[i]? = some oi → ops[k]? = some ok → oi.apart ops ok = true ∧ (isA oi.op = true ∨ isA ok.op = true)) → As.length ≤ n →
      (∀ k, k < ops.size → k ≠ j → k ∉ As → listed.getD k true = false → waits ops 64 k j = true) → Closed ops listed → strictOk P ops σ oj (B.contains j) → (As ≠ [] → strictOk P ops σ oj false) →
      opA P N ops σ oj (fun σ' => anyS P N ops B K n (listed.setIfInBounds j true) σ') → anyS P N ops B K (n + 1) listed σ := by
  intro n
  induction n with
  | zero =>
    intro listed σ As hsub hj hA _ hlen _ _ hs _ h
    have : As = [] := List.eq_nil_of_length_eq_zero (by omega)
    subst this
    refine ⟨fun e => (by rw [e] at hj; cases hj), fun k hk => ?_⟩
    rcases hsub k hk with rfl | h0
    · exact ⟨oj, hoj, hs, h⟩
    · cases h0
  | succ n ih =>
    intro listed σ As hsub hj hA hAA hlen hwait hcl hs hst h
    refine ⟨fun e => (by rw [e] at hj; cases hj), fun k hk => ?_⟩
    rcases hsub k hk with rfl | hkA
    · exact ⟨oj, hoj, hs, h⟩
    · obtain ⟨hkr, hkj, ⟨oi, ⟨d, x, r⟩, hoi, hWi, hgi, hdi, hwi, hcm⟩, hap⟩ := hA k hkA
      have hap := hap oi hoi
      have hstr := hst (List.ne_nil_of_mem hkA)
      have h1 : opA P N ops σ oj fun σ' => opA P N ops σ' oi fun σ'' => anyS P N ops B K n ((listed.setIfInBounds k true).setIfInBounds j true) σ'' := by
        refine opA_mono (fun σ' h => ?_) h
        obtain ⟨o, ho, _, h2⟩ := h.2 k (ready_mono hk hkj)
        rw [hoi] at ho; cases ho
        rw [Array.setIfInBounds_comm _ _ (Ne.symm hkj)] at h2
        exact h2
      obtain ⟨hs2, h2⟩ := alloc_swap hWi hgi hwi hcm hap (anyS_resp hK n _) hstr h1
      refine ⟨oi, hoi, .inr (.inr (.inr (.inl hWi))), ?_⟩
      unfold opA
      rw [show guardA ops σ oi = some true by unfold guardA; rw [hgi]]
      refine ⟨fun _ => ⟨hdi, ?_⟩, fun e => (by cases e)⟩
      rw [vval_W hWi]
      simp only
      rw [wstep_of hwi]
      simp only
      have hkun := (mem_ready.1 hk).1
      have un : ∀ {l}, (listed.setIfInBounds k true).getD l true = false → l ≠ k ∧ listed.getD l true = false := fun {l} hun => by
        by_cases hjk : k = l
        · subst hjk
          exact (not_both hun (by
            have : k < listed.size := by
              rcases Nat.lt_or_ge k listed.size with h | h
              · exact h
              · simp [Array.getElem?_eq_none h] at hkun
            simp [this])).elim
        · exact ⟨Ne.symm hjk, by rw [getD_set_ne true hjk] at hun; exact hun⟩
      have hcl2 := hcl.set hk
      refine ih (listed.setIfInBounds k true) _ (As.filter (· != k)) (fun l hl => ?_) (ready_mono hj (Ne.symm hkj)) (fun i hi => ?_) (fun i hi l hl => hAA i ((List.mem_filter.1 hi).1) l ((List.mem_filter.1 hl).1)) ?_ (fun l hls hlj hlA hun => ?_) hcl2 ?_ (fun _ => hs2) h2
      · obtain ⟨hlun, ol, hol, hall⟩ := mem_ready.1 hl
        obtain ⟨hlk, hlun'⟩ := un hlun
        by_cases hlj : l = j
        · exact .inl hlj
        · by_cases hlA : l ∈ As
          · exact .inr (List.mem_filter.2 ⟨hlA, by simpa using hlk⟩)
          · have hw := hwait l (Array.getElem?_eq_some_iff.1 hol).1 hlj hlA hlun'
            exact (not_both (mem_ready.1 (ready_mono hj (Ne.symm hkj))).1 (waits_listed hcl2 64 l hw fun o ho => by rw [hol] at ho; cases ho; exact hall)).elim
      · obtain ⟨hiA, hik⟩ := List.mem_filter.1 hi
        have hik : i ≠ k := by simpa using hik
        obtain ⟨r1, r2, ⟨o2, q2, ho2, a2, g2, d2, w2, c2⟩, r4⟩ := hA i hiA
        obtain ⟨hap2, hAor⟩ := hAA k hkA i hiA (Ne.symm hik) oi o2 hoi ho2
        obtain ⟨p1, p2, p3⟩ := Oper.apart_spec hap2
        have he : ∀ y ∈ o2.op.operands, σ.ev y = ((σ.new d x).put oi.dst r).ev y := ops_looks (ops := ops) fun t ht => by rw [put_looks (ops := ops) (o := o2) p1 t ht, new_tmp]
        by_cases hAi : isA oi.op = true
        · obtain ⟨hdst, hdn⟩ : oi.dst = some d ∧ σ.h d = none := by
            rcases wres_where hwi with h | ⟨h, _⟩
            · exact h
            · rw [hAi] at h; cases h
          have hmm : ∀ id y, σ.h id = some y → ((σ.new d x).put oi.dst r).h id = some y := fun id y hy => by
            have : id ≠ d := fun e => by rw [e, hdn] at hy; cases hy
            rw [put_h, new_h]; simp [this, hy]
          have w3 := wres_mono he hmm (fun d' hd' hn => by
            have : d' ≠ d := fun e => by rw [e] at hd'; exact p2 d hdst hd'
            rw [put_h, new_h]; simp [this, hn]) w2
          refine ⟨ready_mono r1 hik, r2, ⟨o2, q2, ho2, a2, g2, d2, w3, ?_⟩, r4⟩
          rcases c2 with c | c | ⟨u, c, c'⟩
          · exact .inl c
          · exact .inr (.inl c)
          · obtain ⟨s1, s2, s3⟩ := Oper.apart_spec hap
            have ljj : ∀ t ∈ oj.looksAt ops, σ.tmp t = ((σ.new d x).put oi.dst r).tmp t := fun t ht => by rw [put_looks (ops := ops) (o := oj) s1 t ht, new_tmp]
            refine .inr (.inr ⟨u, vval_mono (ops_looks ljj) hmm c, vval_mono (ops_looks (ops := ops) fun t ht => ?_) (fun id y hy => ?_) c'⟩)
            · rw [put_tmp, put_tmp, new_tmp, new_tmp]
              split
              · rfl
              · exact ljj t ht
            · rw [put_h, new_h] at hy ⊢
              simp only at hy ⊢
              by_cases e : id = q2.1
              · rw [if_pos e] at hy ⊢; exact hy
              · rw [if_neg e] at hy ⊢; exact hmm id y hy
        · have hA2 : isA o2.op = true := hAor.resolve_left hAi
          refine ⟨ready_mono r1 hik, r2, ⟨o2, q2, ho2, a2, g2, d2, wresA hA2 he ?_ w2, .inl hA2⟩, r4⟩
          obtain ⟨hdst, hdn⟩ : o2.dst = some q2.1 ∧ σ.h q2.1 = none := by
            rcases wres_where (id := q2.1) (x := q2.2.1) (r := q2.2.2) w2 with h | ⟨h, _⟩
            · exact h
            · rw [hA2] at h; cases h
          have hne : q2.1 ≠ d := fun e => by
            rcases wres_where hwi with ⟨h, _⟩ | ⟨_, z, h⟩
            · exact p2 d h (by rw [hdst, e])
            · rw [e, h] at hdn; cases hdn
          rw [put_h, new_h]; simp [hne, hdn]
      · have : (As.filter (· != k)).length < As.length := by
          have h3 := List.length_filter_lt_length_iff_exists (p := (· != k)) (l := As)
          exact h3.2 ⟨k, hkA, by simp⟩
        omega
      · obtain ⟨hlk, hun'⟩ := un hun
        exact hwait l hls hlj (fun h => hlA (List.mem_filter.2 ⟨h, by simpa using hlk⟩)) hun'
      · rcases hs2 with h | h
        · cases h
        · exact .inr h
variable (P N ops B) in
def opsI (K : St → Prop) : List (Nat × List Nat) → St → Prop
  | [], σ => K σ
  | (i, As) :: is, σ => ∃ o, ops[i]? = some o ∧ strictOk P ops σ o (B.contains i) ∧ ((∀ k ∈ As, AOk P N ops σ o k) ∧ gaOk ops σ o = true) ∧ opA P N ops σ o fun σ' => opsI K is σ'
def takeOk2 (ops : Array Oper) (B : List Nat) (listed : Array Bool) (i : Nat) : Bool :=
  takeOk ops B listed i && (List.range ops.size).all fun j => j == i || listed.getD j true || match ops[j]?, ops[i]? with
    | some oj, some oi => !isW oj.op || isA oj.op || insens oi.op || (isApp oj.op && noLen oi.op) || waits ops 64 j i
    | _, _ => true
def lateOk (ops : Array Oper) (B : List Nat) (listed : Array Bool) (j : Nat) (As : List Nat) (n : Nat) : Bool :=
  (Region.ready .any ops listed).contains j && (Region.ready .any ops listed).all (fun k => k == j || As.contains k) && decide (As.length ≤ n) && (As.isEmpty || !B.contains j) &&
  As.all (fun i => (Region.ready .any ops listed).contains i && i != j && (match ops[i]?, ops[j]? with | some oi, some oj => oi.apart ops oj | _, _ => false) &&
    As.all fun k => i == k || (match ops[i]?, ops[k]? with | some oi, some ok => oi.apart ops ok && (isA oi.op || isA ok.op) | _, _ => false)) &&
  (As.isEmpty || (List.range ops.size).all fun k => k == j || As.contains k || listed.getD k true || waits ops 64 k j)
def stepOk (ops : Array Oper) (B : List Nat) (listed : Array Bool) (i : Nat) (As : List Nat) (n : Nat) : Bool := lateOk ops B listed i As n || takeOk2 ops B listed i
def stepsOk (ops : Array Oper) (B : List Nat) : Array Bool → List (Nat × List Nat) → Bool
  | listed, [] => (Region.ready .any ops listed).isEmpty
  | listed, (i, As) :: is => stepOk ops B listed i As is.length && stepsOk ops B (listed.setIfInBounds i true) is
theorem opsI_any (hK : Resp K) : ∀ (is : List (Nat × List Nat)) (listed : Array Bool) (σ : St), stepsOk ops B listed is = true → Closed ops listed → opsI P N ops B K is σ → anyS P N ops B K is.length listed σ
  | [], listed, σ, hok, _, h => ⟨by simpa [stepsOk] using hok, h⟩
  | (i, As) :: is, listed, σ, hok, hcl, ⟨o, ho, hs, ⟨hAs, hga⟩, hop⟩ => by
    simp only [stepsOk, Bool.and_eq_true, stepOk, Bool.or_eq_true] at hok
    obtain ⟨hok, hok'⟩ := hok
    rcases hok with hok | hok
    · simp only [lateOk, Bool.and_eq_true] at hok
      obtain ⟨⟨⟨⟨⟨q1, q2⟩, q3⟩, q4⟩, q5⟩, q6⟩ := hok
      have hi : i ∈ Region.ready .any ops listed := by simpa using q1
      have hstr : As ≠ [] → strictOk P ops σ o false := fun hne => by
        have : B.contains i = false := by
          rcases (Bool.or_eq_true ..).mp q4 with h | h
          · exact absurd (by simpa using h) hne
          · simpa using h
        rw [this] at hs; exact hs
      by_cases hne : As = []
      · subst hne
        refine ⟨fun h => (by rw [h] at hi; cases hi), fun j hj => ?_⟩
        have := List.all_eq_true.1 q2 j hj
        simp at this
        subst this
        exact ⟨o, ho, hs, opA_mono (fun σ' h => opsI_any hK is _ σ' hok' (hcl.set hi) h) hop⟩
      · refine anyS_late hK ho is.length listed σ As (fun k hk => ?_) hi (fun k hk => ?_) (fun k hk l hl hkl ok ol hok hol => ?_) (of_decide_eq_true q3) (fun k hk hki hkA hun => ?_) hcl hs hstr (opA_mono (fun σ' h => opsI_any hK is _ σ' hok' (hcl.set hi) h) hop)
        · have := List.all_eq_true.1 q2 k hk
          simpa using this
        · have := List.all_eq_true.1 q5 k hk
          simp only [Bool.and_eq_true, bne_iff_ne, ne_eq] at this
          obtain ⟨⟨⟨t1, t2⟩, t3⟩, _⟩ := this
          refine ⟨by simpa using t1, t2, hAs k hk, fun ok hok => ?_⟩
          rw [hok, ho] at t3
          exact t3
        · have := List.all_eq_true.1 q5 k hk
          simp only [Bool.and_eq_true] at this
          have := List.all_eq_true.1 this.2 l hl
          simp only [Bool.or_eq_true, beq_iff_eq, hkl, false_or, hok, hol, Bool.and_eq_true] at this
          exact this
        · rcases (Bool.or_eq_true ..).mp q6 with h | h
          · exact absurd (by simpa using h) hne
          · have := List.all_eq_true.1 h k (List.mem_range.2 hk)
            simp only [Bool.or_eq_true, beq_iff_eq, hki, false_or, hun, Bool.false_eq_true, or_false] at this
            rcases this with h | h
            · exact absurd (by simpa using h) hkA
            · exact h
    · simp only [takeOk2, Bool.and_eq_true] at hok
      obtain ⟨hok, hww⟩ := hok
      simp only [takeOk, Bool.and_eq_true] at hok
      obtain ⟨⟨⟨hf, hr⟩, hvo⟩, hB⟩ := hok
      simp only [ho, Option.map_some, Option.getD_some] at hvo
      have hi : i ∈ Region.ready .any ops listed := by simpa using hr
      obtain ⟨v, hv, h⟩ := ValAt.of hvo hga hop
      refine anyS_first hK ho is.length listed σ (fun j oj hj hne hun hno => Region.free_spec ho hf j oj hj hne hun hno) (fun j hc hne hun => ?_) (fun j oj hj hne hun hw => ?_) hcl hi hv (opsI_any hK is _ _ hok' (hcl.set hi) h)
      · have := List.all_eq_true.1 hB j (by simpa using hc)
        simp only [hun, Bool.or_false, Bool.or_eq_true, beq_iff_eq, hne, false_or] at this
        exact this
      · have := List.all_eq_true.1 hww j (List.mem_range.2 (Array.getElem?_eq_some_iff.1 hj).1)
        simp only [hj, ho, hun, Bool.or_false, Bool.or_eq_true, beq_iff_eq, hne, false_or, hw, Bool.not_true, Bool.false_eq_true] at this
        rcases this with ((h | h) | h) | h
        · exact .inl h
        · exact .inr (.inl h)
        · exact .inr (.inr (.inl ((Bool.and_eq_true ..).mp h)))
        · exact .inr (.inr (.inr h))
end
section
variable {P : Program} {N : Nat} {w0 : World} {S0 : Env} {ops : Array Oper} {B : List Nat} {σ : St}
theorem Sim.eqv {β : Nat → Value} {τ : St} {a : Act} {w : World} (e : Eqv σ τ) (s : Sim P N w0 S0 β σ a w) : Sim P N w0 S0 β τ a w := by
  obtain ⟨h1, h1', h1'', h2, h3, h4, h5, h6, h7⟩ := s
  rw [e.2] at h1'' h2 h3 h4 h5
  exact ⟨h1, h1', h1'', h2, h3, h4, fun t => by rw [← e.1 t]; exact h5 t, h6, h7⟩
theorem anyS_run {K : St → Prop} {Q : Exit → Act → World → Prop} (hQ : ∀ β σ a w, K σ → Sim P N w0 S0 β σ a w → Q .normal a w) : ∀ (n : Nat) (listed : Array Bool) (β : Nat → Value) (σ : St) (a : Act) (w : World), anyS P N ops B K n listed σ → Sim P N w0 S0 β σ a w → wpAny P .any ops Q n listed a w
  | 0, listed, β, σ, a, w, h, s => ⟨h.1, hQ β σ a w h.2 s⟩
  | n + 1, listed, β, σ, a, w, h, s => ⟨fun hr => hQ β σ a w (h.1 hr) s, fun i hi => by
    obtain ⟨o, ho, _, hop⟩ := h.2 i hi
    have h1 := opA_run (Q := Q) s hop
    unfold wpOp
    simp only [ho]
    split at h1
    · next hw => rw [if_pos hw]; exact .inl (Oper.wp_mono (fun a w ⟨β', σ', h2, h3⟩ => anyS_run hQ n _ β' σ' a w h2 h3) h1)
    · next hw =>
      rw [if_neg hw]
      obtain ⟨β', σ', h2, h3⟩ := h1
      exact anyS_run hQ n _ β' σ' _ w h2 h3⟩
def drawOk (ops : Array Oper) (B : List Nat) (is : List (Nat × List Nat)) : Bool := stepsOk ops B (Array.replicate ops.size false) is && is.length == ops.size
theorem aw_drawn {id : Nat} {l : List Oper} {Q : Exit → St → Prop} (hm : P.follows .mixedOrders = true) (B : List Nat) (is : List (Nat × List Nat)) (hok : drawOk l.toArray B is = true) (h : opsI P N l.toArray B (Q .normal) is σ) : AWp P N w0 S0 (.region id l.toArray true) Q σ := fun β a w s => by
  simp only [drawOk, Bool.and_eq_true, beq_iff_eq] at hok
  have hK : Resp fun σ => ∃ τ, Eqv τ σ ∧ Q .normal τ := fun σ τ e ⟨υ, h1, h2⟩ => ⟨υ, h1.trans e, h2⟩
  have h' : opsI P N l.toArray B (fun σ => ∃ τ, Eqv τ σ ∧ Q .normal τ) is σ := by
    clear hok s
    revert h
    generalize l.toArray = ops
    induction is generalizing σ with
    | nil => exact fun h => ⟨σ, Eqv.refl σ, h⟩
    | cons i is ih => exact fun ⟨o, ho, hs, hA, hop⟩ => ⟨o, ho, hs, hA, opA_mono (fun σ' h => ih h) hop⟩
  have hcl : Closed l.toArray (Array.replicate l.toArray.size false) := fun j o ho hl => by
    rw [Array.getD_eq_getD_getElem?, Array.getElem?_replicate] at hl
    split at hl <;> cases hl
  have h1 := opsI_any hK is _ σ hok.1 hcl h'
  rw [hok.2] at h1
  refine wp_region_any hm (anyS_run (fun β σ a w ⟨τ, e, hq⟩ s => ⟨β, τ, hq, s.eqv e.symm⟩) _ _ β σ a _ h1 (s.grow (w' := w.drew) ?_).1)
  exact (Ext.refl w).drew
end
section
variable {P : Program} {N : Nat} {ops : Array Oper} {B : List Nat} {σ : St} {i : Nat} {As : List Nat} {o : Oper} {is : List (Nat × List Nat)} {K : St → Prop}
variable (P N ops B σ i o is K) in
def VS (d : Option Tmp) : Option Av → Prop
  | some x => opsI P N ops B K is (σ.put d x)
  | none => match wstep P σ o with
    | some σ' => opsI P N ops B K is σ'
    | none => (B.contains i = true ∨ (plainCall o.op = true ∧ callD P σ o)) ∧ callK P σ o fun σ' => opsI P N ops B K is σ'
variable (P N ops B σ i o is K) in
def GS : Option Bool → Prop
  | some true => dstOk N o = true ∧ VS P N ops B σ i o is K o.dst (vval P σ o)
  | some false => dstOk N o = true ∧ opsI P N ops B K is (σ.put o.dst (.tup []))
  | none => False
variable (P N ops σ o) in
def asOk : List Nat → Prop
  | [] => gaOk ops σ o = true
  | k :: As => (∃ p q, nth ops.toList k = some p ∧ isW p.op = true ∧ p.guard = none ∧ dstOk N p = true ∧ wres P σ p = some q ∧ Comm P σ p o q) ∧ asOk As
theorem asB_ok : ∀ {As : List Nat}, asOk P N ops σ o As → (∀ k ∈ As, AOk P N ops σ o k) ∧ gaOk ops σ o = true
  | [], h => ⟨fun k hk => (by cases hk), h⟩
  | j :: As, ⟨⟨p, q, h1, h2⟩, h⟩ => ⟨fun k hk => by
    rcases List.mem_cons.1 hk with rfl | hk
    · exact ⟨p, q, op_of_nth h1, h2⟩
    · exact (asB_ok h).1 k hk, (asB_ok h).2⟩
theorem os_g {g : Option Bool} (ho : nth ops.toList i = some o) (hA : asOk P N ops σ o As) (hg : guardA ops σ o = g) (h : GS P N ops B σ i o is K g) : opsI P N ops B K ((i, As) :: is) σ := by
  refine ⟨o, op_of_nth ho, ?_⟩
  unfold strictOk opA execA
  rw [hg]
  cases g with
  | none => exact h.elim
  | some g =>
    cases g with
    | false => exact ⟨.inr (.inl rfl), asB_ok hA, fun e => (by cases e), fun _ => h⟩
    | true =>
      obtain ⟨hd, h⟩ := h
      cases hv : vval P σ o with
      | some r => rw [hv] at h; exact ⟨.inr (.inr (.inl rfl)), asB_ok hA, fun _ => ⟨hd, h⟩, fun e => (by cases e)⟩
      | none =>
        rw [hv] at h
        simp only [VS] at h
        cases hw : wstep P σ o with
        | some σ' =>
          rw [hw] at h
          refine ⟨.inr (.inr (.inr (.inl ?_))), asB_ok hA, fun _ => ⟨hd, h⟩, fun e => (by cases e)⟩
          cases hW : isW o.op with
          | true => rfl
          | false => rw [wstep_none hW] at hw; cases hw
        | none =>
          rw [hw] at h
          refine ⟨?_, asB_ok hA, fun _ => ⟨hd, h.2⟩, fun e => (by cases e)⟩
          rcases h.1 with h1 | h1
          · exact .inl h1
          · exact .inr (.inr (.inr (.inr h1)))
end
end Go.Smd
end
