/- Part 5 of the proof: Ab Ac. -/
import Derived.Test.YtannholebjdckaaQM04
import Derived.Defers
set_option linter.unusedVariables false
section
set_option linter.unusedSimpArgs false
namespace Go.Smd
open Go.RowKit
inductive Cl where
  | d (x : D)
  | own (id off : Nat)
  | gs (id ver : Nat)
  | ga (id ver sz i : Nat)
  | io (T : TypeId) (id off : Nat)
  | fn (id : Nat)
  | un
inductive Av where
  | c (x : Cl)
  | agg (xs : List Cl)
  | tup (xs : List (Bool × List Cl))
  | any
inductive Hd where
  | fn (f : FuncId)
  | it (m : List (ByteArray × Tree)) (left : List ByteArray) (cur : Option ByteArray)
inductive Ow where
  | cells (xs : List Cl) (T : TypeId)
  | arr (ver : Nat) (E : TypeId) (xs : List (List D))
  | clo (f : Hd) (xs : List Cl)
structure St where
  tmps : List (Nat × Av)
  own : List (Nat × Ow)
def Cl.ids : Cl → List Nat
  | .own id _ | .gs id _ | .ga id _ _ _ | .io _ id _ | .fn id => [id]
  | _ => []
def Av.ids : Av → List Nat
  | .c x => x.ids
  | .agg xs => xs.flatMap Cl.ids
  | .tup xs => xs.flatMap fun p => p.2.flatMap Cl.ids
  | .any => []
def Ow.ids : Ow → List Nat
  | .cells xs _ => xs.flatMap Cl.ids
  | .arr .. => []
  | .clo _ xs => xs.flatMap Cl.ids
def Cl.deepN (h : Nat → Option Ow) : Nat → Cl → List Nat
  | 0, x => x.ids
  | n + 1, .own id _ => id :: (match h id with | some (.cells xs _) => xs.flatMap (Cl.deepN h n) | _ => [])
  | n + 1, .io _ id _ => id :: (match h id with | some (.cells xs _) => xs.flatMap (Cl.deepN h n) | _ => [])
  | _ + 1, .gs id _ => [id]
  | _ + 1, .ga id _ _ _ => [id]
  | n + 1, .fn id => id :: (match h id with | some (.clo _ xs) => xs.flatMap (Cl.deepN h n) | _ => [])
  | _ + 1, _ => []
def Cl.deep (h : Nat → Option Ow) (x : Cl) : List Nat := x.deepN h 6
def Av.deep (h : Nat → Option Ow) : Av → List Nat
  | .c x => x.deep h
  | .agg xs => xs.flatMap (Cl.deep h)
  | .tup xs => xs.flatMap fun p => p.2.flatMap (Cl.deep h)
  | .any => []
def look {α : Type} : List (Nat × α) → Nat → Option α
  | [], _ => none
  | (k, x) :: l, n => if k = n then some x else look l n
def mapKV {α β : Type} (g : Nat → Nat) (f : α → β) : List (Nat × α) → List (Nat × β)
  | [] => []
  | (k, x) :: l => (g k, f x) :: mapKV g f l
def mapV {α β : Type} (f : α → β) : List (Nat × α) → List (Nat × β)
  | [] => []
  | (k, x) :: l => (k, f x) :: mapV f l
def filK {α : Type} (p : Nat → Bool) : List (Nat × α) → List (Nat × α)
  | [] => []
  | (k, x) :: l => match p k with | true => (k, x) :: filK p l | false => filK p l
theorem mapKV_eq {α β : Type} (g : Nat → Nat) (f : α → β) : ∀ l : List (Nat × α), mapKV g f l = l.map fun p => (g p.1, f p.2)
  | [] => rfl
  | (k, x) :: l => by rw [mapKV, mapKV_eq g f l]; rfl
theorem mapV_eq {α β : Type} (f : α → β) : ∀ l : List (Nat × α), mapV f l = l.map fun p => (p.1, f p.2)
  | [] => rfl
  | (k, x) :: l => by rw [mapV, mapV_eq f l]; rfl
theorem filK_eq {α : Type} (p : Nat → Bool) : ∀ l : List (Nat × α), filK p l = l.filter fun q => p q.1
  | [] => rfl
  | (k, x) :: l => by
    rw [filK, filK_eq p l, List.filter_cons]
    cases p k <;> rfl
def St.tmp (σ : St) (t : Nat) : Av := (look σ.tmps t).getD .any
def St.h (σ : St) : Nat → Option Ow := look σ.own
def St.put (σ : St) (dst : Option Tmp) (x : Av) : St := match dst with | some d => { σ with tmps := (d, x) :: σ.tmps } | none => σ
def bk : Value → Option Nat
  | .pointer (some a) => some a.block
  | v => v.ownBlock
def RDs (P : Program) (w : World) (S : Nat → Prop) (xs : List D) (us : List Value) : Prop := All2 (RepD P w S) xs us
theorem framedRDs (P : Program) : Framed (RDs P) := ⟨fun h e hs => All2.imp h fun _ _ _ k => k.frame e hs, fun h => All2.imp h fun _ _ _ k => k.lt⟩
def HdRep (S : Nat → Prop) (w : World) (k : Hd) (v : Value) (us : List Value) : Prop :=
  match k with
  | .fn f => v = .func (.func f) #[] (List.toArray us)
  | .it m left cur => us = [] ∧ ItRep S w m left cur v
theorem HdRep.frame {S S' : Nat → Prop} {w w' : World} {k : Hd} {v : Value} {us : List Value} (h : HdRep S w k v us) (hS : ∀ b, S b → S' b) (e : Same S w w') (hb : ∀ b, bk v = some b → w'.heap[b]? = w.heap[b]?) : HdRep S' w' k v us := by
  cases k with
  | fn f => exact h
  | it m left cur => exact ⟨h.1, h.2.frame hS e fun b hv => hb b (by rw [hv]; rfl)⟩
theorem HdRep.mono {S S' : Nat → Prop} {w : World} {k : Hd} {v : Value} {us : List Value} (h : HdRep S w k v us) (hS : ∀ b, S b → S' b) : HdRep S' w k v us := h.frame hS (fun _ _ => rfl) fun _ _ => rfl
section
variable (P : Program) (S : Nat → Prop) (β : Nat → Value) (h : Nat → Option Ow) (w : World)
def RepC : Cl → Value → Prop
  | .d x, v => RepD P w S x v
  | .own id off, v => ∃ xs T b, h id = some (.cells xs T) ∧ β id = .pointer (some ⟨b, 0, none⟩) ∧ v = .pointer (some ⟨b, off, none⟩)
  | .gs id k, v => ∃ ver E xs, h id = some (.arr ver E xs) ∧ k ≤ ver ∧ (k = ver → v = β id) ∧ v.oneCell' = true
  | .ga id k sz i, v => ∃ ver E xs, h id = some (.arr ver E xs) ∧ k ≤ ver ∧ (k = ver → ∃ b n c, β id = .slice (some ⟨b, 0, none⟩) n c ∧ v = .pointer (some ⟨b, i * sz, none⟩)) ∧ v.oneCell' = true
  | .io T id off, v => ∃ xs T' b, h id = some (.cells xs T') ∧ β id = .pointer (some ⟨b, 0, none⟩) ∧ v = .iface T (.pointer (some ⟨b, off, none⟩))
  | .fn id, v => ∃ f xs, h id = some (.clo f xs) ∧ v = β id ∧ v.oneCell' = true
  | .un, v => v.oneCell' = true
def RepP (p : Bool × List Cl) (u : Value) : Prop := if p.1 then ∃ us, u = .agg (List.toArray us) ∧ All2 (RepC P S β h w) p.2 us else ∃ x, p.2 = [x] ∧ RepC P S β h w x u
def RepA : Av → Value → Prop
  | .c x, v => RepC P S β h w x v
  | .agg xs, v => ∃ us, v = .agg (List.toArray us) ∧ All2 (RepC P S β h w) xs us
  | .tup xs, v => ∃ us, v = .tuple (List.toArray us) ∧ All2 (RepP P S β h w) xs us
  | .any, _ => True
def RepO (v : Value) : Ow → Prop
  | .cells xs T => ∃ b us, v = .pointer (some ⟨b, 0, none⟩) ∧ w.heap[b]? = some (.cells (List.toArray us) T (0, 0)) ∧ All2 (RepC P S β h w) xs us
  | .arr _ E xs => Build (RDs P) E (P.cellsOf E) (fun _ => True) S w v xs ∧ xs.length * P.bytesOf E ≤ 140737488351232 ∧ ∀ x ∈ xs, x.length = P.cellsOf E
  | .clo f xs => ∃ us, HdRep S w f v us ∧ All2 (RepC P S β h w) xs us
end
structure Env where
  S : Nat → Prop
  K : Nat → Prop
  h0 : Nat → Option Ow
  β0 : Nat → Value
def zed : Nat := 1000000000
def Sd (w0 : World) (S0 : Env) (β : Nat → Value) (h : Nat → Option Ow) (w : World) (b : Nat) : Prop := (S0.S b ∨ ¬ S0.K b) ∧ b < w.heap.size ∧ ∀ id o, h id = some o → bk (β id) ≠ some b
structure KExt (K : Nat → Prop) (w w' : World) : Prop where
  os : w'.os = w.os
  tape : w'.tape = w.tape
  output : w'.output = w.output
  size : w.heap.size ≤ w'.heap.size
  block : ∀ b, K b → w'.heap[b]? = w.heap[b]?
theorem KExt.refl (K : Nat → Prop) (w : World) : KExt K w w := ⟨rfl, rfl, rfl, Nat.le_refl _, fun _ _ => rfl⟩
theorem KExt.trans {K : Nat → Prop} {a b c : World} (h : KExt K a b) (k : KExt K b c) : KExt K a c :=
  ⟨k.os.trans h.os, k.tape.trans h.tape, k.output.trans h.output, Nat.le_trans h.size k.size, fun i hi => (k.block i hi).trans (h.block i hi)⟩
theorem KExt.mono {K K' : Nat → Prop} {a b : World} (h : KExt K a b) (hk : ∀ i, K' i → K i) : KExt K' a b := ⟨h.os, h.tape, h.output, h.size, fun i hi => h.block i (hk i hi)⟩
theorem KExt.ofExt {a b : World} (h : Ext a b) : KExt (· < a.heap.size) a b := ⟨h.os, h.tape, h.output, h.size, fun i hi => h.block i hi⟩
theorem KExt.toExt {a b : World} {K : Nat → Prop} (h : KExt K a b) (hK : ∀ i, i < a.heap.size → K i) : Ext a b := ⟨h.os, h.tape, h.output, h.size, fun i hi => h.block i (hK i hi)⟩
theorem KExt.ext {K : Nat → Prop} {a b c : World} (h : KExt K a b) (e : Ext b c) (hK : ∀ i, K i → i < a.heap.size) : KExt K a c := h.trans ((KExt.ofExt e).mono fun i hi => Nat.lt_of_lt_of_le (hK i hi) h.size)
def Stays (o0 : Ow) (v0 : Value) (o : Ow) (v : Value) : Prop :=
  match o0, o with
  | .cells .., .cells .. => v = v0
  | .clo .., .clo .. => v = v0
  | .arr k .., .arr n .. => k ≤ n ∧ (k = n → v = v0)
  | _, _ => False
def Idle (P : Program) (d : Deferred) : Prop := ∃ fv cap f args, d.target = .fn fv cap ∧ ∀ w, (invoke d.target d.args).run P w = .ok (.enter f args) w ∧ CallsD P f args .returning w fun e u' w' => ∃ v, e = .returned v ∧ u' = .returning ∧ w' = w
structure Sim (P : Program) (N : Nat) (w0 : World) (S0 : Env) (β : Nat → Value) (σ : St) (a : Act) (w : World) : Prop where
  ext : KExt S0.K w0 w
  hK : ∀ b, S0.K b → b < w0.heap.size
  kept : ∀ id o0, S0.h0 id = some o0 → zed ≤ id ∧ ∀ o, σ.h id = some o → Stays o0 (S0.β0 id) o (β id)
  inj : ∀ i j oi oj b, σ.h i = some oi → σ.h j = some oj → bk (β i) = some b → bk (β j) = some b → i = j
  new : ∀ i o b, σ.h i = some o → bk (β i) = some b → ¬ S0.K b ∧ b < w.heap.size
  own : ∀ i o, σ.h i = some o → RepO P (Sd w0 S0 β σ.h w) β σ.h w (β i) o
  tmp : ∀ t, RepA P (Sd w0 S0 β σ.h w) β σ.h w (σ.tmp t) (a.tmps.getD t undef)
  sz : a.tmps.size = N
  dfr : ∀ d ∈ a.defers, Idle P d
section
variable {P : Program} {S S' : Nat → Prop} {β β' : Nat → Value} {h h' : Nat → Option Ow} {w w' : World}
theorem RepC.one {x : Cl} {v : Value} (k : RepC P S β h w x v) : v.oneCell' = true := by
  cases x with
  | d x => exact RepD.one k
  | own id off => obtain ⟨_, _, _, _, _, rfl⟩ := k; rfl
  | gs id n => obtain ⟨_, _, _, _, _, _, h1⟩ := k; exact h1
  | ga id n sz i => obtain ⟨_, _, _, _, _, _, h1⟩ := k; exact h1
  | io T id off => obtain ⟨_, _, _, _, _, rfl⟩ := k; rfl
  | fn id => obtain ⟨_, _, _, _, h1⟩ := k; exact h1
  | un => exact k
structure Steps' (P : Program) (S S' : Nat → Prop) (β β' : Nat → Value) (h h' : Nat → Option Ow) (w w' : World) : Prop where
  d : ∀ x v, RepD P w S x v → RepD P w' S' x v
  own : ∀ id xs T, h id = some (.cells xs T) → (∃ xs' T', h' id = some (.cells xs' T')) ∧ β' id = β id
  gs : ∀ id ver E xs, h id = some (.arr ver E xs) → ∃ ver' E' xs', h' id = some (.arr ver' E' xs') ∧ ver ≤ ver' ∧ (ver = ver' → β' id = β id)
  fn : ∀ id f xs, h id = some (.clo f xs) → (∃ f' xs', h' id = some (.clo f' xs')) ∧ β' id = β id
theorem RepC.step (k : Steps' P S S' β β' h h' w w') {x : Cl} {v : Value} (r : RepC P S β h w x v) : RepC P S' β' h' w' x v := by
  cases x with
  | d x => exact k.d x v r
  | own id off =>
    obtain ⟨xs, T, b, h1, h2, h3⟩ := r
    obtain ⟨⟨xs', T', h4⟩, h5⟩ := k.own id xs T h1
    exact ⟨xs', T', b, h4, h5.trans h2, h3⟩
  | gs id n =>
    obtain ⟨ver, E, xs, h1, h2, h3, h4⟩ := r
    obtain ⟨ver', E', xs', h5, h6, h7⟩ := k.gs id ver E xs h1
    exact ⟨ver', E', xs', h5, Nat.le_trans h2 h6, fun e => by
      have e1 : n = ver := by omega
      have e2 : ver = ver' := by omega
      rw [h3 e1, h7 e2], h4⟩
  | ga id n sz i =>
    obtain ⟨ver, E, xs, h1, h2, h3, h4⟩ := r
    obtain ⟨ver', E', xs', h5, h6, h7⟩ := k.gs id ver E xs h1
    exact ⟨ver', E', xs', h5, Nat.le_trans h2 h6, fun e => by
      have e1 : n = ver := by omega
      have e2 : ver = ver' := by omega
      rw [h7 e2]; exact h3 e1, h4⟩
  | io T id off =>
    obtain ⟨xs, T, b, h1, h2, h3⟩ := r
    obtain ⟨⟨xs', T', h4⟩, h5⟩ := k.own id xs T h1
    exact ⟨xs', T', b, h4, h5.trans h2, h3⟩
  | fn id =>
    obtain ⟨f, xs, h1, h2, h3⟩ := r
    obtain ⟨⟨f', xs', h4⟩, h5⟩ := k.fn id f xs h1
    exact ⟨f', xs', h4, by rw [h5]; exact h2, h3⟩
  | un => exact r
theorem RepP.step (k : Steps' P S S' β β' h h' w w') {x : Bool × List Cl} {v : Value} (r : RepP P S β h w x v) : RepP P S' β' h' w' x v := by
  unfold RepP at *
  split at r
  · next hb => rw [if_pos hb]; obtain ⟨us, hu, ha⟩ := r; exact ⟨us, hu, ha.imp fun _ _ _ r => r.step k⟩
  · next hb => rw [if_neg hb]; obtain ⟨y, hy, hr⟩ := r; exact ⟨y, hy, hr.step k⟩
theorem RepA.step (k : Steps' P S S' β β' h h' w w') {x : Av} {v : Value} (r : RepA P S β h w x v) : RepA P S' β' h' w' x v := by
  cases x with
  | c x => exact RepC.step k r
  | agg xs => obtain ⟨us, hu, ha⟩ := r; exact ⟨us, hu, ha.imp fun _ _ _ r => r.step k⟩
  | tup xs => obtain ⟨us, hu, ha⟩ := r; exact ⟨us, hu, ha.imp fun _ _ _ r => RepP.step k r⟩
  | any => trivial
end
section
variable {P : Program} {N : Nat} {w0 : World} {S0 : Env} {β : Nat → Value} {σ : St} {a : Act} {w : World}
theorem Sim.put (s : Sim P N w0 S0 β σ a w) {dst : Option Tmp} {x : Av} {v : Value} (hd : ∀ d, dst = some d → d < N) (r : RepA P (Sd w0 S0 β σ.h w) β σ.h w x v) : Sim P N w0 S0 β (σ.put dst x) (a.put dst v) w := by
  cases dst with
  | none => exact s
  | some d =>
    refine ⟨s.ext, s.hK, s.kept, s.inj, s.new, s.own, fun t => ?_, by simp [Act.put, s.sz], s.dfr⟩
    have hdN := hd d rfl
    by_cases e : d = t
    · subst e
      have : (a.put (some d) v).tmps.getD d undef = v := by simp [Act.put, s.sz, hdN]
      rw [this]
      have : (σ.put (some d) x).tmp d = x := by simp [St.put, St.tmp, look]
      rw [this]; exact r
    · have h1 : (a.put (some d) v).tmps.getD t undef = a.tmps.getD t undef := by simp [Act.put, Array.getElem?_setIfInBounds, e]
      have h2 : (σ.put (some d) x).tmp t = σ.tmp t := by simp [St.put, St.tmp, look, e]
      rw [h1, h2]; exact s.tmp t
theorem Sim.grow (s : Sim P N w0 S0 β σ a w) {w' : World} (e : Ext w w') : Sim P N w0 S0 β σ a w' ∧ Steps' P (Sd w0 S0 β σ.h w) (Sd w0 S0 β σ.h w') β β σ.h σ.h w w' := by
  have hS : ∀ b, Sd w0 S0 β σ.h w b → Sd w0 S0 β σ.h w' b := fun b hb => ⟨hb.1, Nat.lt_of_lt_of_le hb.2.1 e.size, hb.2.2⟩
  have k : Steps' P (Sd w0 S0 β σ.h w) (Sd w0 S0 β σ.h w') β β σ.h σ.h w w' := ⟨fun x v r => (r.ext e).mono hS, fun id xs T hh => ⟨⟨xs, T, hh⟩, rfl⟩, fun id ver E xs hh => ⟨ver, E, xs, hh, Nat.le_refl _, fun _ => rfl⟩, fun id f xs hh => ⟨⟨f, xs, hh⟩, rfl⟩⟩
  refine ⟨⟨s.ext.ext e s.hK, s.hK, s.kept, s.inj, fun i o b hi hb => ⟨(s.new i o b hi hb).1, Nat.lt_of_lt_of_le (s.new i o b hi hb).2 e.size⟩, fun i o hi => ?_, fun t => (s.tmp t).step k, s.sz, s.dfr⟩, k⟩
  have := s.own i o hi
  cases o with
  | cells xs T => obtain ⟨b, us, h1, h2, h3⟩ := this; exact ⟨b, us, h1, e.heap h2, h3.imp fun _ _ _ r => r.step k⟩
  | arr ver E xs =>
    obtain ⟨h1, h2, h3⟩ := this
    exact ⟨((h1.ext (framedRDs P) e).frame (framedRDs P) (fun _ _ => rfl) (fun _ _ => rfl) (fun _ h => h) hS), h2, h3⟩
  | clo f xs => obtain ⟨us, h1, h3⟩ := this; exact ⟨us, h1.frame hS (fun b hb => e.block b hb.2.1) fun b hb => e.block b (s.new i _ b hi hb).2, h3.imp fun _ _ _ r => r.step k⟩
theorem Sim.given (s : Sim P N w0 S0 β σ a w) {w' : World} (e : Ext w w') {x : D} {v : Value} (r : RepD P w' (fun b => Sd w0 S0 β σ.h w b ∨ w.heap.size ≤ b) x v) : RepD P w' (Sd w0 S0 β σ.h w') x v :=
  r.lt.mono fun b hb => by
    rcases hb.1 with h1 | h1
    · exact ⟨h1.1, hb.2, h1.2.2⟩
    · exact ⟨.inr fun hk => by have := s.hK b hk; have := s.ext.size; omega, hb.2, fun id o ho hc => by have := (s.new id o b ho hc).2; omega⟩
theorem sd_fresh {id : Nat} {o : Ow} {v : Value} {w' : World} {b : Nat} (hid : σ.h id = none) (hv : bk v = some w.heap.size) (hw : w.heap.size ≤ w'.heap.size) (hb : Sd w0 S0 β σ.h w b) :
    Sd w0 S0 (fun i => if i = id then v else β i) (fun i => if i = id then some o else σ.h i) w' b := ⟨hb.1, Nat.lt_of_lt_of_le hb.2.1 hw, fun i o' ho => by
  by_cases e : i = id
  · simp only [e, if_true]; rw [hv]; intro hc; injection hc with hc; have := hb.2.1; omega
  · simp only [e, if_false] at ho ⊢; exact hb.2.2 i o' ho⟩
def St.new (σ : St) (id : Nat) (o : Ow) : St := { σ with own := (id, o) :: σ.own }
theorem new_h (σ : St) (id : Nat) (o : Ow) : (σ.new id o).h = fun i => if i = id then some o else σ.h i := by
  funext i
  show (if id = i then some o else look σ.own i) = _
  by_cases e : i = id
  · subst e; simp
  · rw [if_neg (Ne.symm e), if_neg e]; rfl
theorem Sim.alloc (s : Sim P N w0 S0 β σ a w) {id : Nat} {xs : List Cl} {us : List Value} (T : TypeId) (hz : id < zed) (hid : σ.h id = none) (r : All2 (RepC P (Sd w0 S0 β σ.h w) β σ.h w) xs us) :
    Sim P N w0 S0 (fun i => if i = id then .pointer (some ⟨w.heap.size, 0, none⟩) else β i) (σ.new id (.cells xs T)) a (w.alloc (.cells us.toArray T)) ∧
    RepC P (Sd w0 S0 (fun i => if i = id then .pointer (some ⟨w.heap.size, 0, none⟩) else β i) (σ.new id (.cells xs T)).h (w.alloc (.cells us.toArray T))) (fun i => if i = id then .pointer (some ⟨w.heap.size, 0, none⟩) else β i) (σ.new id (.cells xs T)).h (w.alloc (.cells us.toArray T)) (.own id 0) (.pointer (some ⟨w.heap.size, 0, none⟩)) := by
  have e : Ext w (w.alloc (.cells us.toArray T)) := (Ext.refl w).alloc _
  have hS : ∀ b, Sd w0 S0 β σ.h w b → Sd w0 S0 (fun i => if i = id then .pointer (some ⟨w.heap.size, 0, none⟩) else β i) (σ.new id (.cells xs T)).h (w.alloc (.cells us.toArray T)) b := fun b hb => by
    rw [new_h]; exact sd_fresh hid rfl e.size hb
  have k : Steps' P (Sd w0 S0 β σ.h w) (Sd w0 S0 (fun i => if i = id then .pointer (some ⟨w.heap.size, 0, none⟩) else β i) (σ.new id (.cells xs T)).h (w.alloc (.cells us.toArray T))) β (fun i => if i = id then .pointer (some ⟨w.heap.size, 0, none⟩) else β i) σ.h (σ.new id (.cells xs T)).h w (w.alloc (.cells us.toArray T)) := by
    refine ⟨fun x v r => (r.ext e).mono hS, fun i ys T' hh => ?_, fun i ver E ys hh => ?_, fun i f ys hh => ?_⟩
    · have hne : i ≠ id := fun e => by rw [e, hid] at hh; cases hh
      exact ⟨⟨ys, T', by rw [new_h]; simp [hne, hh]⟩, by simp [hne]⟩
    · have hne : i ≠ id := fun e => by rw [e, hid] at hh; cases hh
      exact ⟨ver, E, ys, by rw [new_h]; simp [hne, hh], Nat.le_refl _, fun _ => by simp [hne]⟩
    · have hne : i ≠ id := fun e => by rw [e, hid] at hh; cases hh
      exact ⟨⟨f, ys, by rw [new_h]; simp [hne, hh]⟩, by simp [hne]⟩
  refine ⟨⟨s.ext.ext e s.hK, s.hK, fun i o0 hi0 => ⟨(s.kept i o0 hi0).1, fun o ho => ?_⟩, fun i j oi oj b hi hj hbi hbj => ?_, fun i o b hi hb => ?_, fun i o hi => ?_, fun t => (s.tmp t).step k, s.sz, s.dfr⟩, ⟨xs, T, w.heap.size, by rw [new_h]; simp, by simp, rfl⟩⟩
  · have hz' := (s.kept i o0 hi0).1
    have hne : i ≠ id := by omega
    rw [new_h] at ho; simp only [hne, if_false] at ho
    simp only [hne, if_false]
    exact (s.kept i o0 hi0).2 o ho
  · rw [new_h] at hi hj
    by_cases ei : i = id <;> by_cases ej : j = id
    · rw [ei, ej]
    · simp only [ei, if_true, ej, if_false] at hbi hbj hj
      have := (s.new j oj b hj hbj).2
      simp [bk] at hbi; omega
    · simp only [ei, if_false, ej, if_true] at hbi hbj hi
      have := (s.new i oi b hi hbi).2
      simp [bk] at hbj; omega
    · simp only [ei, ej, if_false] at hi hj hbi hbj
      exact s.inj i j oi oj b hi hj hbi hbj
  · rw [new_h] at hi
    by_cases ei : i = id
    · simp only [ei, if_true] at hb
      simp [bk] at hb; subst hb
      exact ⟨fun hk => by have := s.hK _ hk; have := s.ext.size; omega, by rw [size_alloc]; omega⟩
    · simp only [ei, if_false] at hi hb
      exact ⟨(s.new i o b hi hb).1, by rw [size_alloc]; have := (s.new i o b hi hb).2; omega⟩
  · by_cases ei : i = id
    · rw [new_h] at hi; simp only [ei, if_true] at hi; cases hi
      rw [ei]
      simp only [if_true]
      exact ⟨w.heap.size, us, rfl, heap_alloc_new w _, r.imp fun _ _ _ r => r.step k⟩
    · have hi' := hi
      rw [new_h] at hi; simp only [ei, if_false] at hi
      have := s.own i o hi
      simp only [ei, if_false]
      cases o with
      | cells ys T' => obtain ⟨b, vs, h1, h2, h3⟩ := this; exact ⟨b, vs, h1, e.heap h2, h3.imp fun _ _ _ r => r.step k⟩
      | arr ver E ys =>
        obtain ⟨h1, h2, h3⟩ := this
        exact ⟨((h1.ext (framedRDs P) e).frame (framedRDs P) (fun _ _ => rfl) (fun _ _ => rfl) (fun _ h => h) hS), h2, h3⟩
      | clo f ys => obtain ⟨vs, h1, h3⟩ := this; exact ⟨vs, h1.frame hS (fun b hb => e.block b hb.2.1) fun b hb => e.block b (s.new i _ b hi hb).2, h3.imp fun _ _ _ r => r.step k⟩
theorem Sim.closure (s : Sim P N w0 S0 β σ a w) {id : Nat} {xs : List Cl} {us : List Value} (f : FuncId) (hz : id < zed) (hid : σ.h id = none) (r : All2 (RepC P (Sd w0 S0 β σ.h w) β σ.h w) xs us) :
    Sim P N w0 S0 (fun i => if i = id then .func (.func f) #[] us.toArray else β i) (σ.new id (.clo (.fn f) xs)) a w ∧
    RepC P (Sd w0 S0 (fun i => if i = id then .func (.func f) #[] us.toArray else β i) (σ.new id (.clo (.fn f) xs)).h w) (fun i => if i = id then .func (.func f) #[] us.toArray else β i) (σ.new id (.clo (.fn f) xs)).h w (.fn id) (.func (.func f) #[] us.toArray) := by
  have hS : ∀ b, Sd w0 S0 β σ.h w b → Sd w0 S0 (fun i => if i = id then .func (.func f) #[] us.toArray else β i) (σ.new id (.clo (.fn f) xs)).h w b := fun b hb => ⟨hb.1, hb.2.1, fun i o ho => by
    rw [new_h] at ho
    by_cases e : i = id
    · simp only [e, if_true]; simp [bk, Value.ownBlock]
    · simp only [e, if_false] at ho ⊢; exact hb.2.2 i o ho⟩
  have k : Steps' P (Sd w0 S0 β σ.h w) (Sd w0 S0 (fun i => if i = id then .func (.func f) #[] us.toArray else β i) (σ.new id (.clo (.fn f) xs)).h w) β (fun i => if i = id then .func (.func f) #[] us.toArray else β i) σ.h (σ.new id (.clo (.fn f) xs)).h w w := by
    refine ⟨fun x v r => r.mono hS, fun i ys T' hh => ?_, fun i ver E ys hh => ?_, fun i f ys hh => ?_⟩
    · have hne : i ≠ id := fun e => by rw [e, hid] at hh; cases hh
      exact ⟨⟨ys, T', by rw [new_h]; simp [hne, hh]⟩, by simp [hne]⟩
    · have hne : i ≠ id := fun e => by rw [e, hid] at hh; cases hh
      exact ⟨ver, E, ys, by rw [new_h]; simp [hne, hh], Nat.le_refl _, fun _ => by simp [hne]⟩
    · have hne : i ≠ id := fun e => by rw [e, hid] at hh; cases hh
      exact ⟨⟨f, ys, by rw [new_h]; simp [hne, hh]⟩, by simp [hne]⟩
  refine ⟨⟨s.ext, s.hK, fun i o0 hi0 => ⟨(s.kept i o0 hi0).1, fun o ho => ?_⟩, fun i j oi oj b hi hj hbi hbj => ?_, fun i o b hi hb => ?_, fun i o hi => ?_, fun t => (s.tmp t).step k, s.sz, s.dfr⟩, ⟨.fn f, xs, by rw [new_h]; simp, by simp, rfl⟩⟩
  · have hz' := (s.kept i o0 hi0).1
    have hne : i ≠ id := by omega
    rw [new_h] at ho; simp only [hne, if_false] at ho
    simp only [hne, if_false]
    exact (s.kept i o0 hi0).2 o ho
  · rw [new_h] at hi hj
    by_cases ei : i = id
    · simp only [ei, if_true] at hbi; simp [bk, Value.ownBlock] at hbi
    · by_cases ej : j = id
      · simp only [ej, if_true] at hbj; simp [bk, Value.ownBlock] at hbj
      · simp only [ei, ej, if_false] at hi hj hbi hbj
        exact s.inj i j oi oj b hi hj hbi hbj
  · rw [new_h] at hi
    by_cases ei : i = id
    · simp only [ei, if_true] at hb; simp [bk, Value.ownBlock] at hb
    · simp only [ei, if_false] at hi hb
      exact s.new i o b hi hb
  · by_cases ei : i = id
    · rw [new_h] at hi; simp only [ei, if_true] at hi; cases hi
      rw [ei]
      simp only [if_true]
      exact ⟨us, rfl, r.imp fun _ _ _ r => r.step k⟩
    · rw [new_h] at hi; simp only [ei, if_false] at hi
      have := s.own i o hi
      simp only [ei, if_false]
      cases o with
      | cells ys T' => obtain ⟨b, vs, h1, h2, h3⟩ := this; exact ⟨b, vs, h1, h2, h3.imp fun _ _ _ r => r.step k⟩
      | arr ver E ys =>
        obtain ⟨h1, h2, h3⟩ := this
        exact ⟨h1.frame (framedRDs P) (fun _ _ => rfl) (fun _ _ => rfl) (fun _ h => h) hS, h2, h3⟩
      | clo f ys => obtain ⟨vs, h1, h3⟩ := this; exact ⟨vs, h1.mono hS, h3.imp fun _ _ _ r => r.step k⟩
end
end Go.Smd
end
section
set_option linter.unusedSimpArgs false
namespace Go.Smd
open Go.RowKit
def evalPure (P : Program) {α : Type} : Sem α → Option α
  | .pure a => some a
  | .program k => evalPure P (k P)
  | .mark _ k => evalPure P k
  | _ => none
theorem evalPure_run {P : Program} {α : Type} : ∀ {s : Sem α} {a : α} (w : World), evalPure P s = some a → s.run P w = .ok a w
  | .pure a, b, w, h => by simp [evalPure] at h; subst h; rfl
  | .program k, b, w, h => evalPure_run (s := k P) w h
  | .mark m k, b, w, h => evalPure_run (s := k) w h
  | .load .., _, _, h | .store .., _, _, h | .new .., _, _, h | .shape .., _, _, h | .freeze .., _, _, h | .frozen .., _, _, h | .getObj .., _, _, h | .setObj .., _, _, h | .choose .., _, _, h | .sys .., _, _, h | .halt .., _, _, h => by simp [evalPure] at h
def _root_.Go.Program.lay (P : Program) (T : TypeId) : Option (Nat × Bool) :=
  match P.info? T, P.underlying T with
  | some i, some d => some (i.size, match d with | .struct _ | .array _ _ => true | _ => false)
  | _, _ => none
def _root_.Go.Program.fld (P : Program) (T f : Nat) : Option (Nat × Nat × Bool) :=
  match P.underlying T with
  | some (.struct fs) => (fs[f]?).bind fun fd => (P.lay fd.type).map fun q => (fd.offset, q.1, q.2)
  | _ => none
def _root_.Go.Program.elemT (P : Program) (T : TypeId) : Option TypeId := match P.underlying T with | some (.slice e) => some e | _ => none
def St.ev (σ : St) : Operand → Av
  | .tmp t => σ.tmp t
  | .const v => if okVb v then .c (.d (.v v)) else .any
  | .func f => .c (.d (.v (.func (.func f) #[] #[])))
  | .global _ => .any
def valPure (P : Program) (s : Sem Value) : Option Av := match evalPure P s with | some x => if okVb x then some (.c (.d (.v x))) else none | none => none
def partA (off n : Nat) (g : Bool) (xs : List Cl) : Option Av := if g then some (.agg ((xs.drop off).take n)) else (xs[off]?).map .c
def isIfc : Av → Bool
  | .c (.io ..) | .c (.d (.ifc ..)) | .c (.d (.ifa ..)) => true
  | _ => false
def isIfcT (P : Program) (T : TypeId) : Option Bool := match P.underlying T with | some (.interface _) => some true | some _ => some false | none => none
def _root_.Go.Program.isMap (P : Program) (T : TypeId) : Bool := match P.underlying T with | some (.map _ _) => true | _ => false
def nilIfc (P : Program) (op : BinOp) (T : TypeId) : Option Av :=
  match op, isIfcT P T with
  | .eql, some true => some (.c (.d (.v (.bool false))))
  | .neq, some true => some (.c (.d (.v (.bool true))))
  | _, _ => none
def isNilT : Tree → Bool
  | .nil => true
  | _ => false
def isConst : Operand → Bool
  | .const _ => true
  | _ => false
def nilIs (P : Program) (op : BinOp) (T : TypeId) (oy : Operand) (b : Bool) : Option Av :=
  match op, isIfcT P T, isConst oy with
  | .eql, some true, true => some (.c (.d (.v (.bool b))))
  | .neq, some true, true => some (.c (.d (.v (.bool (!b)))))
  | _, _, _ => none
def binA (P : Program) (op : BinOp) (T : TypeId) (ox oy : Operand) (x y : Av) : Option Av :=
  match x, y with
  | .c (.d (.v .nilIface)), .c (.d (.v .nilIface)) => nilIs P op T oy true
  | .c (.d (.tr t)), .c (.d (.v .nilIface)) => nilIs P op T oy (isNilT t)
  | .c (.d (.v a)), .c (.d (.v b)) => valPure P (do eqGuard op T ox oy a b; binOp op T a b)
  | .c (.own _ _), .c (.d (.v (.pointer none))) | .c (.d (.pt _)), .c (.d (.v (.pointer none))) =>
    match op, P.underlying T with
    | .eql, some (.pointer _) => some (.c (.d (.v (.bool false))))
    | .neq, some (.pointer _) => some (.c (.d (.v (.bool true))))
    | _, _ => none
  | x, .c (.d (.v .nilIface)) => if isIfc x = true then nilIfc P op T else none
  | _, _ => none
def loadA (P : Program) (h : Nat → Option Ow) (T : TypeId) (x : Av) : Option Av :=
  match P.lay T, x with
  | some (n, g), .c (.own id off) =>
    match h id with
    | some (.cells xs _) => if off + n ≤ xs.length then partA off n g xs else none
    | _ => none
  | some (n, g), .c (.ga id k sz i) =>
    match h id with
    | some (.arr ver E xs) => if k = ver ∧ sz = P.cellsOf E ∧ n = sz ∧ 0 < sz then (xs[i]?).bind fun row => partA 0 n g (row.map .d) else none
    | _ => none
  | some (n, g), .c (.d (.pt xs)) => if n ≤ xs.length then (if g then some (.agg ((xs.take n).map .d)) else (xs[0]?).map fun d => .c (.d d)) else none
  | _, _ => none
def fieldAddrA (P : Program) (T f : Nat) (x : Av) : Option Av :=
  match P.fld T f, x with
  | some (o, n, _), .c (.own id off) => if n = 0 then none else some (.c (.own id (off + o)))
  | some (o, n, _), .c (.d (.pt xs)) => if n = 0 then none else some (.c (.d (.pt (xs.drop o))))
  | _, _ => none
def _root_.Go.Program.isStr (P : Program) (T : TypeId) : Bool := match P.underlying T with | some .string => true | _ => false
def indexAddrA (P : Program) (h : Nat → Option Ow) (T : TypeId) (x i : Av) : Option Av :=
  match x, i with
  | .c (.d (.sl E xs)), .c (.d (.v (.int _ j))) => if P.elemT T = some E ∧ 0 < P.cellsOf E ∧ 0 ≤ j then (xs[j.toNat]?).map fun r => .c (.d (.pt r)) else none
  | .c (.gs id k), .c (.d (.v (.int _ j))) => match h id with
    | some (.arr ver E xs) => if k = ver ∧ P.elemT T = some E ∧ 0 < P.cellsOf E ∧ 0 ≤ j ∧ j.toNat < xs.length then some (.c (.ga id k (P.cellsOf E) j.toNat)) else none
    | _ => none
  | _, _ => none
def lenA (P : Program) (h : Nat → Option Ow) (T : TypeId) (x : Av) : Option Av :=
  match x, P.underlying T with
  | .c (.d (.v (.string s))), some .string => some (.c (.d (.v (.int .i64 s.size))))
  | .c (.d (.v (.slice none 0 0))), some (.slice _) => some (.c (.d (.v (.int .i64 0))))
  | .c (.d (.sl _ xs)), some (.slice _) => if xs.length ≤ 9223372036854775807 then some (.c (.d (.v (.int .i64 xs.length)))) else none
  | .c (.gs id k), some (.slice _) => match h id with
    | some (.arr ver _ xs) => if k = ver ∧ xs.length ≤ 9223372036854775807 then some (.c (.d (.v (.int .i64 xs.length)))) else none
    | _ => none
  | _, _ => none
def mapLen (P : Program) (T : TypeId) (x : Av) : Option Av :=
  match x with
  | .c (.d (.mp m)) => if P.isMap T = true then some (.c (.d (.v (.int .i64 m.length)))) else none
  | _ => none
def lookA (P : Program) (T : TypeId) (x k : Av) (ok : Bool) : Option Av :=
  match x, k with
  | .c (.d (.mp m)), .c (.d (.v (.string s))) => if P.treeMap T = true ∧ (m.map (·.1)).Nodup then
      some (if ok = true then .tup [(false, [.d (.tr ((mget m s).getD .nil))]), (false, [.d (.v (.bool (mget m s).isSome))])] else .c (.d (.tr ((mget m s).getD .nil)))) else none
  | _, _ => none
def toDs : List Cl → Option (List D)
  | [] => some []
  | .d x :: l => (toDs l).map (x :: ·)
  | _ :: _ => none
def makeIfcA (P : Program) (T : TypeId) (x : Av) : Option Av :=
  match P.concrete T with
  | false => none
  | true => match x with
    | .c (.d x) => some (.c (.d (.ifc T x)))
    | .c (.own id off) => some (.c (.io T id off))
    | .agg xs => (toDs xs).map fun ds => .c (.d (.ifa T ds))
    | _ => none
def extractA (x : Av) (i : Nat) : Option Av :=
  match x with
  | .tup xs => match xs[i]? with
    | some (true, cs) => some (.agg cs)
    | some (false, [c]) => some (.c c)
    | _ => none
  | _ => none
def zeroCs (P : Program) (T : TypeId) : Option (List Cl) := ((P.info? T).bind (·.zero)).bind fun z => if z.cells.all okVb then some (z.cells.toList.map fun v => .d (.v v)) else none
def funcV (fn : Fn) (a b : Bool) : Option Av := match fn with | .func f => if a = true ∧ b = true then some (.c (.d (.v (.func (.func f) #[] #[])))) else none | _ => none
def zeroTup (P : Program) (T : TypeId) : Option Av := match (P.info? T).bind (·.zero) with
  | some (.agg cs) => if cs.all okVb = true then some (.tup [(true, cs.toList.map fun v => .d (.v v)), (false, [.d (.v (.bool false))])]) else none
  | some v => if okVb v = true then some (.tup [(false, [.d (.v v)]), (false, [.d (.v (.bool false))])]) else none
  | none => none
def _root_.Go.Program.fulfils (P : Program) (U T : TypeId) : Bool := match P.underlying U, P.info? T with | some (.interface want), some i => (Instr.missingMethod want i.methods).isNone | _, _ => false
def okTup (ok : Bool) (g : Bool) (cs : List Cl) : Option Av := if ok = true then some (.tup [(g, cs), (false, [.d (.v (.bool true))])]) else if g = true then some (.agg cs) else (match cs with | [c] => some (.c c) | _ => none)
def assertD (P : Program) (U : TypeId) (ok : Bool) (d : D) : Option Av :=
  match isIfcT P U with
  | some false => match d with
    | .ifc T x => if T = U then okTup ok false [.d x] else if ok = true then zeroTup P U else none
    | .ifa T xs => if T = U then okTup ok true (xs.map .d) else if ok = true then zeroTup P U else none
    | .v .nilIface => if ok = true then zeroTup P U else none
    | _ => none
  | some true => match d with
    | .ifc T x => if P.fulfils U T = true then okTup ok false [.d (.ifc T x)] else none
    | .ifa T xs => if P.fulfils U T = true then okTup ok false [.d (.ifa T xs)] else none
    | _ => none
  | none => none
def treeOk (P : Program) : Bool := P.cellsOf 20 == 1 && P.bytesOf 20 == 16
def assertA (P : Program) (U : TypeId) (ok : Bool) (x : Av) : Option Av :=
  match x with
  | .c (.d (.tr t)) => if treeOk P = true then assertD P U ok (trD t) else none
  | .c (.d d) => assertD P U ok d
  | _ => none
def cellsA : Av → Option (List Cl)
  | .c x => some [x]
  | .agg xs => some xs
  | _ => none
def splice {α : Type} (xs : List α) (off : Nat) (ys : List α) : List α := xs.take off ++ ys ++ xs.drop (off + ys.length)
def fillA (place : Nat → Option (Nat × Nat)) : List Cl → List (Nat × Av) → Option (List Cl)
  | cs, [] => some cs
  | cs, (i, x) :: rest => match place i, cellsA x with
    | some (off, n), some ys => if ys.length = n ∧ off + n ≤ cs.length then fillA place (splice cs off ys) rest else none
    | _, _ => none
def placeS (P : Program) (T : TypeId) (i : Nat) : Option (Nat × Nat) := (P.fld T i).map fun q => (q.1, q.2.1)
def _root_.Go.Program.strOk (P : Program) (T : TypeId) : Bool := match P.underlying T with | some (.struct fs) => fs.all fun f => (P.lay f.type).isSome | _ => false
def buildA (P : Program) (σ : St) (T : TypeId) (parts : List (Nat × Operand)) : Option Av :=
  match P.strOk T, zeroCs P T with
  | true, some z => (fillA (placeS P T) z (parts.map fun p => (p.1, σ.ev p.2))).map .agg
  | _, _ => none
def boundA (d : Int) : Option Av → Option Int
  | none => some d
  | some (.c (.d (.v (.int _ n)))) => some n
  | _ => none
def sliceA (P : Program) (T : TypeId) (x : Av) (lo hi : Option Av) : Option Av :=
  match x with
  | .c (.d (.sl E xs)) =>
    match boundA 0 lo, boundA xs.length hi with
    | some l, some u => if P.elemT T = some E ∧ (P.info? E).isSome ∧ 0 ≤ l ∧ l ≤ u ∧ u ≤ xs.length then some (.c (.d (.sl E ((xs.take u.toNat).drop l.toNat)))) else none
    | _, _ => none
  | _ => none
def intsA : List Av → Option (List Int)
  | [] => some []
  | .c (.d (.v (.int .i64 a))) :: l => (intsA l).map (a :: ·)
  | _ => none
def minA (xs : List Av) : Option Av := match intsA xs with
  | some (a :: l) => some (.c (.d (.v (.int .i64 (l.foldl min a)))))
  | _ => none
def indexA (P : Program) (T : TypeId) (x i : Av) : Option Av :=
  match x, i with
  | .c (.d (.v (.string s))), .c (.d (.v (.int _ j))) => if P.isStr T = true ∧ 0 ≤ j ∧ j.toNat < s.size then some (.c (.d (.v (.int .u8 ((s[j.toNat]?).getD 0).toNat)))) else none
  | _, _ => none
def lenCall (P : Program) (σ : St) (c : Call) : Option Av :=
  match c.callee with
  | .builtin .min => minA (c.args.toList.map σ.ev)
  | .builtin .len => match c.args.toList, c.argTypes.toList with
    | [x], [T] => match mapLen P T (σ.ev x) with
      | some r => some r
      | none => lenA P σ.h T (σ.ev x)
    | _, _ => none
  | _ => none
def vval (P : Program) (σ : St) (o : Oper) : Option Av :=
  match o.op with
  | .move x | .assign x => some (σ.ev x)
  | .pick c a b => match σ.ev c with | .c (.d (.v (.bool t))) => some (if t then σ.ev a else σ.ev b) | _ => none
  | .unOp op _ x => match σ.ev x with | .c (.d (.v v)) => valPure P (Op.unary op v) | _ => none
  | .binOp op T x y _ => binA P op T x y (σ.ev x) (σ.ev y)
  | .convert s d x => match σ.ev x with | .c (.d (.v v)) => valPure P (convert s d v) | _ => none
  | .field T x f => match P.fld T f, σ.ev x with | some (off, n, g), .agg xs => partA off n g xs | _, _ => none
  | .fieldAddr T x f => fieldAddrA P T f (σ.ev x)
  | .load T x => loadA P σ.h T (σ.ev x)
  | .indexAddr T x i => indexAddrA P σ.h T (σ.ev x) (σ.ev i)
  | .index T x i => indexA P T (σ.ev x) (σ.ev i)
  | .extract x i => extractA (σ.ev x) i
  | .nilCheck x => match σ.ev x with | .c (.own id off) => some (.c (.own id off)) | .c (.d (.pt xs)) => some (.c (.d (.pt xs))) | .c (.io T id off) => some (.c (.io T id off)) | .c (.d (.ifc T y)) => some (.c (.d (.ifc T y))) | _ => none
  | .typeAssert x _ U ok => assertA P U ok (σ.ev x)
  | .makeFunc fn first caps => funcV fn first.isEmpty caps.isEmpty
  | .lookup T x k ok => lookA P T (σ.ev x) (σ.ev k) ok
  | .makeInterface T x => makeIfcA P T (σ.ev x)
  | .build T parts => buildA P σ T parts.toList
  | .slice T x lo hi none => sliceA P T (σ.ev x) (lo.map σ.ev) (hi.map σ.ev)
  | .call c => lenCall P σ c
  | _ => none
section
variable {P : Program} {N : Nat} {w0 : World} {S0 : Env} {β : Nat → Value} {σ : St} {a : Act} {w : World}
theorem Sim.ev (s : Sim P N w0 S0 β σ a w) (x : Operand) : RepA P (Sd w0 S0 β σ.h w) β σ.h w (σ.ev x) (a.eval x) := by
  cases x with
  | tmp t => exact s.tmp t
  | const v =>
    simp only [St.ev]
    split
    · next h => exact RepD.v h
    · trivial
  | func f => exact RepD.v (by simp [okVb])
  | global g => trivial
theorem valPure_run {s : Sem Value} {r : Av} (h : valPure P s = some r) {S : Nat → Prop} {β : Nat → Value} {hh : Nat → Option Ow} (w : World) : ∃ v, s.run P w = .ok v w ∧ RepA P S β hh w r v := by
  unfold valPure at h
  split at h
  · next x hx =>
    split at h
    · next hok => cases h; exact ⟨x, evalPure_run w hx, RepD.v hok⟩
    · cases h
  · cases h
theorem rep_v {S : Nat → Prop} {β : Nat → Value} {hh : Nat → Option Ow} {w : World} {x v : Value} (h : RepA P S β hh w (.c (.d (.v x))) v) : v = x ∧ okVb x = true := by
  cases (show RepD P w S (.v x) v from h) with
  | v k => exact ⟨rfl, k⟩
theorem rep_raw {S : Nat → Prop} {β : Nat → Value} {hh : Nat → Option Ow} {w : World} {x : Value} (h : okVb x = true) : RepA P S β hh w (.c (.d (.v x))) x := RepD.v h
theorem lay_spec {T n : Nat} {g : Bool} (h : P.lay T = some (n, g)) : ∃ i d, P.info? T = some i ∧ P.underlying T = some d ∧ i.size = n ∧ (match d with | .struct _ | .array _ _ => true | _ => false) = g := by
  unfold Go.Program.lay at h
  split at h
  · next i d hi hd => cases h; exact ⟨i, d, hi, hd, rfl, rfl⟩
  · cases h
theorem run_isAgg' {T n : Nat} {g : Bool} (h : P.lay T = some (n, g)) (w : World) : (isAgg T).run P w = .ok g w ∧ (sizeOf T).run P w = .ok n w := by
  obtain ⟨i, d, hi, hd, hn, hg⟩ := lay_spec h
  constructor
  · unfold isAgg
    rw [Sem.run_bind, run_underlying hd w]
    simp only [Result.andThen_ok]
    subst hg
    cases d <;> rfl
  · simp [sizeOf, typeInfo, hi, hn]
theorem run_loadVar' {T n : Nat} {g : Bool} (hl : P.lay T = some (n, g)) {ad : Addr} {us : List Value} (hn : us.length = n) (hc : ∀ j u, us[j]? = some u → w.cell? (ad.add j) = some u) (hg : g = true) :
    (loadVar T ad).run P w = .ok (.agg us.toArray) w := by
  obtain ⟨h1, h2⟩ := run_isAgg' hl w
  have h3 := run_loadCells_list (P := P) w ad us hc
  subst hg; subst hn
  simp [loadVar, Sem.run_bind, h1, h2, h3]
theorem run_loadVar1 {T n : Nat} (hl : P.lay T = some (n, false)) {ad : Addr} {u : Value} (hc : w.cell? ad = some u) : (loadVar T ad).run P w = .ok u w := by
  obtain ⟨h1, h2⟩ := run_isAgg' hl w
  simp [loadVar, Sem.run_bind, h1, run_load, hc]
theorem add_at (b o j : Nat) : (⟨b, o, none⟩ : Addr).add j = ⟨b, o + j, none⟩ := by unfold Addr.add; split <;> simp_all
theorem partA_rep {S : Nat → Prop} {hh : Nat → Option Ow} {off n : Nat} {g : Bool} {xs : List Cl} {us : List Value} {r : Av} (h : partA off n g xs = some r) (k : All2 (RepC P S β hh w) xs us) :
    (g = true → RepA P S β hh w r (.agg ((us.drop off).take n).toArray)) ∧ (g = false → ∃ u, us[off]? = some u ∧ RepA P S β hh w r u) := by
  unfold partA at h
  split at h
  · next hg => cases h; subst hg; exact ⟨fun _ => ⟨_, rfl, (k.drop off).take n⟩, fun h => by cases h⟩
  · next hg =>
    refine ⟨fun h => absurd h hg, fun _ => ?_⟩
    obtain ⟨x, hx, rfl⟩ := Option.map_eq_some_iff.1 h
    obtain ⟨u, hu, hr⟩ := k.at hx
    exact ⟨u, hu, hr⟩
theorem all2_d {S : Nat → Prop} {hh : Nat → Option Ow} {row : List D} {cs : List Value} (h : All2 (RepD P w S) row cs) : All2 (RepC P S β hh w) (row.map .d) cs := by
  induction h with
  | nil => exact .nil
  | cons h t ih => exact .cons h ih
theorem loadA_run (s : Sim P N w0 S0 β σ a w) {T : TypeId} {x r : Av} {v : Value} (h : loadA P σ.h T x = some r) (hx : RepA P (Sd w0 S0 β σ.h w) β σ.h w x v) :
    ∃ u, (Instr.loadAt T v).run P w = .ok u w ∧ RepA P (Sd w0 S0 β σ.h w) β σ.h w r u := by
  unfold loadA at h
  split at h
  · next n g id off hlay =>
    split at h
    · next xs T' hid =>
      split at h
      · next hle =>
        obtain ⟨ys, T'', b, h1, h2, rfl⟩ := hx
        rw [hid] at h1; cases h1
        obtain ⟨b', us, h3, h4, h5⟩ := s.own id _ hid
        rw [h2] at h3; cases h3
        obtain ⟨q1, q2⟩ := partA_rep h h5
        have hlen := h5.length
        have hcell : ∀ j u, us[j]? = some u → w.cell? ⟨b, j, none⟩ = some u := fun j u hu => cell_of h4 (by simpa using hu)
        cases g with
        | true =>
          refine ⟨_, ?_, q1 rfl⟩
          show (loadVar T ⟨b, off, none⟩).run P w = _
          refine run_loadVar' hlay (by rw [List.length_take, List.length_drop]; omega) (fun j u hu => ?_) rfl
          rw [add_at]
          rw [List.getElem?_take] at hu
          split at hu
          · rw [List.getElem?_drop] at hu; exact hcell _ _ hu
          · cases hu
        | false =>
          obtain ⟨u, hu, hr⟩ := q2 rfl
          exact ⟨u, run_loadVar1 hlay (hcell _ _ hu), hr⟩
      · cases h
    · cases h
  · next n g id k sz i hlay =>
    split at h
    · next ver E xs hid =>
      split at h
      · next hc =>
        obtain ⟨rfl, rfl, rfl, hpos⟩ := hc
        obtain ⟨row, hrow, h⟩ := Option.bind_eq_some_iff.1 h
        obtain ⟨ver, E', xs', h1, _, h3, _⟩ := hx
        rw [hid] at h1; cases h1
        obtain ⟨b, n, c, hs, rfl⟩ := h3 rfl
        obtain ⟨hB, _, hl⟩ := s.own id _ hid
        obtain ⟨A, c', hs2, _, hel⟩ := hB.done (framedRDs P) hpos
        obtain ⟨ad, cs, ha, _, hr, hcl, hcells⟩ := hel i row hrow
        have hlr := hl row (List.mem_of_getElem? hrow)
        have hlc := All2.length hr
        rw [hs] at hs2
        injection hs2 with e1 e2 e3
        subst e1
        cases ha
        obtain ⟨q1, q2⟩ := partA_rep h (all2_d (β := β) (hh := σ.h) hr)
        have hcell : ∀ j u, cs[j]? = some u → w.cell? ⟨b, i * P.cellsOf E + j, none⟩ = some u := fun j u hu => by
          have := hcells j u hu
          rwa [add_at, add_at, Nat.zero_add] at this
        cases g with
        | true =>
          refine ⟨_, ?_, q1 rfl⟩
          show (loadVar T ⟨b, i * P.cellsOf E, none⟩).run P w = _
          refine run_loadVar' hlay (by rw [List.length_take, List.length_drop]; omega) (fun j u hu => ?_) rfl
          rw [add_at]
          rw [List.getElem?_take] at hu
          split at hu
          · rw [List.drop_zero] at hu; exact hcell _ _ hu
          · cases hu
        | false =>
          obtain ⟨u, hu, hr⟩ := q2 rfl
          exact ⟨u, run_loadVar1 hlay (hcell 0 u hu), hr⟩
      · cases h
    · cases h
  · next n g xs hlay =>
    split at h
    · next hle =>
      obtain ⟨ad, rfl, hrow⟩ := RepD.pt_iff.1 (show RepD P w _ (.pt xs) v from hx)
      have key : ∃ us : List Value, us.length = xs.length ∧ All2 (RepD P w (Sd w0 S0 β σ.h w)) xs us ∧ ∀ j u, us[j]? = some u → w.cell? (ad.add j) = some u := by
        refine ⟨(List.range xs.length).map fun i => (w.cell? (ad.add i)).getD undef, by simp, All2.of (by simp) fun i d u hi hu => ?_, fun j u hu => ?_⟩
        · obtain ⟨u', _, hc, hr⟩ := hrow i d hi
          rw [List.getElem?_map] at hu
          obtain ⟨i', hi', rfl⟩ := Option.map_eq_some_iff.1 hu
          obtain ⟨hlt, rfl⟩ := List.getElem?_eq_some_iff.1 hi'
          simp only [List.getElem_range, hc, Option.getD_some]; exact hr
        · rw [List.getElem?_map] at hu
          obtain ⟨i', hi', rfl⟩ := Option.map_eq_some_iff.1 hu
          obtain ⟨hlt, rfl⟩ := List.getElem?_eq_some_iff.1 hi'
          simp only [List.length_range] at hlt
          obtain ⟨u', _, hc, hr⟩ := hrow j xs[j] (List.getElem?_eq_getElem hlt)
          simp only [List.getElem_range, hc, Option.getD_some]
      obtain ⟨us, hul, hall, hcs⟩ := key
      split at h
      · next hg =>
        cases h
        refine ⟨.agg (us.take n).toArray, run_loadVar' hlay (by rw [List.length_take]; omega) (fun j u hu => ?_) hg, _, rfl, ?_⟩
        · rw [List.getElem?_take] at hu
          split at hu
          · exact hcs j u hu
          · cases hu
        · have := hall.take n
          clear hcs hrow hul
          revert this
          generalize xs.take n = ys; generalize us.take n = vs
          intro this
          induction this with
          | nil => exact .nil
          | cons h t ih => exact .cons h ih
      · next hg =>
        obtain ⟨d, hd, rfl⟩ := Option.map_eq_some_iff.1 h
        obtain ⟨u, hu, hr⟩ := hall.at hd
        have hg' : g = false := by cases g <;> simp_all
        subst hg'
        exact ⟨u, run_loadVar1 hlay (by have := hcs 0 u hu; simpa [Addr.add] using this), hr⟩
    · cases h
  · cases h
theorem fieldAddrA_run {S : Nat → Prop} {hh : Nat → Option Ow} {T f : Nat} {x r : Av} {v : Value} (h : fieldAddrA P T f x = some r) (hx : RepA P S β hh w x v) : ∃ u, (Instr.fieldAt T v f).run P w = .ok u w ∧ RepA P S β hh w r u := by
  have key : ∀ {o n g} {ad : Addr}, P.fld T f = some (o, n, g) → n ≠ 0 → (Instr.fieldAt T (.pointer (some ad)) f).run P w = .ok (.pointer (some (ad.add o))) w := by
    intro o n g ad hf hn
    unfold Go.Program.fld at hf
    split at hf
    · next fs hu =>
      obtain ⟨fd, hfd, hm⟩ := Option.bind_eq_some_iff.1 hf
      obtain ⟨⟨n', g'⟩, hl, he⟩ := Option.map_eq_some_iff.1 hm
      cases he
      have hs := (run_isAgg' hl w).2
      simp [Instr.fieldAt, Sem.run_bind, run_underlying hu, hfd, Instr.sureAddr, fieldPlace, hs, hn]
    · cases hf
  unfold fieldAddrA at h
  split at h
  · next o n g id off hf =>
    split at h
    · cases h
    · next hn =>
      cases h
      obtain ⟨xs, T', b, h1, h2, rfl⟩ := hx
      exact ⟨_, key hf hn, xs, T', b, h1, h2, by rw [add_at]⟩
  · next o n g xs hf =>
    split at h
    · cases h
    · next hn =>
      cases h
      obtain ⟨ad, rfl, hrow⟩ := RepD.pt_iff.1 (show RepD P w S (.pt xs) v from hx)
      exact ⟨_, key hf hn, RepD.pt_iff.2 ⟨_, rfl, hrow.drop o⟩⟩
  · cases h
theorem elemT_spec {T E : TypeId} (h : P.elemT T = some E) : P.underlying T = some (.slice E) := by
  unfold Go.Program.elemT at h
  split at h
  · next hu => cases h; exact hu
  · cases h
theorem run_sizeOf_pos {E : TypeId} (h : 0 < P.cellsOf E) (w : World) : (sizeOf E).run P w = .ok (P.cellsOf E) w := by
  unfold Go.Program.cellsOf at *
  cases hi : P.info? E with
  | none => rw [hi] at h; simp at h
  | some i => simp [sizeOf, typeInfo, hi]
theorem rowForm (s : Sim P N w0 S0 β σ a w) {id ver : Nat} {E : TypeId} {xs : List (List D)} (hid : σ.h id = some (.arr ver E xs)) (hn : 0 < xs.length) :
    ∃ b c, β id = .slice (some ⟨b, 0, none⟩) xs.length c ∧ xs.length ≤ c := by
  obtain ⟨⟨cs, ho, _⟩, _⟩ := s.own id _ hid
  rcases ho.2 with ⟨h5, h6⟩ | ⟨b, cap, cur, h5, _, _, h6, _⟩
  · omega
  · exact ⟨b, cap, h5, h6⟩
theorem indexA_run {T : TypeId} {x i r : Av} {v u : Value} {S : Nat → Prop} {hh : Nat → Option Ow} (h : indexA P T x i = some r) (hx : RepA P S β hh w x v) (hi : RepA P S β hh w i u) : ∃ z, (Instr.index T v u).run P w = .ok z w ∧ RepA P S β hh w r z := by
  unfold indexA at h
  split at h
  · next b k j =>
    obtain ⟨rfl, _⟩ := rep_v hi
    obtain ⟨rfl, _⟩ := rep_v hx
    split at h
    · next hc =>
      obtain ⟨hT, hj, hl⟩ := hc
      cases h
      have hT : P.underlying T = some .string := by
        unfold Go.Program.isStr at hT
        split at hT
        · assumption
        · cases hT
      have hb := b[j.toNat].toNat_lt
      have e : b[j.toNat]? = some b[j.toNat] := by simp [hl]
      refine ⟨_, ?_, rep_raw ?_⟩
      · simp [Instr.index, Sem.run_bind, asIntOf, run_underlying hT, hj, e]
      · simp only [e, Option.getD_some, okVb, okInt, Bool.and_eq_true, decide_eq_true_eq]; omega
    · cases h
  · cases h
theorem indexAddrA_run (s : Sim P N w0 S0 β σ a w) {T : TypeId} {x i r : Av} {v u : Value} (h : indexAddrA P σ.h T x i = some r) (hx : RepA P (Sd w0 S0 β σ.h w) β σ.h w x v) (hi : RepA P (Sd w0 S0 β σ.h w) β σ.h w i u) : ∃ z, (Instr.indexAt T v u).run P w = .ok z w ∧ RepA P (Sd w0 S0 β σ.h w) β σ.h w r z := by
  unfold indexAddrA at h
  split at h
  · next E xs k j =>
    obtain ⟨rfl, _⟩ := rep_v hi
    split at h
    · next hc =>
      obtain ⟨hE, hpos, hj⟩ := hc
      obtain ⟨row, hr, rfl⟩ := Option.map_eq_some_iff.1 h
      obtain ⟨A, c, rfl, _, _, hrow⟩ := RepD.sl_iff.1 (show RepD P w _ (.sl E xs) v from hx)
      obtain ⟨ad, rfl, hq⟩ := (hrow _ row hr).2 hpos
      have hlt := (List.getElem?_eq_some_iff.1 hr).1
      refine ⟨.pointer (some (ad.add (j.toNat * P.cellsOf E))), ?_, RepD.pt_iff.2 ⟨_, rfl, hq⟩⟩
      have hjl : j < (xs.length : Int) := by omega
      simp [Instr.indexAt, Sem.run_bind, asIntOf, run_underlying (elemT_spec hE), run_sizeOf_pos hpos, hj, hjl, Result.andThen]
    · cases h
  · next id kv kd j =>
    obtain ⟨rfl, _⟩ := rep_v hi
    split at h
    · next ver E xs hid =>
      split at h
      · next hc =>
        obtain ⟨rfl, hE, hpos, hj, hjl⟩ := hc
        cases h
        obtain ⟨ver, E', xs', h1, _, h3, _⟩ := hx
        rw [hid] at h1; cases h1
        obtain ⟨b, c, hs, _⟩ := rowForm s hid (by omega)
        have hv := h3 rfl
        rw [hs] at hv; subst hv
        have hjl : j < (xs.length : Int) := by omega
        refine ⟨.pointer (some ⟨b, j.toNat * P.cellsOf E, none⟩), ?_, kv, E, xs, hid, Nat.le_refl _, fun _ => ⟨b, _, c, hs, rfl⟩, rfl⟩
        simp [Instr.indexAt, Sem.run_bind, asIntOf, run_underlying (elemT_spec hE), run_sizeOf_pos hpos, hj, hjl, Result.andThen, add_at]
      · cases h
    · cases h
  · cases h
theorem lenA_run (s : Sim P N w0 S0 β σ a w) {T ty : TypeId} {x r : Av} {v : Value} (h : lenA P σ.h T x = some r) (hx : RepA P (Sd w0 S0 β σ.h w) β σ.h w x v) :
    ∃ u, (Builtin.len_ #[T] ty #[v]).run P w = .ok u w ∧ RepA P (Sd w0 S0 β σ.h w) β σ.h w r u := by
  unfold lenA at h
  split at h
  · next str hu =>
    cases h
    obtain ⟨rfl, hok⟩ := rep_v hx
    refine ⟨.int .i64 str.size, ?_, rep_raw ?_⟩
    · simp [Builtin.len_, Sem.run_bind, run_underlying hu, goInt]
    · simp [okVb, okInt] at hok ⊢; omega
  · next e hu =>
    cases h
    obtain ⟨rfl, _⟩ := rep_v hx
    refine ⟨.int .i64 0, ?_, rep_raw (by simp [okVb, okInt])⟩
    simp [Builtin.len_, Sem.run_bind, run_underlying hu, goInt]
  · next E xs e hu =>
    split at h
    · next hl =>
      cases h
      obtain ⟨A, c, rfl, _⟩ := RepD.sl_iff.1 (show RepD P w _ (.sl E xs) v from hx)
      refine ⟨.int .i64 xs.length, ?_, rep_raw (by simp [okVb, okInt]; omega)⟩
      simp [Builtin.len_, Sem.run_bind, run_underlying hu, goInt]
    · cases h
  · next id k e hu =>
    split at h
    · next ver E xs hid =>
      split at h
      · next hl =>
        cases h
        obtain ⟨ver', E', xs', h1, _, h3, _⟩ := hx
        rw [hid] at h1; cases h1
        have hv := h3 hl.1
        obtain ⟨A, c, hs⟩ := (s.own id _ hid).1.slice
        rw [hs] at hv; subst hv
        refine ⟨.int .i64 xs.length, ?_, rep_raw (by simp [okVb, okInt]; omega)⟩
        simp [Builtin.len_, Sem.run_bind, run_underlying hu, goInt]
      · cases h
    · cases h
  · cases h
theorem toDs_rep {S : Nat → Prop} {hh : Nat → Option Ow} : ∀ {xs : List Cl} {ds : List D} {us : List Value}, toDs xs = some ds → All2 (RepC P S β hh w) xs us → All2 (RepD P w S) ds us
  | [], ds, us, h, k => by cases h; cases k; exact .nil
  | .d x :: l, ds, us, h, k => by
    cases k with
    | cons h1 t =>
      simp only [toDs] at h
      obtain ⟨ds', hd, rfl⟩ := Option.map_eq_some_iff.1 h
      exact .cons h1 (toDs_rep hd t)
  | .own .. :: _, _, _, h, _ | .gs .. :: _, _, _, h, _ | .ga .. :: _, _, _, h, _ | .io .. :: _, _, _, h, _ | .fn .. :: _, _, _, h, _ | .un :: _, _, _, h, _ => by simp [toDs] at h
theorem makeIfcA_run {S : Nat → Prop} {hh : Nat → Option Ow} {T : TypeId} {x r : Av} {v : Value} (h : makeIfcA P T x = some r) (hx : RepA P S β hh w x v) : ∃ u, (Instr.makeInterface T v).run P w = .ok u w ∧ RepA P S β hh w r u := by
  unfold makeIfcA at h
  split at h
  · cases h
  · next hc =>
    have hrun : (Instr.makeInterface T v).run P w = .ok (.iface T v) w := run_makeInterface w T v hc
    refine ⟨_, hrun, ?_⟩
    split at h
    · cases h; exact RepD.ifc hx
    · cases h; obtain ⟨xs, T', b, h1, h2, rfl⟩ := hx; exact ⟨xs, T', b, h1, h2, rfl⟩
    · next xs =>
      obtain ⟨ds, hd, rfl⟩ := Option.map_eq_some_iff.1 h
      obtain ⟨us, rfl, ha⟩ := hx
      have := toDs_rep hd ha
      exact RepD.ifa this.length.symm fun i d u hi hu => by obtain ⟨y, hy, hr⟩ := this.at hi; rw [hu] at hy; cases hy; exact hr
    · cases h
theorem extractA_run {S : Nat → Prop} {hh : Nat → Option Ow} {x r : Av} {v : Value} {i : Nat} (h : extractA x i = some r) (hx : RepA P S β hh w x v) : ∃ u, (Instr.extract v i).run P w = .ok u w ∧ RepA P S β hh w r u := by
  unfold extractA at h
  split at h
  · next xs =>
    obtain ⟨us, rfl, ha⟩ := hx
    split at h
    · next cs hi =>
      cases h
      obtain ⟨u, hu, hr⟩ := ha.at hi
      obtain ⟨us', rfl, h1⟩ := (show (∃ us', u = Value.agg (List.toArray us') ∧ All2 (RepC P S β hh w) cs us') by simpa [RepP] using hr)
      exact ⟨_, by simp [Instr.extract, hu], _, rfl, h1⟩
    · next c hi =>
      cases h
      obtain ⟨u, hu, hr⟩ := ha.at hi
      have hr' : RepC P S β hh w c u := by simpa [RepP] using hr
      exact ⟨u, by simp [Instr.extract, hu], hr'⟩
    · cases h
  · cases h
end
end Go.Smd
end
