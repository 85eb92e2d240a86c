/- The state of a call by value: its temporaries, the blocks that it made and still owns; how it stands for a frame and a memory. Over any program. -/
import Derived.Test.YtphldfnnjoehpaaAa
import Derived.Test.YtphldfnnjoehpaaLook
import Derived.Defers
set_option linter.unusedSimpArgs false
namespace Go.Smd
open Go.RowKit

/-- What a cell or a temporary holds: data; a pointer into a block of the call's own; a slice that the call is building; an interface value over a pointer of the call's own; a function value that holds what is the call's own. -/
inductive Cl where
  | d (x : D)
  | own (id off : Nat)
  | gs (id ver : Nat)
  | ga (id ver sz i : Nat)
  | io (T : TypeId) (id off : Nat)
  | fn (id : Nat)
  | un
inductive Av where
  | c (x : Cl)
  | agg (xs : List Cl)
  | tup (xs : List (Bool × List Cl))
  | any
/-- What a handle stands for: code, or a loop over a map under way. -/
inductive Hd where
  | fn (f : FuncId)
  | it (m : List (ByteArray × Tree)) (left : List ByteArray) (cur : Option ByteArray)
/-- A block of the call's own: a variable's cells; a row that is being built; code and the cells that it holds. -/
inductive Ow where
  | cells (xs : List Cl) (T : TypeId)
  | arr (ver : Nat) (E : TypeId) (xs : List (List D))
  | clo (f : Hd) (xs : List Cl)
structure St where
  tmps : List (Nat × Av)
  own : List (Nat × Ow)

def Cl.ids : Cl → List Nat
  | .own id _ | .gs id _ | .ga id _ _ _ | .io _ id _ | .fn id => [id]
  | _ => []
def Av.ids : Av → List Nat
  | .c x => x.ids
  | .agg xs => xs.flatMap Cl.ids
  | .tup xs => xs.flatMap fun p => p.2.flatMap Cl.ids
  | .any => []
def Ow.ids : Ow → List Nat
  | .cells xs _ => xs.flatMap Cl.ids
  | .arr .. => []
  | .clo _ xs => xs.flatMap Cl.ids
/-- The names that a value leads to, through own variables, too. -/
def Cl.deepN (h : Nat → Option Ow) : Nat → Cl → List Nat
  | 0, x => x.ids
  | n + 1, .own id _ => id :: (match h id with | some (.cells xs _) => xs.flatMap (Cl.deepN h n) | _ => [])
  | n + 1, .io _ id _ => id :: (match h id with | some (.cells xs _) => xs.flatMap (Cl.deepN h n) | _ => [])
  | _ + 1, .gs id _ => [id]
  | _ + 1, .ga id _ _ _ => [id]
  | n + 1, .fn id => id :: (match h id with | some (.clo _ xs) => xs.flatMap (Cl.deepN h n) | _ => [])
  | _ + 1, _ => []
def Cl.deep (h : Nat → Option Ow) (x : Cl) : List Nat := x.deepN h 6
def Av.deep (h : Nat → Option Ow) : Av → List Nat
  | .c x => x.deep h
  | .agg xs => xs.flatMap (Cl.deep h)
  | .tup xs => xs.flatMap fun p => p.2.flatMap (Cl.deep h)
  | .any => []
def look {α : Type} : List (Nat × α) → Nat → Option α
  | [], _ => none
  | (k, x) :: l, n => if k = n then some x else look l n
/-- By name: what is under each name, turned; those whose names p takes. (Told by pattern: a name is not read off a pair, so the kernel reckons with numbers alone.) -/
def mapKV {α β : Type} (g : Nat → Nat) (f : α → β) : List (Nat × α) → List (Nat × β)
  | [] => []
  | (k, x) :: l => (g k, f x) :: mapKV g f l
def mapV {α β : Type} (f : α → β) : List (Nat × α) → List (Nat × β)
  | [] => []
  | (k, x) :: l => (k, f x) :: mapV f l
def filK {α : Type} (p : Nat → Bool) : List (Nat × α) → List (Nat × α)
  | [] => []
  | (k, x) :: l => match p k with | true => (k, x) :: filK p l | false => filK p l
theorem mapKV_eq {α β : Type} (g : Nat → Nat) (f : α → β) : ∀ l : List (Nat × α), mapKV g f l = l.map fun p => (g p.1, f p.2)
  | [] => rfl
  | (k, x) :: l => by rw [mapKV, mapKV_eq g f l]; rfl
theorem mapV_eq {α β : Type} (f : α → β) : ∀ l : List (Nat × α), mapV f l = l.map fun p => (p.1, f p.2)
  | [] => rfl
  | (k, x) :: l => by rw [mapV, mapV_eq f l]; rfl
theorem filK_eq {α : Type} (p : Nat → Bool) : ∀ l : List (Nat × α), filK p l = l.filter fun q => p q.1
  | [] => rfl
  | (k, x) :: l => by
    rw [filK, filK_eq p l, List.filter_cons]
    cases p k <;> rfl
def St.tmp (σ : St) (t : Nat) : Av := (look σ.tmps t).getD .any
def St.h (σ : St) : Nat → Option Ow := look σ.own
def St.put (σ : St) (dst : Option Tmp) (x : Av) : St := match dst with | some d => { σ with tmps := (d, x) :: σ.tmps } | none => σ
def bk : Value → Option Nat
  | .pointer (some a) => some a.block
  | v => v.ownBlock
def RDs (P : Program) (w : World) (S : Nat → Prop) (xs : List D) (us : List Value) : Prop := All2 (RepD P w S) xs us
theorem framedRDs (P : Program) : Framed (RDs P) := ⟨fun h e hs => All2.imp h fun _ _ _ k => k.frame e hs, fun h => All2.imp h fun _ _ _ k => k.lt⟩

def HdRep (S : Nat → Prop) (w : World) (k : Hd) (v : Value) (us : List Value) : Prop :=
  match k with
  | .fn f => v = .func (.func f) #[] (List.toArray us)
  | .it m left cur => us = [] ∧ ItRep S w m left cur v
theorem HdRep.frame {S S' : Nat → Prop} {w w' : World} {k : Hd} {v : Value} {us : List Value} (h : HdRep S w k v us) (hS : ∀ b, S b → S' b) (e : Same S w w') (hb : ∀ b, bk v = some b → w'.heap[b]? = w.heap[b]?) : HdRep S' w' k v us := by
  cases k with
  | fn f => exact h
  | it m left cur => exact ⟨h.1, h.2.frame hS e fun b hv => hb b (by rw [hv]; rfl)⟩
theorem HdRep.mono {S S' : Nat → Prop} {w : World} {k : Hd} {v : Value} {us : List Value} (h : HdRep S w k v us) (hS : ∀ b, S b → S' b) : HdRep S' w k v us := h.frame hS (fun _ _ => rfl) fun _ _ => rfl
section
variable (P : Program) (S : Nat → Prop) (β : Nat → Value) (h : Nat → Option Ow) (w : World)
def RepC : Cl → Value → Prop
  | .d x, v => RepD P w S x v
  | .own id off, v => ∃ xs T b, h id = some (.cells xs T) ∧ β id = .pointer (some ⟨b, 0, none⟩) ∧ v = .pointer (some ⟨b, off, none⟩)
  | .gs id k, v => ∃ ver E xs, h id = some (.arr ver E xs) ∧ k ≤ ver ∧ (k = ver → v = β id) ∧ v.oneCell' = true
  | .ga id k sz i, v => ∃ ver E xs, h id = some (.arr ver E xs) ∧ k ≤ ver ∧ (k = ver → ∃ b n c, β id = .slice (some ⟨b, 0, none⟩) n c ∧ v = .pointer (some ⟨b, i * sz, none⟩)) ∧ v.oneCell' = true
  | .io T id off, v => ∃ xs T' b, h id = some (.cells xs T') ∧ β id = .pointer (some ⟨b, 0, none⟩) ∧ v = .iface T (.pointer (some ⟨b, off, none⟩))
  | .fn id, v => ∃ f xs, h id = some (.clo f xs) ∧ v = β id ∧ v.oneCell' = true
  | .un, v => v.oneCell' = true
def RepP (p : Bool × List Cl) (u : Value) : Prop := if p.1 then ∃ us, u = .agg (List.toArray us) ∧ All2 (RepC P S β h w) p.2 us else ∃ x, p.2 = [x] ∧ RepC P S β h w x u
def RepA : Av → Value → Prop
  | .c x, v => RepC P S β h w x v
  | .agg xs, v => ∃ us, v = .agg (List.toArray us) ∧ All2 (RepC P S β h w) xs us
  | .tup xs, v => ∃ us, v = .tuple (List.toArray us) ∧ All2 (RepP P S β h w) xs us
  | .any, _ => True
def RepO (v : Value) : Ow → Prop
  | .cells xs T => ∃ b us, v = .pointer (some ⟨b, 0, none⟩) ∧ w.heap[b]? = some (.cells (List.toArray us) T (0, 0)) ∧ All2 (RepC P S β h w) xs us
  | .arr _ E xs => Build (RDs P) E (P.cellsOf E) (fun _ => True) S w v xs ∧ xs.length * P.bytesOf E ≤ 140737488351232 ∧ ∀ x ∈ xs, x.length = P.cellsOf E
  | .clo f xs => ∃ us, HdRep S w f v us ∧ All2 (RepC P S β h w) xs us
end
/-- What came with a call: where its data lies (S), which blocks stay as they are (K), the own blocks that were handed to it. -/
structure Env where
  S : Nat → Prop
  K : Nat → Prop
  h0 : Nat → Option Ow
  β0 : Nat → Value
/-- Names from here on are those that were handed in; a call's own names are smaller. -/
def zed : Nat := 1000000000
/-- Where data may lie: what came in or was made since, and is no block of the call's own. -/
def Sd (w0 : World) (S0 : Env) (β : Nat → Value) (h : Nat → Option Ow) (w : World) (b : Nat) : Prop := (S0.S b ∨ ¬ S0.K b) ∧ b < w.heap.size ∧ ∀ id o, h id = some o → bk (β id) ≠ some b
/-- The blocks of which K speaks are as they were. -/
structure KExt (K : Nat → Prop) (w w' : World) : Prop where
  os : w'.os = w.os
  tape : w'.tape = w.tape
  output : w'.output = w.output
  size : w.heap.size ≤ w'.heap.size
  block : ∀ b, K b → w'.heap[b]? = w.heap[b]?
theorem KExt.refl (K : Nat → Prop) (w : World) : KExt K w w := ⟨rfl, rfl, rfl, Nat.le_refl _, fun _ _ => rfl⟩
theorem KExt.trans {K : Nat → Prop} {a b c : World} (h : KExt K a b) (k : KExt K b c) : KExt K a c :=
  ⟨k.os.trans h.os, k.tape.trans h.tape, k.output.trans h.output, Nat.le_trans h.size k.size, fun i hi => (k.block i hi).trans (h.block i hi)⟩
theorem KExt.mono {K K' : Nat → Prop} {a b : World} (h : KExt K a b) (hk : ∀ i, K' i → K i) : KExt K' a b := ⟨h.os, h.tape, h.output, h.size, fun i hi => h.block i (hk i hi)⟩
theorem KExt.ofExt {a b : World} (h : Ext a b) : KExt (· < a.heap.size) a b := ⟨h.os, h.tape, h.output, h.size, fun i hi => h.block i hi⟩
theorem KExt.toExt {a b : World} {K : Nat → Prop} (h : KExt K a b) (hK : ∀ i, i < a.heap.size → K i) : Ext a b := ⟨h.os, h.tape, h.output, h.size, fun i hi => h.block i (hK i hi)⟩
theorem KExt.ext {K : Nat → Prop} {a b c : World} (h : KExt K a b) (e : Ext b c) (hK : ∀ i, K i → i < a.heap.size) : KExt K a c := h.trans ((KExt.ofExt e).mono fun i hi => Nat.lt_of_lt_of_le (hK i hi) h.size)
/-- An own block of one kind stays one of that kind, at its place. -/
def Stays (o0 : Ow) (v0 : Value) (o : Ow) (v : Value) : Prop :=
  match o0, o with
  | .cells .., .cells .. => v = v0
  | .clo .., .clo .. => v = v0
  | .arr k .., .arr n .. => k ≤ n ∧ (k = n → v = v0)
  | _, _ => False
/-- A deferred call that does nothing. -/
def Idle (P : Program) (d : Deferred) : Prop := ∃ fv cap f args, d.target = .fn fv cap ∧ ∀ w, (invoke d.target d.args).run P w = .ok (.enter f args) w ∧ CallsD P f args .returning w fun e u' w' => ∃ v, e = .returned v ∧ u' = .returning ∧ w' = w

structure Sim (P : Program) (N : Nat) (w0 : World) (S0 : Env) (β : Nat → Value) (σ : St) (a : Act) (w : World) : Prop where
  ext : KExt S0.K w0 w
  hK : ∀ b, S0.K b → b < w0.heap.size
  kept : ∀ id o0, S0.h0 id = some o0 → zed ≤ id ∧ ∀ o, σ.h id = some o → Stays o0 (S0.β0 id) o (β id)
  inj : ∀ i j oi oj b, σ.h i = some oi → σ.h j = some oj → bk (β i) = some b → bk (β j) = some b → i = j
  new : ∀ i o b, σ.h i = some o → bk (β i) = some b → ¬ S0.K b ∧ b < w.heap.size
  own : ∀ i o, σ.h i = some o → RepO P (Sd w0 S0 β σ.h w) β σ.h w (β i) o
  tmp : ∀ t, RepA P (Sd w0 S0 β σ.h w) β σ.h w (σ.tmp t) (a.tmps.getD t undef)
  sz : a.tmps.size = N
  dfr : ∀ d ∈ a.defers, Idle P d

section
variable {P : Program} {S S' : Nat → Prop} {β β' : Nat → Value} {h h' : Nat → Option Ow} {w w' : World}
theorem RepC.one {x : Cl} {v : Value} (k : RepC P S β h w x v) : v.oneCell' = true := by
  cases x with
  | d x => exact RepD.one k
  | own id off => obtain ⟨_, _, _, _, _, rfl⟩ := k; rfl
  | gs id n => obtain ⟨_, _, _, _, _, _, h1⟩ := k; exact h1
  | ga id n sz i => obtain ⟨_, _, _, _, _, _, h1⟩ := k; exact h1
  | io T id off => obtain ⟨_, _, _, _, _, rfl⟩ := k; rfl
  | fn id => obtain ⟨_, _, _, _, h1⟩ := k; exact h1
  | un => exact k
/-- From one memory and one naming to another. -/
structure Steps' (P : Program) (S S' : Nat → Prop) (β β' : Nat → Value) (h h' : Nat → Option Ow) (w w' : World) : Prop where
  d : ∀ x v, RepD P w S x v → RepD P w' S' x v
  own : ∀ id xs T, h id = some (.cells xs T) → (∃ xs' T', h' id = some (.cells xs' T')) ∧ β' id = β id
  gs : ∀ id ver E xs, h id = some (.arr ver E xs) → ∃ ver' E' xs', h' id = some (.arr ver' E' xs') ∧ ver ≤ ver' ∧ (ver = ver' → β' id = β id)
  fn : ∀ id f xs, h id = some (.clo f xs) → (∃ f' xs', h' id = some (.clo f' xs')) ∧ β' id = β id
theorem RepC.step (k : Steps' P S S' β β' h h' w w') {x : Cl} {v : Value} (r : RepC P S β h w x v) : RepC P S' β' h' w' x v := by
  cases x with
  | d x => exact k.d x v r
  | own id off =>
    obtain ⟨xs, T, b, h1, h2, h3⟩ := r
    obtain ⟨⟨xs', T', h4⟩, h5⟩ := k.own id xs T h1
    exact ⟨xs', T', b, h4, h5.trans h2, h3⟩
  | gs id n =>
    obtain ⟨ver, E, xs, h1, h2, h3, h4⟩ := r
    obtain ⟨ver', E', xs', h5, h6, h7⟩ := k.gs id ver E xs h1
    exact ⟨ver', E', xs', h5, Nat.le_trans h2 h6, fun e => by
      have e1 : n = ver := by omega
      have e2 : ver = ver' := by omega
      rw [h3 e1, h7 e2], h4⟩
  | ga id n sz i =>
    obtain ⟨ver, E, xs, h1, h2, h3, h4⟩ := r
    obtain ⟨ver', E', xs', h5, h6, h7⟩ := k.gs id ver E xs h1
    exact ⟨ver', E', xs', h5, Nat.le_trans h2 h6, fun e => by
      have e1 : n = ver := by omega
      have e2 : ver = ver' := by omega
      rw [h7 e2]; exact h3 e1, h4⟩
  | io T id off =>
    obtain ⟨xs, T, b, h1, h2, h3⟩ := r
    obtain ⟨⟨xs', T', h4⟩, h5⟩ := k.own id xs T h1
    exact ⟨xs', T', b, h4, h5.trans h2, h3⟩
  | fn id =>
    obtain ⟨f, xs, h1, h2, h3⟩ := r
    obtain ⟨⟨f', xs', h4⟩, h5⟩ := k.fn id f xs h1
    exact ⟨f', xs', h4, by rw [h5]; exact h2, h3⟩
  | un => exact r
theorem RepP.step (k : Steps' P S S' β β' h h' w w') {x : Bool × List Cl} {v : Value} (r : RepP P S β h w x v) : RepP P S' β' h' w' x v := by
  unfold RepP at *
  split at r
  · next hb => rw [if_pos hb]; obtain ⟨us, hu, ha⟩ := r; exact ⟨us, hu, ha.imp fun _ _ _ r => r.step k⟩
  · next hb => rw [if_neg hb]; obtain ⟨y, hy, hr⟩ := r; exact ⟨y, hy, hr.step k⟩
theorem RepA.step (k : Steps' P S S' β β' h h' w w') {x : Av} {v : Value} (r : RepA P S β h w x v) : RepA P S' β' h' w' x v := by
  cases x with
  | c x => exact RepC.step k r
  | agg xs => obtain ⟨us, hu, ha⟩ := r; exact ⟨us, hu, ha.imp fun _ _ _ r => r.step k⟩
  | tup xs => obtain ⟨us, hu, ha⟩ := r; exact ⟨us, hu, ha.imp fun _ _ _ r => RepP.step k r⟩
  | any => trivial
end

section
variable {P : Program} {N : Nat} {w0 : World} {S0 : Env} {β : Nat → Value} {σ : St} {a : Act} {w : World}
theorem Sim.put (s : Sim P N w0 S0 β σ a w) {dst : Option Tmp} {x : Av} {v : Value} (hd : ∀ d, dst = some d → d < N) (r : RepA P (Sd w0 S0 β σ.h w) β σ.h w x v) : Sim P N w0 S0 β (σ.put dst x) (a.put dst v) w := by
  cases dst with
  | none => exact s
  | some d =>
    refine ⟨s.ext, s.hK, s.kept, s.inj, s.new, s.own, fun t => ?_, by simp [Act.put, s.sz], s.dfr⟩
    have hdN := hd d rfl
    by_cases e : d = t
    · subst e
      have : (a.put (some d) v).tmps.getD d undef = v := by simp [Act.put, s.sz, hdN]
      rw [this]
      have : (σ.put (some d) x).tmp d = x := by simp [St.put, St.tmp, look]
      rw [this]; exact r
    · have h1 : (a.put (some d) v).tmps.getD t undef = a.tmps.getD t undef := by simp [Act.put, Array.getElem?_setIfInBounds, e]
      have h2 : (σ.put (some d) x).tmp t = σ.tmp t := by simp [St.put, St.tmp, look, e]
      rw [h1, h2]; exact s.tmp t
/-- Memory that only grows. -/
theorem Sim.grow (s : Sim P N w0 S0 β σ a w) {w' : World} (e : Ext w w') : Sim P N w0 S0 β σ a w' ∧ Steps' P (Sd w0 S0 β σ.h w) (Sd w0 S0 β σ.h w') β β σ.h σ.h w w' := by
  have hS : ∀ b, Sd w0 S0 β σ.h w b → Sd w0 S0 β σ.h w' b := fun b hb => ⟨hb.1, Nat.lt_of_lt_of_le hb.2.1 e.size, hb.2.2⟩
  have k : Steps' P (Sd w0 S0 β σ.h w) (Sd w0 S0 β σ.h w') β β σ.h σ.h w w' := ⟨fun x v r => (r.ext e).mono hS, fun id xs T hh => ⟨⟨xs, T, hh⟩, rfl⟩, fun id ver E xs hh => ⟨ver, E, xs, hh, Nat.le_refl _, fun _ => rfl⟩, fun id f xs hh => ⟨⟨f, xs, hh⟩, rfl⟩⟩
  refine ⟨⟨s.ext.ext e s.hK, s.hK, s.kept, s.inj, fun i o b hi hb => ⟨(s.new i o b hi hb).1, Nat.lt_of_lt_of_le (s.new i o b hi hb).2 e.size⟩, fun i o hi => ?_, fun t => (s.tmp t).step k, s.sz, s.dfr⟩, k⟩
  have := s.own i o hi
  cases o with
  | cells xs T => obtain ⟨b, us, h1, h2, h3⟩ := this; exact ⟨b, us, h1, e.heap h2, h3.imp fun _ _ _ r => r.step k⟩
  | arr ver E xs =>
    obtain ⟨h1, h2, h3⟩ := this
    exact ⟨((h1.ext (framedRDs P) e).frame (framedRDs P) (fun _ _ => rfl) (fun _ _ => rfl) (fun _ h => h) hS), h2, h3⟩
  | clo f xs => obtain ⟨us, h1, h3⟩ := this; exact ⟨us, h1.frame hS (fun b hb => e.block b hb.2.1) fun b hb => e.block b (s.new i _ b hi hb).2, h3.imp fun _ _ _ r => r.step k⟩
/-- What a call gave back: it lies where data may lie. -/
theorem Sim.given (s : Sim P N w0 S0 β σ a w) {w' : World} (e : Ext w w') {x : D} {v : Value} (r : RepD P w' (fun b => Sd w0 S0 β σ.h w b ∨ w.heap.size ≤ b) x v) : RepD P w' (Sd w0 S0 β σ.h w') x v :=
  r.lt.mono fun b hb => by
    rcases hb.1 with h1 | h1
    · exact ⟨h1.1, hb.2, h1.2.2⟩
    · exact ⟨.inr fun hk => by have := s.hK b hk; have := s.ext.size; omega, hb.2, fun id o ho hc => by have := (s.new id o b ho hc).2; omega⟩
theorem sd_fresh {id : Nat} {o : Ow} {v : Value} {w' : World} {b : Nat} (hid : σ.h id = none) (hv : bk v = some w.heap.size) (hw : w.heap.size ≤ w'.heap.size) (hb : Sd w0 S0 β σ.h w b) :
    Sd w0 S0 (fun i => if i = id then v else β i) (fun i => if i = id then some o else σ.h i) w' b := ⟨hb.1, Nat.lt_of_lt_of_le hb.2.1 hw, fun i o' ho => by
  by_cases e : i = id
  · simp only [e, if_true]; rw [hv]; intro hc; injection hc with hc; have := hb.2.1; omega
  · simp only [e, if_false] at ho ⊢; exact hb.2.2 i o' ho⟩
def St.new (σ : St) (id : Nat) (o : Ow) : St := { σ with own := (id, o) :: σ.own }
theorem new_h (σ : St) (id : Nat) (o : Ow) : (σ.new id o).h = fun i => if i = id then some o else σ.h i := by
  funext i
  show (if id = i then some o else look σ.own i) = _
  by_cases e : i = id
  · subst e; simp
  · rw [if_neg (Ne.symm e), if_neg e]; rfl
/-- A block of the call's own is made. -/
theorem Sim.alloc (s : Sim P N w0 S0 β σ a w) {id : Nat} {xs : List Cl} {us : List Value} (T : TypeId) (hz : id < zed) (hid : σ.h id = none) (r : All2 (RepC P (Sd w0 S0 β σ.h w) β σ.h w) xs us) :
    Sim P N w0 S0 (fun i => if i = id then .pointer (some ⟨w.heap.size, 0, none⟩) else β i) (σ.new id (.cells xs T)) a (w.alloc (.cells us.toArray T)) ∧
    RepC P (Sd w0 S0 (fun i => if i = id then .pointer (some ⟨w.heap.size, 0, none⟩) else β i) (σ.new id (.cells xs T)).h (w.alloc (.cells us.toArray T))) (fun i => if i = id then .pointer (some ⟨w.heap.size, 0, none⟩) else β i) (σ.new id (.cells xs T)).h (w.alloc (.cells us.toArray T)) (.own id 0) (.pointer (some ⟨w.heap.size, 0, none⟩)) := by
  have e : Ext w (w.alloc (.cells us.toArray T)) := (Ext.refl w).alloc _
  have hS : ∀ b, Sd w0 S0 β σ.h w b → Sd w0 S0 (fun i => if i = id then .pointer (some ⟨w.heap.size, 0, none⟩) else β i) (σ.new id (.cells xs T)).h (w.alloc (.cells us.toArray T)) b := fun b hb => by
    rw [new_h]; exact sd_fresh hid rfl e.size hb
  have k : Steps' P (Sd w0 S0 β σ.h w) (Sd w0 S0 (fun i => if i = id then .pointer (some ⟨w.heap.size, 0, none⟩) else β i) (σ.new id (.cells xs T)).h (w.alloc (.cells us.toArray T))) β (fun i => if i = id then .pointer (some ⟨w.heap.size, 0, none⟩) else β i) σ.h (σ.new id (.cells xs T)).h w (w.alloc (.cells us.toArray T)) := by
    refine ⟨fun x v r => (r.ext e).mono hS, fun i ys T' hh => ?_, fun i ver E ys hh => ?_, fun i f ys hh => ?_⟩
    · have hne : i ≠ id := fun e => by rw [e, hid] at hh; cases hh
      exact ⟨⟨ys, T', by rw [new_h]; simp [hne, hh]⟩, by simp [hne]⟩
    · have hne : i ≠ id := fun e => by rw [e, hid] at hh; cases hh
      exact ⟨ver, E, ys, by rw [new_h]; simp [hne, hh], Nat.le_refl _, fun _ => by simp [hne]⟩
    · have hne : i ≠ id := fun e => by rw [e, hid] at hh; cases hh
      exact ⟨⟨f, ys, by rw [new_h]; simp [hne, hh]⟩, by simp [hne]⟩
  refine ⟨⟨s.ext.ext e s.hK, s.hK, fun i o0 hi0 => ⟨(s.kept i o0 hi0).1, fun o ho => ?_⟩, fun i j oi oj b hi hj hbi hbj => ?_, fun i o b hi hb => ?_, fun i o hi => ?_, fun t => (s.tmp t).step k, s.sz, s.dfr⟩, ⟨xs, T, w.heap.size, by rw [new_h]; simp, by simp, rfl⟩⟩
  · have hz' := (s.kept i o0 hi0).1
    have hne : i ≠ id := by omega
    rw [new_h] at ho; simp only [hne, if_false] at ho
    simp only [hne, if_false]
    exact (s.kept i o0 hi0).2 o ho
  · rw [new_h] at hi hj
    by_cases ei : i = id <;> by_cases ej : j = id
    · rw [ei, ej]
    · simp only [ei, if_true, ej, if_false] at hbi hbj hj
      have := (s.new j oj b hj hbj).2
      simp [bk] at hbi; omega
    · simp only [ei, if_false, ej, if_true] at hbi hbj hi
      have := (s.new i oi b hi hbi).2
      simp [bk] at hbj; omega
    · simp only [ei, ej, if_false] at hi hj hbi hbj
      exact s.inj i j oi oj b hi hj hbi hbj
  · rw [new_h] at hi
    by_cases ei : i = id
    · simp only [ei, if_true] at hb
      simp [bk] at hb; subst hb
      exact ⟨fun hk => by have := s.hK _ hk; have := s.ext.size; omega, by rw [size_alloc]; omega⟩
    · simp only [ei, if_false] at hi hb
      exact ⟨(s.new i o b hi hb).1, by rw [size_alloc]; have := (s.new i o b hi hb).2; omega⟩
  · by_cases ei : i = id
    · rw [new_h] at hi; simp only [ei, if_true] at hi; cases hi
      rw [ei]
      simp only [if_true]
      exact ⟨w.heap.size, us, rfl, heap_alloc_new w _, r.imp fun _ _ _ r => r.step k⟩
    · have hi' := hi
      rw [new_h] at hi; simp only [ei, if_false] at hi
      have := s.own i o hi
      simp only [ei, if_false]
      cases o with
      | cells ys T' => obtain ⟨b, vs, h1, h2, h3⟩ := this; exact ⟨b, vs, h1, e.heap h2, h3.imp fun _ _ _ r => r.step k⟩
      | arr ver E ys =>
        obtain ⟨h1, h2, h3⟩ := this
        exact ⟨((h1.ext (framedRDs P) e).frame (framedRDs P) (fun _ _ => rfl) (fun _ _ => rfl) (fun _ h => h) hS), h2, h3⟩
      | clo f ys => obtain ⟨vs, h1, h3⟩ := this; exact ⟨vs, h1.frame hS (fun b hb => e.block b hb.2.1) fun b hb => e.block b (s.new i _ b hi hb).2, h3.imp fun _ _ _ r => r.step k⟩
/-- A function value that holds cells of the call's own. -/
theorem Sim.closure (s : Sim P N w0 S0 β σ a w) {id : Nat} {xs : List Cl} {us : List Value} (f : FuncId) (hz : id < zed) (hid : σ.h id = none) (r : All2 (RepC P (Sd w0 S0 β σ.h w) β σ.h w) xs us) :
    Sim P N w0 S0 (fun i => if i = id then .func (.func f) #[] us.toArray else β i) (σ.new id (.clo (.fn f) xs)) a w ∧
    RepC P (Sd w0 S0 (fun i => if i = id then .func (.func f) #[] us.toArray else β i) (σ.new id (.clo (.fn f) xs)).h w) (fun i => if i = id then .func (.func f) #[] us.toArray else β i) (σ.new id (.clo (.fn f) xs)).h w (.fn id) (.func (.func f) #[] us.toArray) := by
  have hS : ∀ b, Sd w0 S0 β σ.h w b → Sd w0 S0 (fun i => if i = id then .func (.func f) #[] us.toArray else β i) (σ.new id (.clo (.fn f) xs)).h w b := fun b hb => ⟨hb.1, hb.2.1, fun i o ho => by
    rw [new_h] at ho
    by_cases e : i = id
    · simp only [e, if_true]; simp [bk, Value.ownBlock]
    · simp only [e, if_false] at ho ⊢; exact hb.2.2 i o ho⟩
  have k : Steps' P (Sd w0 S0 β σ.h w) (Sd w0 S0 (fun i => if i = id then .func (.func f) #[] us.toArray else β i) (σ.new id (.clo (.fn f) xs)).h w) β (fun i => if i = id then .func (.func f) #[] us.toArray else β i) σ.h (σ.new id (.clo (.fn f) xs)).h w w := by
    refine ⟨fun x v r => r.mono hS, fun i ys T' hh => ?_, fun i ver E ys hh => ?_, fun i f ys hh => ?_⟩
    · have hne : i ≠ id := fun e => by rw [e, hid] at hh; cases hh
      exact ⟨⟨ys, T', by rw [new_h]; simp [hne, hh]⟩, by simp [hne]⟩
    · have hne : i ≠ id := fun e => by rw [e, hid] at hh; cases hh
      exact ⟨ver, E, ys, by rw [new_h]; simp [hne, hh], Nat.le_refl _, fun _ => by simp [hne]⟩
    · have hne : i ≠ id := fun e => by rw [e, hid] at hh; cases hh
      exact ⟨⟨f, ys, by rw [new_h]; simp [hne, hh]⟩, by simp [hne]⟩
  refine ⟨⟨s.ext, s.hK, fun i o0 hi0 => ⟨(s.kept i o0 hi0).1, fun o ho => ?_⟩, fun i j oi oj b hi hj hbi hbj => ?_, fun i o b hi hb => ?_, fun i o hi => ?_, fun t => (s.tmp t).step k, s.sz, s.dfr⟩, ⟨.fn f, xs, by rw [new_h]; simp, by simp, rfl⟩⟩
  · have hz' := (s.kept i o0 hi0).1
    have hne : i ≠ id := by omega
    rw [new_h] at ho; simp only [hne, if_false] at ho
    simp only [hne, if_false]
    exact (s.kept i o0 hi0).2 o ho
  · rw [new_h] at hi hj
    by_cases ei : i = id
    · simp only [ei, if_true] at hbi; simp [bk, Value.ownBlock] at hbi
    · by_cases ej : j = id
      · simp only [ej, if_true] at hbj; simp [bk, Value.ownBlock] at hbj
      · simp only [ei, ej, if_false] at hi hj hbi hbj
        exact s.inj i j oi oj b hi hj hbi hbj
  · rw [new_h] at hi
    by_cases ei : i = id
    · simp only [ei, if_true] at hb; simp [bk, Value.ownBlock] at hb
    · simp only [ei, if_false] at hi hb
      exact s.new i o b hi hb
  · by_cases ei : i = id
    · rw [new_h] at hi; simp only [ei, if_true] at hi; cases hi
      rw [ei]
      simp only [if_true]
      exact ⟨us, rfl, r.imp fun _ _ _ r => r.step k⟩
    · rw [new_h] at hi; simp only [ei, if_false] at hi
      have := s.own i o hi
      simp only [ei, if_false]
      cases o with
      | cells ys T' => obtain ⟨b, vs, h1, h2, h3⟩ := this; exact ⟨b, vs, h1, h2, h3.imp fun _ _ _ r => r.step k⟩
      | arr ver E ys =>
        obtain ⟨h1, h2, h3⟩ := this
        exact ⟨h1.frame (framedRDs P) (fun _ _ => rfl) (fun _ _ => rfl) (fun _ h => h) hS, h2, h3⟩
      | clo f ys => obtain ⟨vs, h1, h3⟩ := this; exact ⟨vs, h1.mono hS, h3.imp fun _ _ _ r => r.step k⟩
end
end Go.Smd
