/- Calls and operations one behind the other, by value; a call's contract by value. Over any program. -/
import Derived.Test.YtphldfnnjoehpaaAe2
set_option linter.unusedSimpArgs false
namespace Go.Smd
open Go.RowKit

def Cl.isD : Cl → Bool
  | .d _ | .un => true
  | _ => false
def Av.isD : Av → Bool
  | .c x => x.isD
  | .agg xs => xs.all Cl.isD
  | .tup xs => xs.all fun p => p.2.all Cl.isD
  | .any => true
def noH : Nat → Option Ow := fun _ => none
def noB : Nat → Value := fun _ => undef
/-- What some memory holds. -/
def okA (P : Program) (x : Av) : Prop := ∃ w S v, RepA P S noB noH w x v
def okD (P : Program) (x : D) : Prop := ∃ w S v, RepD P w S x v

/-- The function's contract by value. -/
def ACalls (P : Program) (f : FuncId) (args : List Av) (R : Av → Prop) : Prop :=
  (∃ fn, P.funcs[f]? = some fn ∧ (fn.name == "runtime.NumGoroutine") = false ∧ fn.body.isSome = true) ∧
  ∀ (w : World) (S : Nat → Prop) (vs : List Value), (∀ b, S b → b < w.heap.size) → All2 (RepA P S noB noH w) args vs →
    Calls P f vs.toArray w fun e w' => ∃ v r, e = .returned v ∧ R r ∧ RepA P (fun b => S b ∨ w.heap.size ≤ b) noB noH w' r v ∧ Ext w w'
theorem ACalls.mono {P : Program} {f : FuncId} {args : List Av} {R R' : Av → Prop} (h : ACalls P f args R) (k : ∀ r, R r → R' r) : ACalls P f args R' :=
  ⟨h.1, fun w S vs hS ha => (h.2 w S vs hS ha).mono fun e w' ⟨v, r, h1, h2, h3, h4⟩ => ⟨v, r, h1, k r h2, h3, h4⟩⟩

section
variable {P : Program} {S S' : Nat → Prop} {β β' : Nat → Value} {h h' : Nat → Option Ow} {w : World}
theorem RepC.data {x : Cl} {v : Value} (hd : x.isD = true) (k : RepC P S β h w x v) : RepC P S β' h' w x v := by
  cases x with
  | d x => exact k
  | un => exact k
  | _ => simp [Cl.isD] at hd
theorem RepA.data {x : Av} {v : Value} (hd : x.isD = true) (k : RepA P S β h w x v) : RepA P S β' h' w x v := by
  cases x with
  | c x => exact RepC.data hd k
  | agg xs => obtain ⟨us, hu, ha⟩ := k; exact ⟨us, hu, ha.imp fun x _ hx r => r.data (List.all_eq_true.1 hd x hx)⟩
  | tup xs =>
    obtain ⟨us, hu, ha⟩ := k
    refine ⟨us, hu, ha.imp fun p _ hp r => ?_⟩
    have hp' := List.all_eq_true.1 (List.all_eq_true.1 hd p hp)
    unfold RepP at *
    split at r
    · next hb => rw [if_pos hb]; obtain ⟨us, hu, ha⟩ := r; exact ⟨us, hu, ha.imp fun x _ hx r => r.data (hp' x hx)⟩
    · next hb => rw [if_neg hb]; obtain ⟨y, hy, hr⟩ := r; exact ⟨y, hy, hr.data (hp' y (by rw [hy]; simp))⟩
  | any => trivial
theorem RepC.noH {x : Cl} {v : Value} (k : RepC P S β noH w x v) : x.isD = true := by
  cases x with
  | own id off => obtain ⟨_, _, _, h1, _⟩ := k; cases h1
  | gs id n => obtain ⟨_, _, _, h1, _⟩ := k; cases h1
  | _ => rfl
theorem RepA.noH {x : Av} {v : Value} (k : RepA P S β noH w x v) : x.isD = true := by
  cases x with
  | c x => exact RepC.noH k
  | agg xs =>
    obtain ⟨us, hu, ha⟩ := k
    refine List.all_eq_true.2 fun x hx => ?_
    obtain ⟨i, hi⟩ := List.getElem?_of_mem hx
    obtain ⟨u, _, hr⟩ := ha.at hi
    exact hr.noH
  | tup xs =>
    obtain ⟨us, hu, ha⟩ := k
    refine List.all_eq_true.2 fun p hp => ?_
    obtain ⟨i, hi⟩ := List.getElem?_of_mem hp
    obtain ⟨u, _, hr⟩ := ha.at hi
    unfold RepP at hr
    split at hr
    · obtain ⟨us, hu, ha⟩ := hr
      refine List.all_eq_true.2 fun x hx => ?_
      obtain ⟨i, hi⟩ := List.getElem?_of_mem hx
      obtain ⟨u, _, hr⟩ := ha.at hi
      exact hr.noH
    · obtain ⟨y, hy, hr⟩ := hr; rw [hy]; simp [hr.noH]
  | any => rfl
theorem RepA.imp {x : Av} {v : Value} {w' : World} (hd : x.isD = true) (k : RepA P S β h w x v) (hh : ∀ d u, RepD P w S d u → RepD P w' S' d u) : RepA P S' β' h' w' x v := by
  have h0 : RepA P S noB (Smd.noH) w x v := k.data hd
  have hs : Steps' P S S' noB noB Smd.noH Smd.noH w w' := ⟨hh, fun id xs T h => (by cases h), fun id ver E xs h => (by cases h)⟩
  exact (h0.step hs).data hd
end

/-- Is the operation's guard met? -/
def guardA (ops : Array Oper) (σ : St) (o : Oper) : Option Bool :=
  match o.guard with
  | none => some true
  | some (j, want) => match (ops[j]?).bind (·.dst) with
    | none => some false
    | some d => match σ.tmp d with
      | .c (.d (.v (.bool b))) => some (b == want)
      | .tup [] => some false
      | _ => none
def dstOk (N : Nat) (o : Oper) : Bool := match o.dst with | some d => decide (d < N) | none => true
/-- A block that is made or written, what it holds then, and what the operation gives. -/
abbrev Wres := Nat × Ow × Av
def newCells (h : Nat → Option Ow) (d : Tmp) (cs : List Cl) (T : TypeId) : Option Wres := if (h d).isNone then some (d, .cells cs T, .c (.own d 0)) else none
def storeA (P : Program) (h : Nat → Option Ow) (T : TypeId) (p x : Av) : Option Wres :=
  match P.lay T, p, cellsA x with
  | some (n, _), .c (.own id off), some ys => match h id with
    | some (.cells xs T') => if ys.length = n ∧ off + n ≤ xs.length then some (id, .cells (splice xs off ys) T', .any) else none
    | _ => none
  | _, _, _ => none
/-- A row of the call's own is made. -/
def newArr (h : Nat → Option Ow) (d : Tmp) (E : TypeId) (xs : List (List D)) : Option Wres := if (h d).isNone then some (d, .arr 0 E xs, .c (.gs d 0)) else none
def litA (P : Program) (h : Nat → Option Ow) (d : Tmp) (T : TypeId) (n : Nat) (parts : List (Nat × Av)) : Option Wres :=
  match P.elemT T with
  | none => none
  | some E => match zeroCs P E with
    | none => none
    | some z => if P.appOk E = true ∧ n * P.cellsOf E ≤ 16777216 ∧ n * P.bytesOf E ≤ 140737488351232 then
        match (fillA (fun i => some (i * P.cellsOf E, P.cellsOf E)) (reps n z) parts).bind toDs with
        | some ds => newArr h d E (chunk n (P.cellsOf E) ds)
        | none => none
      else none
def makeA (P : Program) (h : Nat → Option Ow) (d : Tmp) (T : TypeId) (n c : Av) : Option Wres :=
  match P.elemT T, n, c with
  | some E, .c (.d (.v (.int .i64 n))), .c (.d (.v (.int .i64 m))) => if P.appOk E = true ∧ n = 0 ∧ 0 ≤ m ∧ P.bytesOf E * m.toNat ≤ 281474976710656 then newArr h d E [] else none
  | _, _, _ => none
/-- The row that is appended to; nothing, if there is none yet. -/
def baseA (h : Nat → Option Ow) (E : TypeId) : Av → Option (Option (Nat × Nat × List (List D)))
  | .c (.gs id k) => match h id with
    | some (.arr ver E' xs) => if k = ver ∧ E' = E then some (some (id, ver, xs)) else none
    | _ => none
  | .c (.d (.v (.slice none 0 0))) => some none
  | _ => none
def rowA (h : Nat → Option Ow) (E : TypeId) (no : Nat) : Av → Option (List (List D))
  | .c (.d (.sl E' ys)) => if E' = E then some ys else none
  | .c (.d (.v (.slice none 0 0))) => some []
  | .c (.gs id k) => match h id with
    | some (.arr ver E' ys) => if k = ver ∧ E' = E ∧ id ≠ no then some ys else none
    | _ => none
  | _ => none
def app1 (P : Program) (h : Nat → Option Ow) (d : Tmp) (E : TypeId) (x y : Av) : Option Wres :=
  match baseA h E x with
  | some (some (id, ver, xs)) => match rowA h E id y with
    | some ys => if (xs.length + ys.length) * P.bytesOf E ≤ 140737488351232 then some (id, .arr (ver + 1) E (xs ++ ys), .c (.gs id (ver + 1))) else none
    | none => none
  | some none => match rowA h E d y with
    | some ys => if (h d).isNone = true ∧ ys.length * P.bytesOf E ≤ 140737488351232 then some (d, .arr 1 E ys, .c (.gs d 1)) else none
    | none => none
  | none => none
def appA (P : Program) (h : Nat → Option Ow) (d : Tmp) (T : TypeId) (x y : Av) : Option Wres :=
  match P.elemT T with
  | none => none
  | some E => if P.appOk E = true then app1 P h d E x y else none
def appCall (P : Program) (σ : St) (d : Tmp) (c : Call) : Option Wres :=
  match c.callee with
  | .builtin .append => match c.args.toList, c.argTypes.toList with
    | [x, y], [T, T'] => if T = T' then appA P σ.h d T (σ.ev x) (σ.ev y) else none
    | _, _ => none
  | _ => none
/-- Operations that make or write blocks of the call's own. -/
def wres (P : Program) (σ : St) (o : Oper) : Option Wres :=
  match o.op, o.dst with
  | .buildSlice T n parts, some d => litA P σ.h d T n (parts.toList.map fun p => (p.1, σ.ev p.2))
  | .makeSlice T n c, some d => makeA P σ.h d T (σ.ev n) (σ.ev c)
  | .call c, some d => appCall P σ d c
  | .alloc T, some d => (zeroCs P T).bind fun cs => newCells σ.h d cs T
  | .box T x, some d => (cellsA (σ.ev x)).bind fun cs => newCells σ.h d cs T
  | .store T p x, none => storeA P σ.h T (σ.ev p) (σ.ev x)
  | _, _ => none
def wstep (P : Program) (σ : St) (o : Oper) : Option St := match wres P σ o with
  | some (id, x, r) => some ((σ.new id x).put o.dst r)
  | none => none
def argsC (P : Program) (F : List Nat) (h : Nat → Option Ow) : List Av → List TypeId → List Av
  | x :: xs, T :: Ts => argC P T (frzA P F h x) :: argsC P F h xs Ts
  | x :: xs, [] => frzA P F h x :: argsC P F h xs []
  | [], _ => []
def St.give (P : Program) (F : List Nat) (σ : St) : St := match F with | [] => σ | _ => σ.frz P F
/-- The function that is called, what it is called with, and what is given away. -/
def callOf (P : Program) (σ : St) (o : Oper) : Option (FuncId × List Av × List Nat) :=
  match o.op with
  | .call c => match c.callee with
    | .value (.func f) =>
      let xs := c.args.toList.map σ.ev
      let F := xs.flatMap (Av.deep σ.h)
      some (f, argsC P F σ.h xs c.argTypes.toList, F)
    | _ => none
  | _ => none
def callK (P : Program) (σ : St) (o : Oper) (K : St → Prop) : Prop :=
  match callOf P σ o with
  | some (f, args, F) => args.all Av.isD = true ∧ ∃ R, ACalls P f args R ∧ ∀ r, R r → okA P r → K ((σ.give P F).put o.dst r)
  | none => False
def execA (P : Program) (N : Nat) (σ : St) (o : Oper) (K : St → Prop) : Prop :=
  dstOk N o = true ∧ match vval P σ o with
    | some r => K (σ.put o.dst r)
    | none => match wstep P σ o with
      | some σ' => K σ'
      | none => callK P σ o K
def opA (P : Program) (N : Nat) (ops : Array Oper) (σ : St) (o : Oper) (K : St → Prop) : Prop :=
  match guardA ops σ o with
  | some g => (g = true → execA P N σ o K) ∧ (g = false → dstOk N o = true ∧ K (σ.put o.dst (.tup [])))
  | none => False
def opsA (P : Program) (N : Nat) (ops : Array Oper) : List Oper → St → (St → Prop) → Prop
  | [], σ, K => K σ
  | o :: os, σ, K => opA P N ops σ o fun σ' => opsA P N ops os σ' K

/-! ### The steps of a walk -/
/-- Does a guard look at what o gives? -/
def guardSrc (ops : Array Oper) (o : Oper) : Bool := ops.toList.any fun q => match q.guard with | some (j, _) => (match (ops[j]?).bind (·.dst), o.dst with | some d, some e => d == e | _, _ => false) | none => false
section
variable {P : Program} {N : Nat} {ops : Array Oper} {σ : St} {o : Oper} {os : List Oper} {K : St → Prop}
theorem ops_nil (h : K σ) : opsA P N ops [] σ K := h
variable (P N ops o os σ K) in
def GK : Option Bool → Prop
  | some true => execA P N σ o fun σ' => opsA P N ops os σ' K
  | some false => dstOk N o = true ∧ opsA P N ops os (σ.put o.dst (.tup [])) K
  | none => False
variable (P N ops o os σ K) in
def VK (d : Option Tmp) : Option Av → Prop
  | some x => opsA P N ops os (σ.put d x) K
  | none => match wstep P σ o with
    | some σ' => opsA P N ops os σ' K
    | none => callK P σ o fun σ' => opsA P N ops os σ' K
theorem ops_g {g : Option Bool} (hg : guardA ops σ o = g) (h : GK P N ops σ o os K g) : opsA P N ops (o :: os) σ K := by
  unfold opsA opA
  rw [hg]
  cases g with
  | none => exact h
  | some g =>
    cases g with
    | true => exact ⟨fun _ => h, fun h => by cases h⟩
    | false => exact ⟨fun h => (by cases h), fun _ => h⟩
theorem gk_t {d : Option Tmp} {r : Option Av} (he : o.dst = d) (hd : dstOk N o = true) (hv : vval P σ o = r) (h : VK P N ops σ o os K d r) : GK P N ops σ o os K (some true) := by
  subst he
  refine ⟨hd, ?_⟩
  rw [hv]
  cases r <;> exact h
theorem gk_f {d : Option Tmp} (he : o.dst = d) (hd : dstOk N o = true) (h : opsA P N ops os (σ.put d (.tup [])) K) : GK P N ops σ o os K (some false) := by subst he; exact ⟨hd, h⟩
theorem vk_b {d : Option Tmp} {b : Bool} (hs : guardSrc ops o = true) (ht : b = true → opsA P N ops os (σ.put d (.c (.d (.v (.bool true))))) K) (hf : b = false → opsA P N ops os (σ.put d (.c (.d (.v (.bool false))))) K) : VK P N ops σ o os K d (some (.c (.d (.v (.bool b))))) := by
  cases b
  · exact hf rfl
  · exact ht rfl
theorem vk_d {d : Option Tmp} {p : Prop} {ip : Decidable p} (hs : guardSrc ops o = true) (ht : p → opsA P N ops os (σ.put d (.c (.d (.v (.bool true))))) K) (hf : ¬ p → opsA P N ops os (σ.put d (.c (.d (.v (.bool false))))) K) : VK P N ops σ o os K d (some (.c (.d (.v (.bool (decide p)))))) :=
  vk_b hs (fun h => ht (of_decide_eq_true h)) fun h => hf (of_decide_eq_false h)
theorem vk_s {d : Option Tmp} {x : Av} (h : opsA P N ops os (σ.put d x) K) : VK P N ops σ o os K d (some x) := h
theorem vk_lt {d : Option Tmp} (h : opsA P N ops os (σ.put d (.c (.d (.v (.bool true))))) K) : VK P N ops σ o os K d (some (.c (.d (.v (.bool true))))) := h
theorem vk_lf {d : Option Tmp} (h : opsA P N ops os (σ.put d (.c (.d (.v (.bool false))))) K) : VK P N ops σ o os K d (some (.c (.d (.v (.bool false))))) := h
theorem vk_w {d : Option Tmp} {σ' : St} (hw : wstep P σ o = some σ') (h : opsA P N ops os σ' K) : VK P N ops σ o os K d none := by
  unfold VK; rw [hw]; exact h
theorem vk_c {d : Option Tmp} {f : FuncId} {args : List Av} {F : List Nat} {σ' : St} {R : Av → Prop} (he : o.dst = d) (hw : wstep P σ o = none) (hc : callOf P σ o = some (f, args, F)) (hg : σ.give P F = σ') (ha : args.all Av.isD = true) (hR : ACalls P f args R) (h : ∀ r, R r → okA P r → opsA P N ops os (σ'.put d r) K) : VK P N ops σ o os K d none := by
  subst he; subst hg
  unfold VK callK
  rw [hw, hc]
  exact ⟨ha, R, hR, h⟩
end
section
variable {P : Program} {N : Nat} {w0 : World} {S0 : Nat → Prop} {β : Nat → Value} {σ : St} {a : Act} {w : World}
theorem guardA_run (s : Sim P N w0 S0 β σ a w) {ops : Array Oper} {o : Oper} {g : Bool} (h : guardA ops σ o = some g) : Region.wanted o (yielded ops a.tmps) = g := by
  unfold guardA at h
  split at h
  · next hg => cases h; simp [Region.wanted, hg]
  · next j want hg =>
    simp only [Region.wanted, hg, yielded]
    split at h
    · next hd => cases h; simp [hd]
    · next d hd =>
      rw [hd]
      have hr := s.tmp d
      split at h
      · next b hb =>
        cases h
        rw [hb] at hr
        obtain ⟨hv, _⟩ := rep_v hr
        have : a.tmps[d]? = some (.bool b) := by
          by_cases hlt : d < a.tmps.size
          · simpa [hlt] using hv
          · simp [hlt, undef] at hv
        simp only [Option.bind_some, this]
        cases b <;> cases want <;> rfl
      · next hb =>
        cases h
        rw [hb] at hr
        obtain ⟨us, hv, ha⟩ := hr
        cases ha
        by_cases hlt : d < a.tmps.size
        · have : a.tmps[d]? = some (.tuple #[]) := by simpa [hlt] using hv
          simp [this]
        · simp [hlt]
      · cases h
theorem dstOk_spec {o : Oper} (h : dstOk N o = true) : ∀ d, o.dst = some d → d < N := fun d hd => by
  unfold dstOk at h; rw [hd] at h; simpa using h

theorem newArr_run {d : Tmp} {E : TypeId} {xs : List (List D)} {q : Wres} (h : newArr σ.h d E xs = some q) : σ.h d = none ∧ q = (d, .arr 0 E xs, .c (.gs d 0)) := by
  unfold newArr at h
  split at h
  · next hn => cases h; exact ⟨Option.isNone_iff_eq_none.1 hn, rfl⟩
  · cases h
theorem newCells_run {d : Tmp} {cs : List Cl} {T : TypeId} {q : Wres} (h : newCells σ.h d cs T = some q) : σ.h d = none ∧ q = (d, .cells cs T, .c (.own d 0)) := by
  unfold newCells at h
  split at h
  · next hn => cases h; exact ⟨Option.isNone_iff_eq_none.1 hn, rfl⟩
  · cases h
theorem rowA_rep (s : Sim P N w0 S0 β σ a w) {E : TypeId} {y : Av} {ys : List (List D)} {no : Nat} {u : Value} (hp : 0 < P.cellsOf E) (h : rowA σ.h E no y = some ys) (r : RepA P (Sd w0 S0 β σ.h w) β σ.h w y u) :
    ∃ A c, u = .slice A ys.length c ∧ RowOf (RDs P w (Sd w0 S0 β σ.h w)) (P.cellsOf E) (fun _ => True) w A ys := by
  unfold rowA at h
  split at h
  · next E' ys' =>
    split at h
    · next e =>
      cases h; subst e
      obtain ⟨A, c, h1, h2⟩ := RepD.rowOf (S := Sd w0 S0 β σ.h w) (T := Sd w0 S0 β σ.h w) r hp fun _ h => h
      exact ⟨A, c, h1, h2.any⟩
    · cases h
  · cases h
    obtain ⟨rfl, _⟩ := rep_v r
    exact ⟨none, 0, rfl, fun j x hj => by simp at hj⟩
  · next id k =>
    split at h
    · next ver E' ys' hid =>
      split at h
      · next hc =>
        cases h
        obtain ⟨rfl, rfl, _⟩ := hc
        obtain ⟨ver', E'', ys'', h1, _, h3, _⟩ := r
        rw [hid] at h1; cases h1
        obtain ⟨A, c, h4, _, h5⟩ := Build.done (framedRDs P) hp (s.own id _ hid).1
        exact ⟨A, c, (h3 rfl).trans h4, h5.any⟩
      · cases h
    · cases h
  · cases h
theorem app1_run (s : Sim P N w0 S0 β σ a w) {d : Tmp} {T ty E : TypeId} {x y : Av} {q : Wres} {v u : Value} (hT : P.elemT T = some E) (hE : P.appOk E = true) (h : app1 P σ.h d E x y = some q) (hd : d < N)
    (hv : RepA P (Sd w0 S0 β σ.h w) β σ.h w x v) (hu : RepA P (Sd w0 S0 β σ.h w) β σ.h w y u) : ∃ v' w' β', (Builtin.append_ #[T, T] ty #[v, u]).run P w = .ok v' w' ∧ Sim P N w0 S0 β' ((σ.new q.1 q.2.1).put (some d) q.2.2) (a.put (some d) v') w' := by
  obtain ⟨_, _, _, hp, _⟩ := appOk_spec hE
  unfold app1 at h
  split at h
  · next id ver xs hb =>
    split at h
    · next ys hr =>
      split at h
      · next hle =>
        cases h
        unfold baseA at hb
        split at hb
        · next id' k =>
          split at hb
          · next ver' E' xs' hid =>
            split at hb
            · next hc =>
              obtain ⟨rfl, rfl⟩ := hc
              cases hb
              obtain ⟨v', w', β', h1, h2, h3⟩ := s.append (ty := ty) hT hE hid hle hv (rowA_rep s hp hr hu)
              exact ⟨v', w', β', h1, h2.put (fun d' e => by cases e; exact hd) h3⟩
            · cases hb
          · cases hb
        · cases hb
        · cases hb
      · cases h
    · cases h
  · next hb =>
    split at h
    · next ys hr =>
      split at h
      · next hc =>
        cases h
        have hn : x = .c (.d (.v (.slice none 0 0))) := by
          unfold baseA at hb
          split at hb
          · split at hb
            · split at hb <;> cases hb
            · cases hb
          · rfl
          · cases hb
        subst hn
        have hid := Option.isNone_iff_eq_none.1 hc.1
        obtain ⟨β1, s1, h1, k1⟩ := s.nilArr E hid
        have hrow : ∃ A c, u = .slice A ys.length c ∧ RowOf (RDs P w (Sd w0 S0 β1 (σ.new d (.arr 0 E [])).h w)) (P.cellsOf E) (fun _ => True) w A ys := by
          obtain ⟨A, c, q1, q2⟩ := rowA_rep s hp hr hu
          refine ⟨A, c, q1, fun j x hj => ?_⟩
          obtain ⟨ad, cs, r1, r2, r3, r4⟩ := q2 j x hj
          exact ⟨ad, cs, r1, r2, All2.imp r3 fun x u _ k => k1.d x u k, r4⟩
        obtain ⟨v', w', β', h2, h3, h4⟩ := s1.append (id := d) (ver := 0) (xs := []) (ys := ys) (ty := ty) (v := v) (u := u) hT hE (by rw [new_h]; simp) (by simpa using hc.2) (h1 v (RepD.mono hv fun _ _ => trivial)) hrow
        refine ⟨v', w', β', h2, ?_⟩
        have e : ((σ.new d (.arr 0 E [])).new d (.arr (0 + 1) E ([] ++ ys))).h = (σ.new d (.arr 1 E ys)).h := by
          rw [new_h, new_h, new_h]
          funext i
          by_cases e : i = d <;> simp [e]
        have h5 := h3.put (dst := some d) (x := .c (.gs d (0 + 1))) (v := v') (fun d' e => by cases e; exact hd) h4
        obtain ⟨q1, q2, q3, q4, q5, q6, q7⟩ := h5
        have e2 : (((σ.new d (.arr 0 E [])).new d (.arr (0 + 1) E ([] ++ ys))).put (some d) (.c (.gs d (0 + 1)))).h = ((σ.new d (.arr 1 E ys)).put (some d) (.c (.gs d 1))).h := e
        rw [e2] at q2 q3 q4 q5
        exact ⟨q1, q2, q3, q4, q5, q6, q7⟩
      · cases h
    · cases h
  · cases h
theorem wstep_run (s : Sim P N w0 S0 β σ a w) {o : Oper} {σ' : St} (hd : dstOk N o = true) (h : wstep P σ o = some σ') : o.wp P a w (fun a' w' => ∃ β', Sim P N w0 S0 β' σ' a' w') fun _ _ _ => False := by
  have hq : ∃ id x r, wres P σ o = some (id, x, r) ∧ (σ.new id x).put o.dst r = σ' := by
    unfold wstep at h
    split at h
    · next id x r hw => exact ⟨id, x, r, hw, Option.some.inj h⟩
    · cases h
  clear h
  obtain ⟨id, x, r, h, rfl⟩ := hq
  have hd2 : ∀ d, o.dst = some d → ∀ d', some d = some d' → d' < N := fun d hd1 d' e => dstOk_spec hd d' (by rw [hd1]; exact e)
  unfold wres at h
  unfold Oper.wp execOp
  split at h
  · next T n parts d ho hdst =>
    unfold litA at h
    split at h
    · cases h
    · next E hT =>
      split at h
      · cases h
      · next z hz =>
        split at h
        · next hc =>
          split at h
          · next ds hf =>
            obtain ⟨r', hf, hds⟩ := Option.bind_eq_some_iff.1 hf
            obtain ⟨hid, he⟩ := newArr_run h
            cases he
            obtain ⟨v', w', β', hrun, s1, s2⟩ := s.literal hT hc.1 hz hid hc.2.1 hc.2.2 hf hds
            rw [ho]
            have hrun' : (Instr.buildSlice T n (parts.map fun (i, x) => (i, a.eval x))).run P w = .ok v' w' := by simpa using hrun
            simp only [Sem.run_bind, hrun', Result.andThen_ok, Sem.run_pure]
            show ∃ β', Sim P N w0 S0 β' _ (a.put o.dst _) _
            rw [hdst]
            exact ⟨_, s1.put (hd2 _ hdst) s2⟩
          · cases h
        · cases h
  · next T n c d ho hdst =>
    unfold makeA at h
    split at h
    · next E n' m' hT hn hm =>
      split at h
      · next hc =>
        obtain ⟨hid, he⟩ := newArr_run h
        cases he
        obtain ⟨h1, rfl, h2, h3⟩ := hc
        obtain ⟨v', w', β', hrun, s1, s2⟩ := s.make hT h1 hid h3
        have e1 := s.ev n; have e2 := s.ev c
        rw [hn] at e1; rw [hm] at e2
        rw [ho]
        simp only [(rep_v e1).1, (rep_v e2).1]
        rw [Int.toNat_of_nonneg h2] at hrun
        simp only [Sem.run_bind, hrun, Result.andThen_ok, Sem.run_pure]
        show ∃ β', Sim P N w0 S0 β' _ (a.put o.dst _) _
        rw [hdst]
        exact ⟨_, s1.put (hd2 _ hdst) s2⟩
      · cases h
    · cases h
  · next c d ho hdst =>
    obtain ⟨callee, args, tys⟩ := c
    unfold appCall at h
    split at h
    · next hcal =>
      split at h
      · next x y T T' hargs htys =>
        simp only at hcal hargs htys
        subst hcal
        split at h
        · next hTT =>
          subst hTT
          unfold appA at h
          split at h
          · cases h
          · next E hT =>
            split at h
            · next hE =>
              obtain ⟨v', w', β', hrun, s1⟩ := app1_run s (ty := o.type) hT hE h (dstOk_spec hd d hdst) (s.ev x) (s.ev y)
              rw [ho]
              have ea : args = #[x, y] := by rw [← Array.toArray_toList (xs := args), hargs]
              have et : tys = #[T, T] := by rw [← Array.toArray_toList (xs := tys), htys]
              subst ea; subst et
              simp only [resolve, invoke, builtin, Sem.run_bind, Sem.run_pure, Result.andThen_ok, List.map_toArray, List.map_cons, List.map_nil, hrun]
              show ∃ β', Sim P N w0 S0 β' _ (a.put o.dst _) _
              rw [hdst]
              exact ⟨_, s1⟩
            · cases h
        · cases h
      · cases h
    · cases h
  · next T d ho hdst =>
    obtain ⟨cs, hz, hn⟩ := Option.bind_eq_some_iff.1 h
    obtain ⟨hid, he⟩ := newCells_run hn
    cases he
    obtain ⟨i, z, hi, hzv, hr⟩ := zeroCs_rep (S := Sd w0 S0 β σ.h w) (β := β) (hh := σ.h) (w := w) hz
    obtain ⟨s1, s2⟩ := s.alloc (id := id) T hid hr
    rw [ho]
    have hrun : (Instr.alloc T true (.tuple #[])).run P w = .ok (.pointer (some ⟨w.heap.size, 0, none⟩)) (w.alloc (.cells z.cells.toList.toArray T)) := by
      have hzr : (zeroValue T).run P w = .ok z w := by simp [zeroValue, typeInfo, hi, hzv]
      unfold Instr.alloc
      rw [Sem.run_bind, hzr]
      simp only [Result.andThen_ok, Array.toArray_toList]
      rfl
    have hrun2 := hrun
    generalize (w.alloc _) = w2 at hrun2 s1 s2
    simp only [Sem.run_bind, hrun2, Result.andThen_ok, Sem.run_pure]
    show ∃ β', Sim P N w0 S0 β' _ (a.put o.dst _) _
    rw [hdst]
    exact ⟨_, s1.put (hd2 _ hdst) s2⟩
  · next T x d ho hdst =>
    obtain ⟨cs, hz, hn⟩ := Option.bind_eq_some_iff.1 h
    obtain ⟨hid, he⟩ := newCells_run hn
    cases he
    have hr := cellsA_rep hz (s.ev x)
    obtain ⟨s1, s2⟩ := s.alloc (id := id) T hid hr
    rw [ho]
    have hrun : (Instr.box T (a.eval x)).run P w = .ok (.pointer (some ⟨w.heap.size, 0, none⟩)) (w.alloc (.cells (a.eval x).cells.toList.toArray T)) := by
      simp only [Array.toArray_toList]
      rfl
    have hrun2 := hrun
    generalize (w.alloc _) = w2 at hrun2 s1 s2
    simp only [Sem.run_bind, hrun2, Result.andThen_ok, Sem.run_pure]
    show ∃ β', Sim P N w0 S0 β' _ (a.put o.dst _) _
    rw [hdst]
    exact ⟨_, s1.put (hd2 _ hdst) s2⟩
  · next T p x ho hdst =>
    unfold storeA at h
    split at h
    · next n g id' off ys hlay hp hys =>
      split at h
      · next xs T' hid =>
        split at h
        · next hc =>
          cases h
          have hpr := s.ev p
          rw [hp] at hpr
          obtain ⟨w', hrun, β', hs⟩ := s.store hlay hid hys hc.1 hc.2 (s.ev x) hpr
          rw [ho]
          simp only [Sem.run_bind, hrun, Result.andThen_ok, Sem.run_pure, Oper.upon]
          rw [hdst]
          exact ⟨β', hs⟩
        · cases h
      · cases h
    · cases h
  · cases h
theorem argsC_rep {F : List Nat} {S : Nat → Prop} {hh h0 : Nat → Option Ow} : ∀ {xs : List Av} {Ts : List TypeId} {us : List Value}, All2 (fun x v => RepA P S β hh w (frzA P F h0 x) v) xs us → All2 (RepA P S β hh w) (argsC P F h0 xs Ts) us
  | [], Ts, us, h => by cases h; cases Ts <;> exact .nil
  | x :: xs, [], us, h => by
    obtain ⟨u, us', rfl, h1, h2⟩ := h.inv
    exact .cons h1 (argsC_rep h2)
  | x :: xs, T :: Ts, us, h => by
    obtain ⟨u, us', rfl, h1, h2⟩ := h.inv
    exact .cons (argC_rep h1) (argsC_rep h2)
theorem callK_run (s : Sim P N w0 S0 β σ a w) {o : Oper} {K : St → Prop} (hd : dstOk N o = true) (h : callK P σ o K) : o.wp P a w (fun a' w' => ∃ β' σ', K σ' ∧ Sim P N w0 S0 β' σ' a' w') fun _ _ _ => False := by
  unfold callK at h
  split at h
  · next f args F hc =>
    obtain ⟨hall, R, hR, hK⟩ := h
    unfold callOf at hc
    split at hc
    · next c ho =>
      split at hc
      · next f' hcal =>
        simp only [Option.some.injEq, Prod.mk.injEq] at hc
        obtain ⟨rfl, rfl, rfl⟩ := hc
        obtain ⟨⟨fn, hf, hn, hb⟩, hR⟩ := hR
        generalize hF : (c.args.toList.map σ.ev).flatMap (Av.deep σ.h) = F at hall hR hK
        have s1 := s.frz F
        have hall' := List.all_eq_true.1 hall
        have hargs1 : All2 (RepA P (Sd w0 S0 β (σ.frz P F).h w) β (σ.frz P F).h w) (argsC P F σ.h (c.args.toList.map σ.ev) c.argTypes.toList) (c.args.toList.map a.eval) := argsC_rep (All2.of (by simp) fun i x v hx hv => by
          rw [List.getElem?_map] at hx hv
          obtain ⟨p, hp, rfl⟩ := Option.map_eq_some_iff.1 hx
          rw [hp] at hv; cases hv
          exact RepA.frz s (s.ev p) F)
        have hargs : All2 (RepA P (Sd w0 S0 β (σ.frz P F).h w) noB noH w) (argsC P F σ.h (c.args.toList.map σ.ev) c.argTypes.toList) (c.args.toList.map a.eval) := hargs1.imp fun x v hx r => r.data (hall' x hx)
        have hcall := hR w (Sd w0 S0 β (σ.frz P F).h w) _ (fun b hb => hb.2.1) hargs
        have hrun : (execOp a.eval o).run P w = .ok (.enter f' (c.args.toList.map a.eval).toArray) w := by
          unfold execOp
          rw [ho]
          obtain ⟨callee, args, tys⟩ := c
          simp only at hcal; subst hcal
          have hn' : ¬ fn.name = "runtime.NumGoroutine" := by simpa using hn
          have hbn' : ¬ fn.body = none := by cases hbb : fn.body <;> simp_all
          simp [resolve, Act.eval, Deferred.ofValue, invoke, callFunc, program, Sem.run_bind, Sem.run, hf, hn', hbn']
          rw [← Array.toList_map]
        unfold Oper.wp
        rw [hrun]
        refine hcall.mono ?_
        rintro e w' ⟨v, r, rfl, hr, hrep, hE⟩
        have s2 : ∃ σ2, σ2 = σ.give P F ∧ Sim P N w0 S0 β σ2 a w ∧ RepA P (Sd w0 S0 β σ2.h w') β σ2.h w' r v := by
          refine ⟨_, rfl, ?_, ?_⟩
          · unfold St.give; split
            · exact s
            · exact s1
          · have hh : ∀ d u, RepD P w' (fun b => Sd w0 S0 β (σ.frz P F).h w b ∨ w.heap.size ≤ b) d u → RepD P w' (Sd w0 S0 β (σ.give P F).h w') d u := fun d u k => by
              have := s1.given hE k
              unfold St.give
              split
              · have e : (σ.frz P []).h = σ.h := by
                  funext i
                  rw [frz_h]
                  simp only [List.contains_nil, Bool.false_eq_true, if_false]
                  have h1 : ∀ x, frzC P [] σ.h x = x := fun x => by cases x <;> simp [frzC, frzG]
                  have h2 : frzC P [] σ.h = id := funext h1
                  have h3 : ∀ o, frzO P [] σ.h o = o := fun o => by cases o <;> simp [frzO, h2]
                  cases σ.h i <;> simp [h3]
                rw [← e]; exact this
              · exact this
            exact hrep.imp hrep.noH hh
        obtain ⟨σ2, rfl, s2, hrep2⟩ := s2
        obtain ⟨s3, _⟩ := s2.grow hE
        exact ⟨β, _, hK r hr ⟨_, _, _, hrep⟩, s3.put (dstOk_spec hd) hrep2⟩
      · cases hc
    · cases hc
  · exact h.elim
theorem Oper.wp_mono' {o : Oper} {K K' : Act → World → Prop} {Q : Exit → Act → World → Prop} (h : o.wp P a w K fun _ _ _ => False) (hk : ∀ a w, K a w → K' a w) : o.wp P a w K' Q := by
  unfold Oper.wp at *
  generalize (execOp a.eval o).run P w = r at *
  cases r with
  | ok nx w1 =>
    cases nx <;> simp only [Oper.upon] at h ⊢ <;> first
      | exact hk _ _ h
      | exact h.elim
      | exact Calls.mono h fun e w'' he => by
          cases e with
          | returned v => exact hk _ _ he
          | panicked c => exact he.elim
          | outgrown => obtain ⟨_, _, h⟩ := he; exact h.elim
      | exact Rows.mono h fun _ _ he => hk _ _ he
  | halt x w1 => cases x <;> simp only [Oper.upon] at h
theorem execA_run (s : Sim P N w0 S0 β σ a w) {o : Oper} {K : St → Prop} (h : execA P N σ o K) : o.wp P a w (fun a' w' => ∃ β' σ', K σ' ∧ Sim P N w0 S0 β' σ' a' w') fun _ _ _ => False := by
  obtain ⟨hd, h⟩ := h
  split at h
  · next r hv =>
    obtain ⟨u, hrun, hrep⟩ := vval_run s hv
    unfold Oper.wp
    rw [hrun]
    exact ⟨β, _, h, s.put (dstOk_spec hd) hrep⟩
  · split at h
    · next σ' hw => exact Oper.wp_mono' (wstep_run s hd hw) fun a w ⟨β', hs⟩ => ⟨β', σ', h, hs⟩
    · exact callK_run s hd h
/-- An operation, as a region comes upon it. -/
theorem opA_run (s : Sim P N w0 S0 β σ a w) {ops : Array Oper} {o : Oper} {K : St → Prop} {Q : Exit → Act → World → Prop} (h : opA P N ops σ o K) :
    if Region.wanted o (yielded ops a.tmps) then o.wp P a w (fun a' w' => ∃ β' σ', K σ' ∧ Sim P N w0 S0 β' σ' a' w') Q else ∃ β' σ', K σ' ∧ Sim P N w0 S0 β' σ' (a.put o.dst undef) w := by
  unfold opA at h
  split at h
  · next g hg =>
    rw [guardA_run s hg]
    cases g with
    | true => exact Oper.wp_mono' (execA_run s (h.1 rfl)) fun _ _ h => h
    | false => exact ⟨β, _, (h.2 rfl).2, s.put (dstOk_spec (h.2 rfl).1) ⟨[], rfl, .nil⟩⟩
  · exact h.elim
theorem opsA_run {ops : Array Oper} {K : St → Prop} {Q : Exit → Act → World → Prop} (hQ : ∀ β σ a w, K σ → Sim P N w0 S0 β σ a w → Q .normal a w) : ∀ (l : List Oper) (β : Nat → Value) (σ : St) (a : Act) (w : World), opsA P N ops l σ K → Sim P N w0 S0 β σ a w → wpList P ops Q l a w
  | [], β, σ, a, w, h, s => hQ β σ a w h s
  | o :: l, β, σ, a, w, h, s => by
    have h1 := opA_run (Q := Q) s (K := fun σ' => opsA P N ops l σ' K) h
    refine wpList_step fun K' hK' => ?_
    split at h1
    · next hw => rw [if_pos hw]; exact Oper.wp_mono (fun a w ⟨β', σ', h2, h3⟩ => hK' a w (opsA_run hQ l β' σ' a w h2 h3)) h1
    · next hw =>
      rw [if_neg hw]
      obtain ⟨β', σ', h2, h3⟩ := h1
      exact hK' _ _ (opsA_run hQ l β' σ' _ w h2 h3)
end
end Go.Smd
