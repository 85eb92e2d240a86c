/- Arithmetic and tests by value, spelled. Over any program. -/
import Derived.Test.YtphldfnnjoehpaaAg
import Derived.Test.YtphldfnnjoehpaaStr
set_option linter.unusedSimpArgs false
namespace Go.Smd
open Go.RowKit

abbrev aV (v : Value) : Av := .c (.d (.v v))
section
variable {P : Program} {o : BinOp} {k : IntKind} {T : TypeId} {ox oy : Operand} {a b : Int} {s t : ByteArray} {p q : Bool}
theorem binA_nil : binA P o T ox oy (.c (.d (.v .nilIface))) (.c (.d (.v .nilIface))) = nilIs P o T oy true := rfl
theorem binA_trn {x : Tree} : binA P o T ox oy (.c (.d (.tr x))) (.c (.d (.v .nilIface))) = nilIs P o T oy (isNilT x) := rfl
theorem binA_ifn {U : TypeId} {x : D} : binA P o T ox oy (.c (.d (.ifc U x))) (.c (.d (.v .nilIface))) = nilIfc P o T := rfl
theorem binA_ion {U : TypeId} {i j : Nat} : binA P o T ox oy (.c (.io U i j)) (.c (.d (.v .nilIface))) = nilIfc P o T := rfl
theorem binA_lss : binA P .lss T ox oy (.c (.d (.v (.int k a)))) (.c (.d (.v (.int k b)))) = some (.c (.d (.v (.bool (decide (a < b)))))) := by
  simp [binA, valPure, eqGuard, binOp, Op.intCmp, pure, Sem.bind, bind, evalPure, okVb]
theorem binA_gtr : binA P .gtr T ox oy (.c (.d (.v (.int k a)))) (.c (.d (.v (.int k b)))) = some (.c (.d (.v (.bool (decide (b < a)))))) := by
  simp [binA, valPure, eqGuard, binOp, Op.intCmp, pure, Sem.bind, bind, evalPure, okVb]
theorem binA_leq : binA P .leq T ox oy (.c (.d (.v (.int k a)))) (.c (.d (.v (.int k b)))) = some (.c (.d (.v (.bool (decide (a ≤ b)))))) := by
  simp [binA, valPure, eqGuard, binOp, Op.intCmp, pure, Sem.bind, bind, evalPure, okVb]
theorem binA_geq : binA P .geq T ox oy (.c (.d (.v (.int k a)))) (.c (.d (.v (.int k b)))) = some (.c (.d (.v (.bool (decide (b ≤ a)))))) := by
  simp [binA, valPure, eqGuard, binOp, Op.intCmp, pure, Sem.bind, bind, evalPure, okVb]
theorem binA_eql : binA P .eql T ox oy (.c (.d (.v (.int k a)))) (.c (.d (.v (.int k b)))) = some (.c (.d (.v (.bool (decide (a = b)))))) := by
  simp [binA, valPure, eqGuard, binOp, Op.intCmp, pure, Sem.bind, bind, evalPure, okVb]; rfl
theorem binA_neq : binA P .neq T ox oy (.c (.d (.v (.int k a)))) (.c (.d (.v (.int k b)))) = some (.c (.d (.v (.bool (decide (a ≠ b)))))) := by
  simp [binA, valPure, eqGuard, binOp, Op.intCmp, pure, Sem.bind, bind, evalPure, okVb]
  by_cases h : a = b <;> simp [h]
theorem binA_add : binA P .add T ox oy (.c (.d (.v (.int k a)))) (.c (.d (.v (.int k b)))) = some (.c (.d (.v (.int k (k.wrap (a + b)))))) := by
  simp [binA, valPure, eqGuard, binOp, Op.intArith, pure, Sem.bind, bind, evalPure, okVb, okInt_wrap]
theorem binA_sub : binA P .sub T ox oy (.c (.d (.v (.int k a)))) (.c (.d (.v (.int k b)))) = some (.c (.d (.v (.int k (k.wrap (a - b)))))) := by
  simp [binA, valPure, eqGuard, binOp, Op.intArith, pure, Sem.bind, bind, evalPure, okVb, okInt_wrap]
theorem binA_seq : binA P .eql T ox oy (.c (.d (.v (.string s)))) (.c (.d (.v (.string t)))) = some (.c (.d (.v (.bool (decide (s = t)))))) := by
  have h : (s.toList == t.toList) = decide (s = t) := by rw [beq_list]
  simp [binA, valPure, eqGuard, binOp, Op.stringOp, pure, Sem.bind, bind, evalPure, okVb, h]
theorem binA_sne : binA P .neq T ox oy (.c (.d (.v (.string s)))) (.c (.d (.v (.string t)))) = some (.c (.d (.v (.bool (decide (s ≠ t)))))) := by
  have h : (s.toList == t.toList) = decide (s = t) := by rw [beq_list]
  simp [binA, valPure, eqGuard, binOp, Op.stringOp, pure, Sem.bind, bind, evalPure, okVb, h]
theorem binA_slt : binA P .lss T ox oy (.c (.d (.v (.string s)))) (.c (.d (.v (.string t)))) = some (.c (.d (.v (.bool (blt s t))))) := by
  simp [binA, valPure, eqGuard, binOp, Op.stringOp, pure, Sem.bind, bind, evalPure, okVb, blt]
theorem binA_sgt : binA P .gtr T ox oy (.c (.d (.v (.string s)))) (.c (.d (.v (.string t)))) = some (.c (.d (.v (.bool !(blt s t || decide (s = t)))))) := by
  have h : (s.toList == t.toList) = decide (s = t) := by rw [beq_list]
  simp [binA, valPure, eqGuard, binOp, Op.stringOp, pure, Sem.bind, bind, evalPure, okVb, blt, h]
theorem binA_feq {f : FloatKind} {x y : Nat} : binA P .eql T ox oy (.c (.d (.v (.float f x)))) (.c (.d (.v (.float f y)))) = some (.c (.d (.v (.bool (f.format.order x y == some .eq))))) := by
  simp [binA, valPure, eqGuard, binOp, Op.floatCmp, pure, Sem.bind, bind, evalPure, okVb]
theorem binA_flt {f : FloatKind} {x y : Nat} : binA P .lss T ox oy (.c (.d (.v (.float f x)))) (.c (.d (.v (.float f y)))) = some (.c (.d (.v (.bool (f.format.order x y == some .lt))))) := by
  simp [binA, valPure, eqGuard, binOp, Op.floatCmp, pure, Sem.bind, bind, evalPure, okVb]
theorem binA_fgt {f : FloatKind} {x y : Nat} : binA P .gtr T ox oy (.c (.d (.v (.float f x)))) (.c (.d (.v (.float f y)))) = some (.c (.d (.v (.bool (f.format.order x y == some .gt))))) := by
  simp [binA, valPure, eqGuard, binOp, Op.floatCmp, pure, Sem.bind, bind, evalPure, okVb]
theorem unop_not : valPure P (Op.unary .not (.bool p)) = some (.c (.d (.v (.bool !p)))) := by simp [valPure, Op.unary, pure, evalPure, okVb]
theorem binA_beq (hu : P.underlying T = some .bool) : binA P .eql T ox oy (.c (.d (.v (.bool p)))) (.c (.d (.v (.bool q)))) = some (.c (.d (.v (.bool (p == q))))) := by
  have : evalPure P (Op.equal T (.bool p) (.bool q)) = some (p == q) := by
    show evalPure P (Op.equalIn (9999 + 1) T (.bool p) (.bool q)) = _
    unfold Op.equalIn
    simp [underlying, program, bind, Sem.bind, evalPure, hu, pure]
  simp [binA, valPure, eqGuard, binOp, pure, Sem.bind, bind, evalPure, okVb]
  revert this
  generalize Op.equal T (.bool p) (.bool q) = m
  intro this
  have key : ∀ {m : Sem Bool} {x : Bool}, evalPure P m = some x → evalPure P (m.bind fun a => Sem.pure (Value.bool a)) = some (.bool x) := by
    intro m
    induction m with
    | pure a => intro x h; simp [evalPure] at h; subst h; rfl
    | program k ih => intro x h; exact ih P h
    | mark m k ih => intro x h; exact ih h
    | _ => intro x h; simp [evalPure] at h
  rw [key this]
  simp [okVb]

theorem binA_bne (hu : P.underlying T = some .bool) : binA P .neq T ox oy (.c (.d (.v (.bool p)))) (.c (.d (.v (.bool q)))) = some (.c (.d (.v (.bool (p != q))))) := by
  have : evalPure P (Op.equal T (.bool p) (.bool q)) = some (p == q) := by
    show evalPure P (Op.equalIn (9999 + 1) T (.bool p) (.bool q)) = _
    unfold Op.equalIn
    simp [underlying, program, bind, Sem.bind, evalPure, hu, pure]
  simp [binA, valPure, eqGuard, binOp, pure, Sem.bind, bind, evalPure, okVb]
  revert this
  generalize Op.equal T (.bool p) (.bool q) = m
  intro this
  have key : ∀ {m : Sem Bool} {x : Bool}, evalPure P m = some x → evalPure P (m.bind fun a => Sem.pure (Value.bool !a)) = some (.bool !x) := by
    intro m
    induction m with
    | pure a => intro x h; simp [evalPure] at h; subst h; rfl
    | program k ih => intro x h; exact ih P h
    | mark m k ih => intro x h; exact ih h
    | _ => intro x h; simp [evalPure] at h
  rw [key this]
  cases p <;> cases q <;> simp [okVb]
section
variable {N : Nat} {w0 : World} {S0 : Env} {Q : Exit → St → Prop} {σ : St} {x y : Code}

theorem aw_sq (h : AWp P N w0 S0 x (thenA (AWp P N w0 S0 y Q) Q) σ) : AWp P N w0 S0 (.seq x y) Q σ := aw_seq fun K hk => h.mono fun e σ q => by
  cases e with
  | normal => exact hk σ q
  | _ => exact q
theorem th_n {K : St → Prop} (h : K σ) : thenA K Q .normal σ := h
theorem th_r {K : St → Prop} (h : Q .ret σ) : thenA K Q .ret σ := h
theorem th_e {K : St → Prop} {i : Nat} (h : Q (.exit i) σ) : thenA K Q (.exit i) σ := h
theorem ib_n {i : Nat} (h : Q .normal σ) : inBlockA i Q .normal σ := h
theorem ib_r {i : Nat} (h : Q .ret σ) : inBlockA i Q .ret σ := h
theorem ib_e {i : Nat} (h : Q .normal σ) : inBlockA i Q (.exit i) σ := by simp [inBlockA, h]
theorem ib_o {i j : Nat} (hij : (j == i) = false) (h : Q (.exit j) σ) : inBlockA i Q (.exit j) σ := by simp only [beq_eq_false_iff_ne] at hij; simp [inBlockA, hij, h]
theorem fq_r {rs : List ResultVar} {R : Av → Prop} (h : Fin P rs R σ) : FinQ P rs R .ret σ := h
theorem fq_n {rs : List ResultVar} {R : Av → Prop} (h : Fin P rs R σ) : FinQ P rs R .normal σ := h
/-- A way by what its test gave. -/
def CK (P : Program) (N : Nat) (w0 : World) (S0 : Env) (x y : Code) (Q : Exit → St → Prop) (σ : St) (r : Av) : Prop := ∃ t, r = .c (.d (.v (.bool t))) ∧ AWp P N w0 S0 (if t then x else y) Q σ
theorem aw_cond_r {c : Operand} {r : Av} (hc : σ.ev c = r) (h : CK P N w0 S0 x y Q σ r) : AWp P N w0 S0 (.cond c x y) Q σ := by
  obtain ⟨t, rfl, h⟩ := h
  exact aw_cond hc (fun e => by rw [if_pos e] at h; exact h) fun e => by rw [e] at h; exact h
theorem ck_t (h : AWp P N w0 S0 x Q σ) : CK P N w0 S0 x y Q σ (.c (.d (.v (.bool true)))) := ⟨true, rfl, h⟩
theorem ck_f (h : AWp P N w0 S0 y Q σ) : CK P N w0 S0 x y Q σ (.c (.d (.v (.bool false)))) := ⟨false, rfl, h⟩
theorem ck_b {b : Bool} (ht : b = true → AWp P N w0 S0 x Q σ) (hf : b = false → AWp P N w0 S0 y Q σ) : CK P N w0 S0 x y Q σ (.c (.d (.v (.bool b)))) := by
  cases b
  · exact ck_f (hf rfl)
  · exact ck_t (ht rfl)
theorem ck_d {p : Prop} {ip : Decidable p} (ht : p → AWp P N w0 S0 x Q σ) (hf : ¬ p → AWp P N w0 S0 y Q σ) : CK P N w0 S0 x y Q σ (.c (.d (.v (.bool (decide p))))) := ck_b (fun h => ht (of_decide_eq_true h)) fun h => hf (of_decide_eq_false h)
end
end

/-! ### What data that some memory holds is like -/
section
variable {P : Program}
theorem okA_c {x : D} (h : okA P (.c (.d x))) : okD P x := by obtain ⟨w, S, v, h⟩ := h; exact ⟨w, S, v, h⟩
theorem okA_agg {xs : List Cl} (h : okA P (.agg xs)) : ∀ c ∈ xs, ∀ d, c = .d d → okD P d := by
  obtain ⟨w, S, v, us, rfl, ha⟩ := h
  rintro c hc d rfl
  obtain ⟨i, hi⟩ := List.getElem?_of_mem hc
  obtain ⟨u, _, hr⟩ := ha.at hi
  exact ⟨w, S, u, hr⟩
theorem okD_v {x : Value} (h : okD P (.v x)) : okVb x = true := by obtain ⟨w, S, v, h⟩ := h; cases h with | v h => exact h
theorem okD_i64 {n : Int} (h : okD P (.v (.int .i64 n))) : -9223372036854775808 ≤ n ∧ n ≤ 9223372036854775807 := by have := okD_v h; simpa [okVb, okInt] using this
theorem okD_str {s : ByteArray} (h : okD P (.v (.string s))) : s.size ≤ 140737488351232 := by have := okD_v h; simpa [okVb] using this
theorem okD_sl {E : TypeId} {xs : List (List D)} (h : okD P (.sl E xs)) : xs.length * P.bytesOf E ≤ 140737488351232 ∧ ∀ r ∈ xs, r.length = P.cellsOf E ∧ ∀ d ∈ r, okD P d := by
  obtain ⟨w, S, v, h⟩ := h
  obtain ⟨A, c, rfl, _, hb, hr⟩ := RepD.sl_iff.1 h
  refine ⟨hb, fun r hm => ?_⟩
  obtain ⟨j, hj⟩ := List.getElem?_of_mem hm
  refine ⟨(hr j r hj).1, fun d hd => ?_⟩
  obtain ⟨i, hi⟩ := List.getElem?_of_mem hd
  obtain ⟨ad, _, hrow⟩ := (hr j r hj).2 (by have := (List.getElem?_eq_some_iff.1 hi).1; have := (hr j r hj).1; omega)
  obtain ⟨u, _, _, h3⟩ := hrow i d hi
  exact ⟨w, S, u, h3⟩
theorem okD_pt {xs : List D} (h : okD P (.pt xs)) : ∀ d ∈ xs, okD P d := by
  obtain ⟨w, S, v, h⟩ := h
  obtain ⟨ad, rfl, hr⟩ := RepD.pt_iff.1 h
  intro d hd
  obtain ⟨i, hi⟩ := List.getElem?_of_mem hd
  obtain ⟨u, _, _, h3⟩ := hr i d hi
  exact ⟨w, S, u, h3⟩
end
/-- A block's cells are told with less. -/
theorem Weak.cells {P : Program} {N : Nat} {w0 : World} {S0 : Env} {σ : St} {id : Nat} {xs ys : List Cl} {T : TypeId} (h : σ.h id = some (.cells xs T)) (k : All2 (ClLe P) xs ys) : Weak P N w0 S0 σ (σ.new id (.cells ys T)) := fun β a w s => by
  have hS : ∀ b, Sd w0 S0 β σ.h w b → Sd w0 S0 β (σ.new id (.cells ys T)).h w b := fun b hb => ⟨hb.1, hb.2.1, fun i o ho => by
    rw [new_h] at ho
    by_cases e : i = id
    · rw [e]; exact hb.2.2 id _ h
    · simp only [e, if_false] at ho; exact hb.2.2 i o ho⟩
  have st : Steps' P (Sd w0 S0 β σ.h w) (Sd w0 S0 β (σ.new id (.cells ys T)).h w) β β σ.h (σ.new id (.cells ys T)).h w w := by
    refine ⟨fun x v r => r.mono hS, fun i zs U hh => ⟨?_, rfl⟩, fun i ver E zs hh => ⟨ver, E, zs, ?_, Nat.le_refl _, fun _ => rfl⟩, fun i f zs hh => ⟨⟨f, zs, ?_⟩, rfl⟩⟩
    · rw [new_h]
      by_cases e : i = id
      · simp [e]
      · exact ⟨zs, U, by simp [e, hh]⟩
    · rw [new_h]
      have e : i ≠ id := fun e => by rw [e, h] at hh; cases hh
      simp [e, hh]
    · rw [new_h]
      have e : i ≠ id := fun e => by rw [e, h] at hh; cases hh
      simp [e, hh]
  refine ⟨β, s.ext, s.hK, fun i o0 hi0 => ⟨(s.kept i o0 hi0).1, fun o ho => ?_⟩, fun i j oi oj b hi hj => ?_, fun i o b hi => ?_, fun i o hi => ?_, fun t => (s.tmp t).step st, s.sz, s.dfr⟩
  · rw [new_h] at ho
    by_cases e : i = id
    · subst e
      simp only [if_true] at ho; cases ho
      have := (s.kept i o0 hi0).2 _ h
      cases o0 <;> first | exact this | exact this.elim
    · simp only [e, if_false] at ho; exact (s.kept i o0 hi0).2 o ho
  · rw [new_h] at hi hj
    have f : ∀ {i oi}, (if i = id then some (Ow.cells ys T) else σ.h i) = some oi → ∃ o', σ.h i = some o' := fun {i oi} hi => by
      split at hi
      · next e => rw [e]; exact ⟨_, h⟩
      · exact ⟨_, hi⟩
    obtain ⟨o1, h1⟩ := f hi; obtain ⟨o2, h2⟩ := f hj
    exact s.inj i j o1 o2 b h1 h2
  · rw [new_h] at hi
    by_cases e : i = id
    · subst e; exact s.new i _ b h
    · simp only [e, if_false] at hi; exact s.new i o b hi
  · have hi' := hi
    rw [new_h] at hi
    by_cases e : i = id
    · subst e
      simp only [if_true] at hi; cases hi
      obtain ⟨b, us, h1, h2, h3⟩ := s.own i _ h
      exact ⟨b, us, h1, h2, All2.of (by rw [← k.length, h3.length]) fun j y u hy hu => by
        obtain ⟨x, hx, hle⟩ := k.at' hy
        obtain ⟨u', hu', hr⟩ := h3.at hx
        rw [hu] at hu'; cases hu'
        exact hle _ _ _ _ _ (hr.step st)⟩
    · simp only [e, if_false] at hi
      have := s.own i o hi
      cases o with
      | cells zs U => obtain ⟨b, us, h1, h2, h3⟩ := this; exact ⟨b, us, h1, h2, h3.imp fun _ _ _ r => r.step st⟩
      | arr ver E zs =>
        obtain ⟨h3, h4, h5⟩ := this
        exact ⟨h3.frame (framedRDs P) (fun _ _ => rfl) (fun _ _ => rfl) (fun _ h => h) hS, h4, h5⟩
      | clo f zs => obtain ⟨us, h1, h3⟩ := this; exact ⟨us, h1.mono hS, h3.imp fun _ _ _ r => r.step st⟩
end Go.Smd
