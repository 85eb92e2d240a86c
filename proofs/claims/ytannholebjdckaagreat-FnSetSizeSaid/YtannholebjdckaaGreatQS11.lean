/- Part 11 of the proof: Mb Aq. -/
import Derived.Test.YtannholebjdckaaGreatQS10
import Derived.Test.YtannholebjdckaaGreatQS09
import Derived.Test.YtannholebjdckaaGreatQS08
set_option linter.unusedVariables false
section
set_option linter.unusedSimpArgs false
namespace Go.Smd
open Go.RowKit
def tmpL : List (Nat × Av) → Nat → Av
  | [], _ => .any
  | (k, x) :: l, n => if k = n then x else tmpL l n
theorem tmpL_nil (n : Nat) : tmpL [] n = .any := _root_.id rfl
theorem tmpL_eq (n : Nat) (x : Av) (l : List (Nat × Av)) : tmpL ((n, x) :: l) n = x := by simp [tmpL]
theorem tmpL_ne {k n : Nat} (x : Av) (l : List (Nat × Av)) (h : (k = n) = False) : tmpL ((k, x) :: l) n = tmpL l n := by simp [tmpL, h]
theorem tmp_tmpL : ∀ (l : List (Nat × Av)) (own : List (Nat × Ow)) (n : Nat), (St.mk l own).tmp n = tmpL l n
  | [], own, n => rfl
  | (k, x) :: l, own, n => by
    have := tmp_tmpL l own n
    unfold St.tmp at *
    simp only [look, tmpL]
    split <;> simp_all
theorem look_nil {α : Type} (n : Nat) : look ([] : List (Nat × α)) n = none := _root_.id rfl
theorem look_eq {α : Type} (n : Nat) (x : α) (l : List (Nat × α)) : look ((n, x) :: l) n = some x := by simp [look]
theorem look_ne {α : Type} {k n : Nat} (x : α) (l : List (Nat × α)) (h : (k = n) = False) : look ((k, x) :: l) n = look l n := by simp [look, h]
theorem h_mk (l : List (Nat × Av)) (own : List (Nat × Ow)) (n : Nat) : (St.mk l own).h n = look own n := _root_.id rfl
theorem put_some (l : List (Nat × Av)) (own : List (Nat × Ow)) (d : Tmp) (x : Av) : (St.mk l own).put (some d) x = ⟨(d, x) :: l, own⟩ := _root_.id rfl
theorem put_none (σ : St) (x : Av) : σ.put none x = σ := _root_.id rfl
theorem new_mk (l : List (Nat × Av)) (own : List (Nat × Ow)) (d : Nat) (o : Ow) : (St.mk l own).new d o = ⟨l, (d, o) :: own⟩ := _root_.id rfl
theorem ev_tmp (σ : St) (t : Tmp) : σ.ev (.tmp t) = σ.tmp t := _root_.id rfl
theorem ev_func (σ : St) (f : FuncId) : σ.ev (.func f) = .c (.d (.v (.func (.func f) #[] #[]))) := _root_.id rfl
theorem ev_const (σ : St) (v : Value) : σ.ev (.const v) = if okVb v then .c (.d (.v v)) else .any := _root_.id rfl
theorem ev_bool (σ : St) (b : Bool) : σ.ev (.const (.bool b)) = .c (.d (.v (.bool b))) := _root_.id rfl
theorem ev_nilIface (σ : St) : σ.ev (.const .nilIface) = .c (.d (.v .nilIface)) := _root_.id rfl
theorem ev_nilPtr (σ : St) : σ.ev (.const (.pointer none)) = .c (.d (.v (.pointer none))) := _root_.id rfl
theorem ev_nilFunc (σ : St) : σ.ev (.const .nilFunc) = .c (.d (.v .nilFunc)) := _root_.id rfl
theorem ev_nilSlice (σ : St) : σ.ev (.const (.slice none 0 0)) = .c (.d (.v (.slice none 0 0))) := _root_.id rfl
theorem ev_nilMap (σ : St) : σ.ev (.const (.map none)) = .c (.d (.v (.map none))) := _root_.id rfl
section
variable {P : Program} {σ : St} {d : Option Tmp} {ty : TypeId} {pos : String} {af : Array Edge} {g : Option (Nat × Bool)}
theorem vv_move {x : Operand} : vval P σ ⟨d, .move x, ty, pos, af, g⟩ = some (σ.ev x) := _root_.id rfl
theorem vv_assign {x : Operand} : vval P σ ⟨d, .assign x, ty, pos, af, g⟩ = some (σ.ev x) := _root_.id rfl
def pickA : Av → Av → Av → Option Av
  | .c (.d (.v (.bool t))), a, b => some (if t then a else b)
  | _, _, _ => none
theorem pick_b {t : Bool} {a b : Av} : pickA (.c (.d (.v (.bool t)))) a b = some (if t then a else b) := _root_.id rfl
theorem vv_pick {c x y : Operand} : vval P σ ⟨d, .pick c x y, ty, pos, af, g⟩ = pickA (σ.ev c) (σ.ev x) (σ.ev y) := by
  show (match σ.ev c with | .c (.d (.v (.bool t))) => some (if t then σ.ev x else σ.ev y) | _ => none) = _
  unfold pickA
  split <;> simp_all
def unA (P : Program) (op : UnOp) : Av → Option Av
  | .c (.d (.v v)) => valPure P (Op.unary op v)
  | _ => none
theorem un_v {op : UnOp} {v : Value} : unA P op (.c (.d (.v v))) = valPure P (Op.unary op v) := _root_.id rfl
theorem vv_unOp {op : UnOp} {T : TypeId} {x : Operand} : vval P σ ⟨d, .unOp op T x, ty, pos, af, g⟩ = unA P op (σ.ev x) := by
  show (match σ.ev x with | .c (.d (.v v)) => valPure P (Op.unary op v) | _ => none) = _
  unfold unA
  split <;> simp_all
theorem vv_binOp {op : BinOp} {T T' : TypeId} {x y : Operand} : vval P σ ⟨d, .binOp op T x y T', ty, pos, af, g⟩ = binA P op T x y (σ.ev x) (σ.ev y) := _root_.id rfl
def convA (P : Program) (s t : TypeId) : Av → Option Av
  | .c (.d (.v v)) => valPure P (convert s t v)
  | _ => none
theorem conv_v {s t : TypeId} {v : Value} : convA P s t (.c (.d (.v v))) = valPure P (convert s t v) := _root_.id rfl
theorem vv_convert {s t : TypeId} {x : Operand} : vval P σ ⟨d, .convert s t x, ty, pos, af, g⟩ = convA P s t (σ.ev x) := by
  show (match σ.ev x with | .c (.d (.v v)) => valPure P (convert s t v) | _ => none) = _
  unfold convA
  split <;> simp_all
theorem vv_fieldAddr {T f : Nat} {x : Operand} : vval P σ ⟨d, .fieldAddr T x f, ty, pos, af, g⟩ = fieldAddrA P T f (σ.ev x) := _root_.id rfl
theorem vv_load {T : TypeId} {x : Operand} : vval P σ ⟨d, .load T x, ty, pos, af, g⟩ = loadA P σ.h T (σ.ev x) := _root_.id rfl
theorem vv_indexAddr {T : TypeId} {x i : Operand} : vval P σ ⟨d, .indexAddr T x i, ty, pos, af, g⟩ = indexAddrA P σ.h T (σ.ev x) (σ.ev i) := _root_.id rfl
theorem vv_index {T : TypeId} {x i : Operand} : vval P σ ⟨d, .index T x i, ty, pos, af, g⟩ = indexA P T (σ.ev x) (σ.ev i) := _root_.id rfl
theorem vv_extract {x : Operand} {i : Nat} : vval P σ ⟨d, .extract x i, ty, pos, af, g⟩ = extractA (σ.ev x) i := _root_.id rfl
def chkA : Av → Option Av
  | .c (.own id off) => some (.c (.own id off))
  | .c (.d (.pt xs)) => some (.c (.d (.pt xs)))
  | .c (.io T id off) => some (.c (.io T id off))
  | .c (.d (.ifc T y)) => some (.c (.d (.ifc T y)))
  | _ => none
theorem chk_own {id off : Nat} : chkA (.c (.own id off)) = some (.c (.own id off)) := _root_.id rfl
theorem chk_pt {xs : List D} : chkA (.c (.d (.pt xs))) = some (.c (.d (.pt xs))) := _root_.id rfl
theorem chk_io {T : TypeId} {id off : Nat} : chkA (.c (.io T id off)) = some (.c (.io T id off)) := _root_.id rfl
theorem chk_ifc {T : TypeId} {y : D} : chkA (.c (.d (.ifc T y))) = some (.c (.d (.ifc T y))) := _root_.id rfl
theorem vv_nilCheck {x : Operand} : vval P σ ⟨d, .nilCheck x, ty, pos, af, g⟩ = chkA (σ.ev x) := by
  show (match σ.ev x with | .c (.own id off) => some (Av.c (.own id off)) | .c (.d (.pt xs)) => some (Av.c (.d (.pt xs))) | .c (.io T id off) => some (Av.c (.io T id off)) | .c (.d (.ifc T y)) => some (Av.c (.d (.ifc T y))) | _ => none) = _
  unfold chkA
  split <;> simp_all
theorem vv_typeAssert {x : Operand} {T U : TypeId} {ok : Bool} : vval P σ ⟨d, .typeAssert x T U ok, ty, pos, af, g⟩ = assertA P U ok (σ.ev x) := _root_.id rfl
theorem vv_makeFunc {fn : Fn} {first caps : Array Operand} : vval P σ ⟨d, .makeFunc fn first caps, ty, pos, af, g⟩ = funcV fn first.isEmpty caps.isEmpty := _root_.id rfl
theorem vv_lookup {T : TypeId} {x k : Operand} {ok : Bool} : vval P σ ⟨d, .lookup T x k ok, ty, pos, af, g⟩ = lookA P T (σ.ev x) (σ.ev k) ok := _root_.id rfl
theorem vv_makeInterface {T : TypeId} {x : Operand} : vval P σ ⟨d, .makeInterface T x, ty, pos, af, g⟩ = makeIfcA P T (σ.ev x) := _root_.id rfl
theorem vv_build {T : TypeId} {ps : List (Nat × Operand)} : vval P σ ⟨d, .build T ps.toArray, ty, pos, af, g⟩ = buildA P σ T ps := _root_.id rfl
theorem vv_slice {T : TypeId} {x : Operand} {lo hi : Option Operand} : vval P σ ⟨d, .slice T x lo hi none, ty, pos, af, g⟩ = sliceA P T (σ.ev x) (lo.map σ.ev) (hi.map σ.ev) := _root_.id rfl
theorem vv_call {c : Callee} {xs : List Operand} {Ts : Array TypeId} : vval P σ ⟨d, .call ⟨c, xs.toArray, Ts⟩, ty, pos, af, g⟩ = lenCall P σ ⟨c, xs.toArray, Ts⟩ := _root_.id rfl
theorem len_value {f : Operand} {xs : Array Operand} {Ts : Array TypeId} : lenCall P σ ⟨.value f, xs, Ts⟩ = none := _root_.id rfl
theorem len_invoke {f : Operand} {m : String} {xs : Array Operand} {Ts : Array TypeId} : lenCall P σ ⟨.invoke f m, xs, Ts⟩ = none := _root_.id rfl
theorem len_len {x : Operand} {T : TypeId} : lenCall P σ ⟨.builtin .len, #[x], #[T]⟩ = (match mapLen P T (σ.ev x) with | some r => some r | none => lenA P σ.h T (σ.ev x)) := _root_.id rfl
theorem len_min {xs : List Operand} {Ts : Array TypeId} : lenCall P σ ⟨.builtin .min, xs.toArray, Ts⟩ = minA (xs.map σ.ev) := _root_.id rfl
theorem len_append {xs : Array Operand} {Ts : Array TypeId} : lenCall P σ ⟨.builtin .append, xs, Ts⟩ = none := _root_.id rfl
theorem vv_alloc {T : TypeId} : vval P σ ⟨d, .alloc T, ty, pos, af, g⟩ = none := _root_.id rfl
theorem vv_box {T : TypeId} {x : Operand} : vval P σ ⟨d, .box T x, ty, pos, af, g⟩ = none := _root_.id rfl
theorem vv_store {T : TypeId} {x y : Operand} : vval P σ ⟨d, .store T x y, ty, pos, af, g⟩ = none := _root_.id rfl
theorem vv_buildSlice {T : TypeId} {n : Nat} {ps : Array (Nat × Operand)} : vval P σ ⟨d, .buildSlice T n ps, ty, pos, af, g⟩ = none := _root_.id rfl
theorem vv_makeSlice {T : TypeId} {x y : Operand} : vval P σ ⟨d, .makeSlice T x y, ty, pos, af, g⟩ = none := _root_.id rfl
theorem vv_range {T : TypeId} {x : Operand} : vval P σ ⟨d, .range T x, ty, pos, af, g⟩ = none := _root_.id rfl
theorem vv_next {x : Operand} {b : Bool} : vval P σ ⟨d, .next x b, ty, pos, af, g⟩ = none := _root_.id rfl
theorem vv_entry {x : Operand} : vval P σ ⟨d, .entry x, ty, pos, af, g⟩ = none := _root_.id rfl
theorem vv_defer {c : Call} : vval P σ ⟨d, .defer c, ty, pos, af, g⟩ = none := _root_.id rfl
def resW (σ : St) (d : Option Tmp) : Option Wres → Option St
  | some (id, x, r) => some ((σ.new id x).put d r)
  | none => none
theorem resW_some {id : Nat} {x : Ow} {r : Av} : resW σ d (some (id, x, r)) = some ((σ.new id x).put d r) := _root_.id rfl
theorem resW_none : resW σ d none = none := _root_.id rfl
theorem ws_of {op : Op} : wstep P σ ⟨d, op, ty, pos, af, g⟩ = resW σ d (wres P σ ⟨d, op, ty, pos, af, g⟩) := by
  unfold wstep resW
  cases wres P σ ⟨d, op, ty, pos, af, g⟩ <;> rfl
theorem ws_alloc {T : TypeId} {t : Tmp} : wres P σ ⟨some t, .alloc T, ty, pos, af, g⟩ = (zeroCs P T).bind fun cs => newCells σ.h t cs T := _root_.id rfl
theorem ws_box {T : TypeId} {x : Operand} {t : Tmp} : wres P σ ⟨some t, .box T x, ty, pos, af, g⟩ = (cellsA (σ.ev x)).bind fun cs => newCells σ.h t cs T := _root_.id rfl
theorem ws_store {T : TypeId} {x y : Operand} : wres P σ ⟨none, .store T x y, ty, pos, af, g⟩ = storeA P σ.h T (σ.ev x) (σ.ev y) := _root_.id rfl
theorem ws_buildSlice {T : TypeId} {n : Nat} {ps : List (Nat × Operand)} {t : Tmp} : wres P σ ⟨some t, .buildSlice T n ps.toArray, ty, pos, af, g⟩ = litA P σ.h t T n (ps.map fun p => (p.1, σ.ev p.2)) := _root_.id rfl
theorem ws_makeSlice {T : TypeId} {x y : Operand} {t : Tmp} : wres P σ ⟨some t, .makeSlice T x y, ty, pos, af, g⟩ = makeA P σ.h t T (σ.ev x) (σ.ev y) := _root_.id rfl
theorem ws_append {x y : Operand} {T T' : TypeId} {t : Tmp} : wres P σ ⟨some t, .call ⟨.builtin .append, #[x, y], #[T, T']⟩, ty, pos, af, g⟩ = if T = T' then appA P σ.h t T (σ.ev x) (σ.ev y) else none := _root_.id rfl
theorem ws_callv {x : Operand} {xs : Array Operand} {Ts : Array TypeId} : wres P σ ⟨d, .call ⟨.value x, xs, Ts⟩, ty, pos, af, g⟩ = none := by cases d <;> rfl
theorem ws_calli {x : Operand} {m : String} {xs : Array Operand} {Ts : Array TypeId} : wres P σ ⟨d, .call ⟨.invoke x m, xs, Ts⟩, ty, pos, af, g⟩ = none := by cases d <;> rfl
theorem ws_makeFunc {fn : Fn} {first caps : Array Operand} : wres P σ ⟨d, .makeFunc fn first caps, ty, pos, af, g⟩ = none := by cases d <;> rfl
theorem ws_range {T : TypeId} {x : Operand} : wres P σ ⟨d, .range T x, ty, pos, af, g⟩ = none := by cases d <;> rfl
theorem ws_next {x : Operand} {b : Bool} : wres P σ ⟨d, .next x b, ty, pos, af, g⟩ = none := by cases d <;> rfl
theorem ws_entry {x : Operand} : wres P σ ⟨d, .entry x, ty, pos, af, g⟩ = none := by cases d <;> rfl
theorem ws_defer {c : Call} : wres P σ ⟨d, .defer c, ty, pos, af, g⟩ = none := by cases d <;> rfl
theorem clo_call {c : Call} : cloA σ ⟨d, .call c, ty, pos, af, g⟩ = none := _root_.id rfl
theorem clo_range {T : TypeId} {x : Operand} : cloA σ ⟨d, .range T x, ty, pos, af, g⟩ = none := _root_.id rfl
theorem clo_next {x : Operand} {b : Bool} : cloA σ ⟨d, .next x b, ty, pos, af, g⟩ = none := _root_.id rfl
theorem clo_entry {x : Operand} : cloA σ ⟨d, .entry x, ty, pos, af, g⟩ = none := _root_.id rfl
theorem clo_defer {c : Call} : cloA σ ⟨d, .defer c, ty, pos, af, g⟩ = none := _root_.id rfl
theorem clo_make {fn : Fn} {first : Array Operand} {caps : List Operand} {t : Tmp} : cloA σ ⟨some t, .makeFunc fn first caps.toArray, ty, pos, af, g⟩ = (funcA σ.h t fn first.isEmpty (caps.map σ.ev)).map fun q => (σ.new q.1 q.2.1).put (some t) q.2.2 := _root_.id rfl
def callF (P : Program) (h : Nat → Option Ow) (q : Option (FuncId × List Av × List TypeId)) : Option (FuncId × List Av × List Nat) :=
  match q with
  | some (f, xs, Ts) => some (f, argsC P (xs.flatMap (Av.deep h)) h xs Ts, xs.flatMap (Av.deep h))
  | none => none
theorem callF_some {h : Nat → Option Ow} {f : FuncId} {xs : List Av} {Ts : List TypeId} : callF P h (some (f, xs, Ts)) = some (f, argsC P (xs.flatMap (Av.deep h)) h xs Ts, xs.flatMap (Av.deep h)) := _root_.id rfl
theorem callF_none {h : Nat → Option Ow} : callF P h none = none := _root_.id rfl
theorem co_of {o : Oper} : callOf P σ o = callF P σ.h (calleeOf P σ o) := by
  unfold callOf callF
  cases calleeOf P σ o <;> rfl
theorem ce_func {f : FuncId} {xs : List Operand} {Ts : List TypeId} : calleeOf P σ ⟨d, .call ⟨.value (.func f), xs.toArray, Ts.toArray⟩, ty, pos, af, g⟩ = some (f, xs.map σ.ev, Ts) := _root_.id rfl
theorem ce_tmp {t : Tmp} {xs : List Operand} {Ts : List TypeId} : calleeOf P σ ⟨d, .call ⟨.value (.tmp t), xs.toArray, Ts.toArray⟩, ty, pos, af, g⟩ = (capArgs σ.h (σ.tmp t)).map fun q => (q.1, xs.map σ.ev ++ q.2, Ts) := _root_.id rfl
theorem ce_invoke {x : Operand} {m : String} {xs : List Operand} {Ts : List TypeId} : calleeOf P σ ⟨d, .call ⟨.invoke x m, xs.toArray, Ts.toArray⟩, ty, pos, af, g⟩ = (invokeA P σ.h (σ.ev x) m).map fun q => (q.1, q.2 :: xs.map σ.ev, noT :: Ts) := _root_.id rfl
theorem ce_range {T : TypeId} {x : Operand} : calleeOf P σ ⟨d, .range T x, ty, pos, af, g⟩ = none := _root_.id rfl
theorem ce_next {x : Operand} {b : Bool} : calleeOf P σ ⟨d, .next x b, ty, pos, af, g⟩ = none := _root_.id rfl
theorem ce_entry {x : Operand} : calleeOf P σ ⟨d, .entry x, ty, pos, af, g⟩ = none := _root_.id rfl
theorem ce_defer {c : Call} : calleeOf P σ ⟨d, .defer c, ty, pos, af, g⟩ = none := _root_.id rfl
theorem argsC_nil0 {F : List Nat} {h : Nat → Option Ow} {Ts : List TypeId} : argsC P F h [] Ts = [] := _root_.id rfl
theorem argsC_none {F : List Nat} {h : Nat → Option Ow} {x : Av} {xs : List Av} : argsC P F h (x :: xs) [] = frzA P F h x :: argsC P F h xs [] := _root_.id rfl
theorem argsC_cons {F : List Nat} {h : Nat → Option Ow} {x : Av} {xs : List Av} {T : TypeId} {Ts : List TypeId} : argsC P F h (x :: xs) (T :: Ts) = (if T = noT then frzA P F h x else argC P T (frzA P F h x)) :: argsC P F h xs Ts := _root_.id rfl
end
theorem gd_none {ops : Array Oper} {σ : St} {d : Option Tmp} {op : Op} {ty : TypeId} {pos : String} {af : Array Edge} : guardA ops σ ⟨d, op, ty, pos, af, none⟩ = some true := _root_.id rfl
def gdA (w : Bool) : Av → Option Bool
  | .c (.d (.v (.bool b))) => some (b == w)
  | .tup [] => some false
  | _ => none
theorem gd_b {w b : Bool} : gdA w (.c (.d (.v (.bool b)))) = some (b == w) := _root_.id rfl
theorem gd_tup {w : Bool} : gdA w (.tup []) = some false := _root_.id rfl
def gdD (σ : St) (w : Bool) : Option Tmp → Option Bool
  | none => some false
  | some d => gdA w (σ.tmp d)
theorem gdD_some {σ : St} {w : Bool} {t : Tmp} : gdD σ w (some t) = gdA w (σ.tmp t) := _root_.id rfl
theorem gd_some {all : List Oper} {σ : St} {d : Option Tmp} {op : Op} {ty : TypeId} {pos : String} {af : Array Edge} {j : Nat} {w : Bool} : guardA all.toArray σ ⟨d, op, ty, pos, af, some (j, w)⟩ = gdD σ w ((nth all j).bind (·.dst)) := by
  unfold guardA gdD gdA
  rw [nth_eq]
  simp only [List.getElem?_toArray]
  cases (all[j]?).bind (·.dst) with
  | none => rfl
  | some t =>
    simp only
    split <;> simp_all
theorem nth_zero {o : Oper} {l : List Oper} : nth (o :: l) 0 = some o := _root_.id rfl
theorem nth_succ {o : Oper} {l : List Oper} {i : Nat} : nth (o :: l) (i + 1) = nth l i := _root_.id rfl
theorem dst_ok {N : Nat} {t : Tmp} {op : Op} {ty : TypeId} {pos : String} {af : Array Edge} {g : Option (Nat × Bool)} : dstOk N ⟨some t, op, ty, pos, af, g⟩ = decide (t < N) := _root_.id rfl
theorem dst_none {N : Nat} {op : Op} {ty : TypeId} {pos : String} {af : Array Edge} {g : Option (Nat × Bool)} : dstOk N ⟨none, op, ty, pos, af, g⟩ = true := _root_.id rfl
def gsrc (all : List Oper) : List Oper → Option Tmp → Bool
  | [], _ => false
  | q :: l, d => (match q.guard with | some (j, _) => decide ((nth all j).bind (·.dst) = d) | none => false) || gsrc all l d
theorem gs_nil {all : List Oper} {d : Option Tmp} : gsrc all [] d = false := _root_.id rfl
theorem gs_none {all l : List Oper} {d e : Option Tmp} {op : Op} {ty : TypeId} {pos : String} {af : Array Edge} : gsrc all (⟨e, op, ty, pos, af, none⟩ :: l) d = gsrc all l d := by simp [gsrc]
theorem gs_some {all l : List Oper} {d e : Option Tmp} {op : Op} {ty : TypeId} {pos : String} {af : Array Edge} {j : Nat} {w : Bool} : gsrc all (⟨e, op, ty, pos, af, some (j, w)⟩ :: l) d = (decide ((nth all j).bind (·.dst) = d) || gsrc all l d) := by simp [gsrc]
def Sel (g : Bool) (A B : Prop) (_ : Tg (A ∧ B)) : Prop := match g with | true => A | false => B
theorem Sel_true {A B : Prop} {t : Tg (A ∧ B)} : Sel true A B t = A := _root_.id rfl
theorem Sel_false {A B : Prop} {t : Tg (A ∧ B)} : Sel false A B t = B := _root_.id rfl
def Kv (all : List Oper) (d : Option Tmp) (K : Av → Prop) (_ : Tg (all, d, K)) (r : Av) : Prop := K r
theorem Kv_true {all : List Oper} {d : Option Tmp} {K : Av → Prop} {t : Tg (all, d, K)} : Kv all d K t (.c (.d (.v (.bool true)))) = K (.c (.d (.v (.bool true)))) := _root_.id rfl
theorem Kv_false {all : List Oper} {d : Option Tmp} {K : Av → Prop} {t : Tg (all, d, K)} : Kv all d K t (.c (.d (.v (.bool false)))) = K (.c (.d (.v (.bool false)))) := _root_.id rfl
theorem Kv_b {all : List Oper} {d : Option Tmp} {K : Av → Prop} {t : Tg (all, d, K)} {b : Bool} : Kv all d K t (.c (.d (.v (.bool b)))) = Sel (gsrc all all d) (Br b (K (.c (.d (.v (.bool true))))) (K (.c (.d (.v (.bool false))))) ()) (K (.c (.d (.v (.bool b))))) () := by
  cases b <;> cases gsrc all all d <;> rfl
theorem Kv_any {all : List Oper} {d : Option Tmp} {K : Av → Prop} {t : Tg (all, d, K)} {r : Av} : Kv all d K t r = K r := _root_.id rfl
section
variable {P : Program} {N : Nat} {w0 : World} {S0 : Env} {Q : Exit → St → Prop} {sc : Sch} {n : Nat} {k : List Fr} {tl : List (Nat × Av)} {hl : List (Nat × Ow)} {σ : St}
theorem ex_nil {t : Tx P N w0 S0 Q sc []} : ex P N w0 S0 Q sc [] t (n + 1) ⟨tl, hl⟩ = Q .normal ⟨tl, hl⟩ := _root_.id rfl
theorem ex_lp {K : St → Prop} {t : Tx P N w0 S0 Q sc (.lp K :: k)} : ex P N w0 S0 Q sc (.lp K :: k) t (n + 1) ⟨tl, hl⟩ = K ⟨tl, hl⟩ := _root_.id rfl
theorem ex_blk {i : Nat} {t : Tx P N w0 S0 Q sc (.blk i :: k)} : ex P N w0 S0 Q sc (.blk i :: k) t (n + 1) ⟨tl, hl⟩ = ex P N w0 S0 Q sc k () n ⟨tl, hl⟩ := _root_.id rfl
theorem ex_ops_nil {all : List Oper} {t : Tx P N w0 S0 Q sc (.ops all [] :: k)} : ex P N w0 S0 Q sc (.ops all [] :: k) t (n + 1) ⟨tl, hl⟩ = ex P N w0 S0 Q sc k () n ⟨tl, hl⟩ := _root_.id rfl
theorem ex_ops {all l : List Oper} {d : Option Tmp} {op : Op} {ty : TypeId} {pos : String} {af : Array Edge} {g : Option (Nat × Bool)} {t : Tx P N w0 S0 Q sc (.ops all (⟨d, op, ty, pos, af, g⟩ :: l) :: k)} : ex P N w0 S0 Q sc (.ops all (⟨d, op, ty, pos, af, g⟩ :: l) :: k) t (n + 1) ⟨tl, hl⟩ =
    Must (dstOk N ⟨d, op, ty, pos, af, g⟩) (Ob (guardA all.toArray ⟨tl, hl⟩ ⟨d, op, ty, pos, af, g⟩)
      (Ov (vval P ⟨tl, hl⟩ ⟨d, op, ty, pos, af, g⟩) (fun r => Kv all d (fun r => ex P N w0 S0 Q sc (.ops all l :: k) () n (St.put ⟨tl, hl⟩ d r)) () r) (Ov (wstep P ⟨tl, hl⟩ ⟨d, op, ty, pos, af, g⟩) (fun σ' => ex P N w0 S0 Q sc (.ops all l :: k) () n σ') (Ov (cloA ⟨tl, hl⟩ ⟨d, op, ty, pos, af, g⟩) (fun σ' => ex P N w0 S0 Q sc (.ops all l :: k) () n σ')
        (Nd P ⟨tl, hl⟩ ⟨d, op, ty, pos, af, g⟩ (fun σ' => ex P N w0 S0 Q sc (.ops all l :: k) () n σ') () (callOf P ⟨tl, hl⟩ ⟨d, op, ty, pos, af, g⟩)) ()) ()) ())
      (ex P N w0 S0 Q sc (.ops all l :: k) () n (St.put ⟨tl, hl⟩ d (.tup []))) ()) () := _root_.id rfl
theorem ex_drw_nil {all : List Oper} {B : List Nat} {t : Tx P N w0 S0 Q sc (.drw all B [] :: k)} : ex P N w0 S0 Q sc (.drw all B [] :: k) t (n + 1) ⟨tl, hl⟩ = ex P N w0 S0 Q sc k () n ⟨tl, hl⟩ := _root_.id rfl
theorem ex_drw {all : List Oper} {B : List Nat} {i : Nat} {As : List Nat} {is : List (Nat × List Nat)} {t : Tx P N w0 S0 Q sc (.drw all B ((i, As) :: is) :: k)} : ex P N w0 S0 Q sc (.drw all B ((i, As) :: is) :: k) t (n + 1) ⟨tl, hl⟩ = Ov (nth all i)
    (fun o => asX P N all ⟨tl, hl⟩ o As ∧ Must (dstOk N o) (Ob (guardA all.toArray ⟨tl, hl⟩ o)
      (Ov (vval P ⟨tl, hl⟩ o) (fun r => Kv all o.dst (fun r => ex P N w0 S0 Q sc (.drw all B is :: k) () n (St.put ⟨tl, hl⟩ o.dst r)) () r) (Ov (wstep P ⟨tl, hl⟩ o) (fun σ' => ex P N w0 S0 Q sc (.drw all B is :: k) () n σ') (Nw P B i ⟨tl, hl⟩ o (fun σ' => ex P N w0 S0 Q sc (.drw all B is :: k) () n σ') () (callOf P ⟨tl, hl⟩ o)) ()) ())
      (ex P N w0 S0 Q sc (.drw all B is :: k) () n (St.put ⟨tl, hl⟩ o.dst (.tup []))) ()) ()) False () := _root_.id rfl
theorem ex_seq {x y : Code} {t : Tx P N w0 S0 Q sc (.code (.seq x y) :: k)} : ex P N w0 S0 Q sc (.code (.seq x y) :: k) t (n + 1) ⟨tl, hl⟩ = ex P N w0 S0 Q sc (.code x :: .code y :: k) () n ⟨tl, hl⟩ := _root_.id rfl
theorem ex_skip {t : Tx P N w0 S0 Q sc (.code .skip :: k)} : ex P N w0 S0 Q sc (.code .skip :: k) t (n + 1) ⟨tl, hl⟩ = ex P N w0 S0 Q sc k () n ⟨tl, hl⟩ := _root_.id rfl
theorem ex_label {i : Nat} {t : Tx P N w0 S0 Q sc (.code (.label i) :: k)} : ex P N w0 S0 Q sc (.code (.label i) :: k) t (n + 1) ⟨tl, hl⟩ = ex P N w0 S0 Q sc k () n ⟨tl, hl⟩ := _root_.id rfl
theorem ex_block {i : Nat} {c : Code} {t : Tx P N w0 S0 Q sc (.code (.block i c) :: k)} : ex P N w0 S0 Q sc (.code (.block i c) :: k) t (n + 1) ⟨tl, hl⟩ = ex P N w0 S0 Q sc (.code c :: .blk i :: k) () n ⟨tl, hl⟩ := _root_.id rfl
theorem ex_ret {t : Tx P N w0 S0 Q sc (.code .ret :: k)} : ex P N w0 S0 Q sc (.code .ret :: k) t (n + 1) ⟨tl, hl⟩ = Q .ret ⟨tl, hl⟩ := _root_.id rfl
theorem ex_cond {c : Operand} {x y : Code} {t : Tx P N w0 S0 Q sc (.code (.cond c x y) :: k)} : ex P N w0 S0 Q sc (.code (.cond c x y) :: k) t (n + 1) ⟨tl, hl⟩ = Tst (St.ev ⟨tl, hl⟩ c) (ex P N w0 S0 Q sc (.code x :: k) () n ⟨tl, hl⟩) (ex P N w0 S0 Q sc (.code y :: k) () n ⟨tl, hl⟩) () := _root_.id rfl
theorem ex_region {i : Nat} {l : List Oper} {t : Tx P N w0 S0 Q sc (.code (.region i l.toArray false) :: k)} : ex P N w0 S0 Q sc (.code (.region i l.toArray false) :: k) t (n + 1) ⟨tl, hl⟩ = ex P N w0 S0 Q sc (.ops l l :: k) () n ⟨tl, hl⟩ := _root_.id rfl
def exD (P : Program) (N : Nat) (w0 : World) (S0 : Env) (Q : Exit → St → Prop) (sc : Sch) (k : List Fr) (i : Nat) (l : List Oper) (n : Nat) (tl : List (Nat × Av)) (hl : List (Nat × Ow)) (_ : Tg (P, N, w0, S0, Q, sc, k, l, n, tl, hl)) (q : Option (List Nat × List (Nat × List Nat))) : Prop :=
  Ov q (fun q => Dn P l q.1 q.2 (ex P N w0 S0 Q sc (.drw l q.1 q.2 :: k) () n ⟨tl, hl⟩) ()) (KQ P N w0 S0 Q (.code (.region i l.toArray true) :: k) .normal ⟨tl, hl⟩) ()
theorem ex_drawn {i : Nat} {l : List Oper} {t : Tx P N w0 S0 Q sc (.code (.region i l.toArray true) :: k)} : ex P N w0 S0 Q sc (.code (.region i l.toArray true) :: k) t (n + 1) ⟨tl, hl⟩ = exD P N w0 S0 Q sc k i l n tl hl () (look sc i) := _root_.id rfl
theorem exD_some {i : Nat} {l : List Oper} {B : List Nat} {is : List (Nat × List Nat)} {t : Tg (P, N, w0, S0, Q, sc, k, l, n, tl, hl)} : exD P N w0 S0 Q sc k i l n tl hl t (some (B, is)) = Dn P l B is (ex P N w0 S0 Q sc (.drw l B is :: k) () n ⟨tl, hl⟩) () := _root_.id rfl
def unw (P : Program) (N : Nat) (w0 : World) (S0 : Env) (Q : Exit → St → Prop) (sc : Sch) (k k0 : List Fr) (_ : Tx P N w0 S0 Q sc k) (_ : Tg k0) (i n : Nat) (σ : St) : Prop := Ov (unwind i k) (fun k' => exR P N w0 S0 Q sc n k' σ) (KQ P N w0 S0 Q k0 (.exit i) σ) ()
theorem ex_exit {i : Nat} {t : Tx P N w0 S0 Q sc (.code (.exit i) :: k)} : ex P N w0 S0 Q sc (.code (.exit i) :: k) t (n + 1) ⟨tl, hl⟩ = unw P N w0 S0 Q sc k k () () i n ⟨tl, hl⟩ := _root_.id rfl
theorem unw_blk {i : Nat} {k0 : List Fr} {t : Tx P N w0 S0 Q sc (.blk i :: k)} {u : Tg k0} : unw P N w0 S0 Q sc (.blk i :: k) k0 t u i n σ = ex P N w0 S0 Q sc k () n σ := by simp [unw, unwind, Ov, ex]
theorem unw_ne {i j : Nat} {k0 : List Fr} {t : Tx P N w0 S0 Q sc (.blk j :: k)} {u : Tg k0} (h : (i = j) = False) : unw P N w0 S0 Q sc (.blk j :: k) k0 t u i n σ = unw P N w0 S0 Q sc k k0 () () i n σ := by simp [unw, unwind, h]
theorem unw_code {i : Nat} {c : Code} {k0 : List Fr} {t : Tx P N w0 S0 Q sc (.code c :: k)} {u : Tg k0} : unw P N w0 S0 Q sc (.code c :: k) k0 t u i n σ = unw P N w0 S0 Q sc k k0 () () i n σ := _root_.id rfl
theorem unw_ops {i : Nat} {a b : List Oper} {k0 : List Fr} {t : Tx P N w0 S0 Q sc (.ops a b :: k)} {u : Tg k0} : unw P N w0 S0 Q sc (.ops a b :: k) k0 t u i n σ = unw P N w0 S0 Q sc k k0 () () i n σ := _root_.id rfl
theorem unw_lp {i : Nat} {K : St → Prop} {k0 : List Fr} {t : Tx P N w0 S0 Q sc (.lp K :: k)} {u : Tg k0} : unw P N w0 S0 Q sc (.lp K :: k) k0 t u i n σ = unw P N w0 S0 Q sc k k0 () () i n σ := _root_.id rfl
def Done (R : Av → Prop) (_ : Tg R) (r : Av) : Prop := R r
def Done2 (R : Av → List (Nat × Ow) → Prop) (_ : Tg R) (r : Av) (own : List (Nat × Ow)) : Prop := R r own
def fix1 (P : Program) (σ : St) (r : Av) : Av := frzA P (Av.deep σ.h r) σ.h r
theorem fix1_mk {r : Av} : fix1 P ⟨tl, hl⟩ r = frzA P (Av.deep (look hl) r) (look hl) r := _root_.id rfl
def Fx (R : Av → Prop) (_ : Tg R) (r : Av) : Prop := r.isD = true ∧ R r
theorem Fx_of {R : Av → Prop} {t : Tg R} {r : Av} : Fx R t r = Must r.isD (Done R () r) () := _root_.id rfl
def FinX (P : Program) (rs : List ResultVar) (R : Av → Prop) : Exit → St → Prop
  | .normal, σ | .ret, σ => Ov (resA P σ rs) (fun r => Fx R () (fix1 P σ r)) False ()
  | _, _ => False
theorem FinX_n {rs : List ResultVar} {R : Av → Prop} : FinX P rs R .normal ⟨tl, hl⟩ = Ov (resA P ⟨tl, hl⟩ rs) (fun r => Fx R () (fix1 P ⟨tl, hl⟩ r)) False () := _root_.id rfl
theorem FinX_r {rs : List ResultVar} {R : Av → Prop} : FinX P rs R .ret ⟨tl, hl⟩ = Ov (resA P ⟨tl, hl⟩ rs) (fun r => Fx R () (fix1 P ⟨tl, hl⟩ r)) False () := _root_.id rfl
def FinPX (P : Program) (rs : List ResultVar) (R : Av → List (Nat × Ow) → Prop) : Exit → St → Prop
  | .normal, σ | .ret, σ => Ov (resA P σ rs) (fun r => Done2 R () r (dedupK σ.own)) False ()
  | _, _ => False
theorem FinPX_n {rs : List ResultVar} {R : Av → List (Nat × Ow) → Prop} : FinPX P rs R .normal ⟨tl, hl⟩ = Ov (resA P ⟨tl, hl⟩ rs) (fun r => Done2 R () r (dedupK hl)) False () := _root_.id rfl
theorem FinPX_r {rs : List ResultVar} {R : Av → List (Nat × Ow) → Prop} : FinPX P rs R .ret ⟨tl, hl⟩ = Ov (resA P ⟨tl, hl⟩ rs) (fun r => Done2 R () r (dedupK hl)) False () := _root_.id rfl
theorem finX_ok {rs : List ResultVar} {R : Av → Prop} {e : Exit} (h : FinX P rs R e σ) : FinQ P rs R e σ := by
  have key : Ov (resA P σ rs) (fun r => Fx R () (fix1 P σ r)) False () → Fin P rs R σ := fun h => by
    cases hr : resA P σ rs with
    | none => rw [hr] at h; exact h.elim
    | some r => rw [hr] at h; exact ⟨r, _, hr, h.1, AvLe.refl _, h.2⟩
  cases e <;> first | exact key h | exact h.elim
theorem finPX_ok {rs : List ResultVar} {R : Av → List (Nat × Ow) → Prop} {e : Exit} (h : FinPX P rs R e σ) : FinPQ P rs R e σ := by
  have key : Ov (resA P σ rs) (fun r => Done2 R () r (dedupK σ.own)) False () → FinP P rs R σ := fun h => by
    cases hr : resA P σ rs with
    | none => rw [hr] at h; exact h.elim
    | some r => rw [hr] at h; exact ⟨r, hr, h⟩
  cases e <;> first | exact key h | exact h.elim
theorem eqS_some {x : Av} : eqS (some x) (some x) = True := by simp [eqS]
end
theorem acalls_ex {P : Program} {f : FuncId} {fn : Func} {c : Code} {args : List Av} {R : Av → Prop} {N : Nat} {rs : List ResultVar} (sc : Sch) (hf : P.funcs[f]? = some fn) (hn : (fn.name == "runtime.NumGoroutine") = false) (hb : fn.body = some c) (hN : fn.ntmps = N) (hrs : fn.results = rs.toArray) (hl : args.length ≤ N)
    (h : (∀ x ∈ args, okA P x) → ∀ w0 S0, ex P N w0 S0 (FinX P rs R) sc [.code c] () 100000 ⟨startL 0 args, []⟩) : ACalls P f args R :=
  acalls_of hf hn hb hN hrs hl fun hok w0 S0 => (ex_aw (h hok w0 S0)).mono fun _ _ => finX_ok
theorem aproc_ex {P : Program} {f : FuncId} {fn : Func} {c : Code} {args : List Av} {own : List (Nat × Ow)} {R : Av → List (Nat × Ow) → Prop} {N : Nat} {rs : List ResultVar} (sc : Sch) (hf : P.funcs[f]? = some fn) (hn : (fn.name == "runtime.NumGoroutine") = false) (hb : fn.body = some c) (hN : fn.ntmps = N) (hrs : fn.results = rs.toArray) (hl : args.length ≤ N)
    (h : (∀ x ∈ args, x.isD = true → okA P x) → ∀ w0 S0, ex P N w0 S0 (FinPX P rs R) sc [.code c] () 100000 ⟨startL 0 args, own⟩) : AProc P f args own R :=
  aproc_of hf hn hb hN hrs hl fun hok w0 S0 => (ex_aw (h hok w0 S0)).mono fun _ _ => finPX_ok
end Go.Smd
end
section
set_option linter.unusedSimpArgs false
namespace Go.Smd
open Go.RowKit
section
variable {P : Program} {N : Nat} {w0 : World} {S0 : Env} {ops : Array Oper}
variable (P N ops) in
def anyX (K : St → Prop) : Nat → Array Bool → St → Prop
  | 0, listed, σ => Region.ready .any ops listed = [] ∧ K σ
  | n + 1, listed, σ => (Region.ready .any ops listed = [] → K σ) ∧ ∀ i ∈ Region.ready .any ops listed, ∃ o, ops[i]? = some o ∧ opX P N ops σ o fun σ' => anyX K n (listed.setIfInBounds i true) σ'
theorem anyX_run {K : St → Prop} {Q : Exit → Act → World → Prop} (hQ : ∀ β σ a w, K σ → Sim P N w0 S0 β σ a w → Q .normal a w) : ∀ (n : Nat) (listed : Array Bool) (β : Nat → Value) (σ : St) (a : Act) (w : World), anyX P N ops K n listed σ → Sim P N w0 S0 β σ a w → wpAny P .any ops Q n listed a w
  | 0, listed, β, σ, a, w, h, s => ⟨h.1, hQ β σ a w h.2 s⟩
  | n + 1, listed, β, σ, a, w, h, s => ⟨fun hr => hQ β σ a w (h.1 hr) s, fun i hi => by
    obtain ⟨o, ho, hop⟩ := h.2 i hi
    have h1 := opX_run (Q := Q) s hop
    unfold wpOp
    simp only [ho]
    split at h1
    · next hw => rw [if_pos hw]; exact .inl (Oper.wp_mono (fun a w ⟨β', σ', h2, h3⟩ => anyX_run hQ n _ β' σ' a w h2 h3) h1)
    · next hw =>
      rw [if_neg hw]
      obtain ⟨β', σ', h2, h3⟩ := h1
      exact anyX_run hQ n _ β' σ' _ w h2 h3⟩
def unl (n : Nat) (listed : Array Bool) : Nat := ((List.range n).filter fun i => !listed.getD i true).length
theorem filter_le {α : Type} {p q : α → Bool} : ∀ {l : List α}, (∀ x ∈ l, q x = true → p x = true) → (l.filter q).length ≤ (l.filter p).length
  | [], _ => by simp
  | y :: l, h => by
    have ih := filter_le (l := l) fun x hx => h x (List.mem_cons_of_mem _ hx)
    have hy := h y (List.mem_cons_self ..)
    cases hq : q y with
    | true => simp [List.filter_cons, hq, hy hq]; exact ih
    | false => cases hp : p y <;> simp [List.filter_cons, hq, hp] <;> omega
theorem filter_less {α : Type} {p q : α → Bool} : ∀ {l : List α}, (∀ x ∈ l, q x = true → p x = true) → (∃ x ∈ l, p x = true ∧ q x = false) → (l.filter q).length < (l.filter p).length
  | [], _, h => by obtain ⟨x, hx, _⟩ := h; cases hx
  | y :: l, hpq, h => by
    have hle : (l.filter q).length ≤ (l.filter p).length := filter_le fun x hx => hpq x (List.mem_cons_of_mem _ hx)
    obtain ⟨x, hx, h1, h2⟩ := h
    rcases List.mem_cons.1 hx with rfl | hx
    · simp [List.filter_cons, h1, h2]; omega
    · have ih := filter_less (fun x hx => hpq x (List.mem_cons_of_mem _ hx)) ⟨x, hx, h1, h2⟩
      have hy := hpq y (List.mem_cons_self ..)
      cases hq : q y with
      | true => simp [List.filter_cons, hq, hy hq]; exact ih
      | false => cases hp : p y <;> simp [List.filter_cons, hq, hp] <;> omega
theorem getD_two {listed : Array Bool} {i : Nat} (h : i < listed.size) (x y : Bool) : listed.getD i x = listed.getD i y := by simp [h]
theorem unl_set {n : Nat} {listed : Array Bool} {i : Nat} (hs : listed.size = n) (hi : i < n) (h : listed.getD i true = false) : unl n (listed.setIfInBounds i true) < unl n listed := by
  refine filter_less (fun x hx hq => ?_) ⟨i, List.mem_range.2 hi, by rw [h]; rfl, ?_⟩
  · by_cases e : i = x
    · subst e; rw [h]; rfl
    · have hx := List.mem_range.1 hx
      simpa [Array.getElem?_setIfInBounds, e, hs, hx] using hq
  · simp [hs, hi]
def topo (ops : Array Oper) : List Nat → List Nat → Bool
  | _, [] => true
  | done, i :: is => (match ops[i]? with | some o => o.after.all fun e => !Region.binds .any e || done.contains e.on | none => false) && topo ops (i :: done) is
theorem topo_ready {listed : Array Bool} : ∀ {is done : List Nat}, topo ops done is = true → (∀ i ∈ done, listed.getD i false = true) → listed.size = ops.size → (∃ i ∈ is, listed.getD i true = false) → ∃ i, i ∈ Region.ready .any ops listed
  | [], _, _, _, _, h => by obtain ⟨i, hi, _⟩ := h; cases hi
  | i :: is, done, ht, hd, hs, h => by
    simp only [topo, Bool.and_eq_true] at ht
    obtain ⟨h1, h2⟩ := ht
    cases hl : listed.getD i true with
    | false =>
      refine ⟨i, mem_ready.2 ⟨hl, ?_⟩⟩
      cases ho : ops[i]? with
      | none => rw [ho] at h1; cases h1
      | some o =>
        rw [ho] at h1
        refine ⟨o, rfl, fun e he hb => ?_⟩
        have := (Array.all_eq_true_iff_forall_mem.1 h1) e he
        simp only [hb, Bool.not_true, Bool.false_or] at this
        exact hd e.on (by simpa using this)
    | true =>
      obtain ⟨j, hj, hjl⟩ := h
      have hij : j ≠ i := fun e => by rw [e, hl] at hjl; cases hjl
      refine topo_ready h2 (fun k hk => ?_) hs ⟨j, (List.mem_cons.1 hj).resolve_left hij, hjl⟩
      rcases List.mem_cons.1 hk with rfl | hk
      · have hlt : k < listed.size := by
          rw [hs]
          cases ho : ops[k]? with
          | none => rw [ho] at h1; cases h1
          | some o => exact (Array.getElem?_eq_some_iff.1 ho).1
        rw [getD_two hlt false true]; exact hl
      · exact hd k hk
def valT (full base : List (Nat × Av)) (t : Nat) : Av := match look full t with | some x => x | none => (look base t).getD .any
structure DOk (P : Program) (N : Nat) (ops : Array Oper) (c : Nat) (full base : List (Nat × Av)) (own0 own1 : List (Nat × Ow)) : Prop where
  gd : ∀ (i : Nat) (o : Oper), ops[i]? = some o → o.guard = none
  dst : ∀ (i : Nat) (o : Oper), ops[i]? = some o → i ≠ c → dstOk N o = true ∧ ∃ d, o.dst = some d ∧ (look full d).isSome = true
  dep : ∀ (i : Nat) (o : Oper), ops[i]? = some o → ∀ t ∈ o.looksAt ops, ∀ (j : Nat) (oj : Oper), ops[j]? = some oj → oj.dst = some t → ∃ e ∈ o.after, Region.binds .any e = true ∧ e.on = j
  key : ∀ t, (look full t).isSome = true → ∃ (j : Nat) (oj : Oper), ops[j]? = some oj ∧ oj.dst = some t
  v0 : ∀ (i : Nat) (o : Oper) (d : Tmp), ops[i]? = some o → i ≠ c → o.dst = some d → waits ops 64 i c = true ∨ vval P ⟨full ++ base, own0⟩ o = some (valT full base d)
  v1 : ∀ (i : Nat) (o : Oper) (d : Tmp), ops[i]? = some o → i ≠ c → o.dst = some d → waits ops 64 c i = true ∨ vval P ⟨full ++ base, own1⟩ o = some (valT full base d)
  eff : ∀ (o : Oper), ops[c]? = some o → ∀ σ : St, σ.own = own0 → (∀ x ∈ o.op.operands, σ.ev x = (St.mk (full ++ base) own0).ev x) → (∀ t, σ.tmp t = valT full base t ∨ σ.tmp t = (look base t).getD .any) →
    ∀ K : St → Prop, (∀ σ' : St, σ'.h = look own1 → (∀ t, σ'.tmp t = if o.dst = some t then valT full base t else σ.tmp t) → K σ') → execX P N σ o K
theorem full_tmp (full base : List (Nat × Av)) (own : List (Nat × Ow)) (t : Nat) : (St.mk (full ++ base) own).tmp t = valT full base t := by
  simp only [St.tmp, look_append, valT]
  cases look full t <;> rfl
structure AtL (ops : Array Oper) (c : Nat) (full base : List (Nat × Av)) (own0 own1 : List (Nat × Ow)) (listed : Array Bool) (σ : St) : Prop where
  o0 : listed.getD c false = false → σ.own = own0
  o1 : listed.getD c false = true → σ.h = look own1
  t1 : ∀ (j : Nat) (oj : Oper) (t : Tmp), ops[j]? = some oj → oj.dst = some t → listed.getD j false = true → σ.tmp t = valT full base t
  t0 : ∀ t : Tmp, (∀ (j : Nat) (oj : Oper), ops[j]? = some oj → oj.dst = some t → listed.getD j false = false) → σ.tmp t = (look base t).getD .any
theorem AtL.sees {c : Nat} {full base : List (Nat × Av)} {own0 own1 : List (Nat × Ow)} {listed : Array Bool} {σ : St} (A : AtL ops c full base own0 own1 listed σ) (D : DOk P N ops c full base own0 own1) {i : Nat} {o : Oper} (ho : ops[i]? = some o) (hr : ∀ e ∈ o.after, Region.binds .any e = true → listed.getD e.on false = true) (own : List (Nat × Ow)) :
    ∀ x ∈ o.op.operands, σ.ev x = (St.mk (full ++ base) own).ev x := by
  refine ops_looks (ops := ops) fun t ht => ?_
  rw [full_tmp]
  by_cases hj : ∃ (j : Nat) (oj : Oper), ops[j]? = some oj ∧ oj.dst = some t
  · obtain ⟨j, oj, h1, h2⟩ := hj
    obtain ⟨e, he, hb, rfl⟩ := D.dep i o ho t ht j oj h1 h2
    exact A.t1 _ oj t h1 h2 (hr e he hb)
  · rw [A.t0 t fun j oj h1 h2 => absurd ⟨j, oj, h1, h2⟩ hj]
    unfold valT
    cases hf : look full t with
    | none => rfl
    | some x => obtain ⟨j, oj, h1, h2⟩ := D.key t (by rw [hf]; rfl); exact absurd ⟨j, oj, h1, h2⟩ hj
theorem anyX_of {c : Nat} {full base : List (Nat × Av)} {own0 own1 : List (Nat × Ow)} {K : St → Prop} (D : DOk P N ops c full base own0 own1) {is : List Nat} (ht : topo ops [] is = true) (hall : ∀ i, i < ops.size → i ∈ is) (hc : c < ops.size)
    (hK : ∀ σ : St, σ.h = look own1 → (∀ t, σ.tmp t = valT full base t) → K σ) : ∀ (n : Nat) (listed : Array Bool) (σ : St), listed.size = ops.size → unl ops.size listed ≤ n → Closed ops listed → AtL ops c full base own0 own1 listed σ → anyX P N ops K n listed σ := by
  have fin : ∀ (listed : Array Bool) (σ : St), listed.size = ops.size → Region.ready .any ops listed = [] → AtL ops c full base own0 own1 listed σ → K σ := fun listed σ hs hr A => by
    have hl : ∀ i, i < ops.size → listed.getD i false = true := fun i hi => by
      rw [getD_two (by rw [hs]; exact hi) false true]
      cases hq : listed.getD i true with
      | true => rfl
      | false =>
        obtain ⟨j, hj⟩ := topo_ready ht (fun _ h => by cases h) hs ⟨i, hall i hi, hq⟩
        rw [hr] at hj; cases hj
    refine hK σ (A.o1 (hl c hc)) fun t => ?_
    by_cases hj : ∃ (j : Nat) (oj : Oper), ops[j]? = some oj ∧ oj.dst = some t
    · obtain ⟨j, oj, h1, h2⟩ := hj
      exact A.t1 j oj t h1 h2 (hl j (Array.getElem?_eq_some_iff.1 h1).1)
    · rw [A.t0 t fun j oj h1 h2 => absurd ⟨j, oj, h1, h2⟩ hj]
      unfold valT
      cases hf : look full t with
      | none => rfl
      | some x => obtain ⟨j, oj, h1, h2⟩ := D.key t (by rw [hf]; rfl); exact absurd ⟨j, oj, h1, h2⟩ hj
  intro n
  induction n with
  | zero =>
    intro listed σ hs hu hcl A
    have hr : Region.ready .any ops listed = [] := by
      cases hq : Region.ready .any ops listed with
      | nil => rfl
      | cons i l =>
        obtain ⟨h1, o, ho, _⟩ := mem_ready.1 (show i ∈ Region.ready .any ops listed by rw [hq]; exact List.mem_cons_self ..)
        have := unl_set hs (Array.getElem?_eq_some_iff.1 ho).1 h1
        omega
    exact ⟨hr, fin listed σ hs hr A⟩
  | succ n ih =>
    intro listed σ hs hu hcl A
    refine ⟨fun hr => fin listed σ hs hr A, fun i hi => ?_⟩
    obtain ⟨hl, o, ho, hr⟩ := mem_ready.1 hi
    have hin := (Array.getElem?_eq_some_iff.1 ho).1
    have hli : listed.getD i false = false := by rw [getD_two (by rw [hs]; exact hin) false true]; exact hl
    have hg := D.gd i o ho
    have hset : ∀ j, (listed.setIfInBounds i true).getD j false = if i = j then true else listed.getD j false := fun j => by
      by_cases e : i = j
      · subst e; simp [hs, hin]
      · rw [if_neg e]; exact getD_set_ne false e
    have nxt : ∀ σ', (i ≠ c → σ'.own = σ.own) → (i = c → σ'.h = look own1) → (∀ t, σ'.tmp t = if o.dst = some t then valT full base t else σ.tmp t) → anyX P N ops K n (listed.setIfInBounds i true) σ' := fun σ' h1 h2 h3 => by
      refine ih _ σ' (by simp [hs]) (by have := unl_set hs hin hl; omega) (hcl.set hi) ⟨fun h => ?_, fun h => ?_, fun j oj t hj hd hlj => ?_, fun t hno => ?_⟩
      · rw [hset] at h
        by_cases e : i = c
        · rw [if_pos e] at h; cases h
        · rw [if_neg e] at h; rw [h1 e]; exact A.o0 h
      · rw [hset] at h
        by_cases e : i = c
        · exact h2 e
        · rw [if_neg e] at h
          have : σ'.h = σ.h := by show look σ'.own = look σ.own; rw [h1 e]
          rw [this]; exact A.o1 h
      · rw [h3]
        by_cases e : o.dst = some t
        · rw [if_pos e]
        · rw [if_neg e]
          rw [hset] at hlj
          by_cases ej : i = j
          · subst ej; rw [ho] at hj; cases hj; exact absurd hd e
          · rw [if_neg ej] at hlj; exact A.t1 j oj t hj hd hlj
      · rw [h3]
        have hne : o.dst ≠ some t := fun e => by
          have := hno i o ho e
          rw [hset, if_pos rfl] at this; cases this
        rw [if_neg hne]
        refine A.t0 t fun j oj hj hd => ?_
        have := hno j oj hj hd
        rw [hset] at this
        by_cases ej : i = j
        · rw [if_pos ej] at this; cases this
        · rw [if_neg ej] at this; exact this
    refine ⟨o, ho, ?_⟩
    unfold opX
    have hgo : guardA ops σ o = some true := by unfold guardA; rw [hg]
    rw [hgo]
    refine ⟨fun _ => ?_, fun h => by cases h⟩
    by_cases hic : i = c
    · subst hic
      refine D.eff o ho σ (A.o0 hli) (A.sees D ho hr own0) (fun t => ?_) _ fun σ' h1 h2 => nxt σ' (fun h => absurd rfl h) (fun _ => h1) h2
      by_cases hj : ∃ (j : Nat) (oj : Oper), ops[j]? = some oj ∧ oj.dst = some t ∧ listed.getD j false = true
      · obtain ⟨j, oj, h1, h2, h3⟩ := hj
        exact .inl (A.t1 j oj t h1 h2 h3)
      · refine .inr (A.t0 t fun j oj h1 h2 => ?_)
        cases hq : listed.getD j false with
        | false => rfl
        | true => exact absurd ⟨j, oj, h1, h2, hq⟩ hj
    · obtain ⟨hdk, d, hd, hfd⟩ := D.dst i o ho hic
      have hv : vval P σ o = some (valT full base d) := by
        cases hq : listed.getD c false with
        | false =>
          rcases D.v0 i o d ho hic hd with h | h
          · have := waits_listed hcl 64 i h fun o' ho' => by rw [ho] at ho'; cases ho'; exact hr
            rw [hq] at this; cases this
          · rw [← h]
            refine vval_congr (A.sees D ho hr own0) ?_
            show look σ.own = look own0
            rw [A.o0 hq]
        | true =>
          rcases D.v1 i o d ho hic hd with h | h
          · have := waits_listed hcl 64 c h fun o' ho' => hcl c o' ho' hq
            rw [hli] at this; cases this
          · rw [← h]
            refine vval_congr (A.sees D ho hr own1) ?_
            exact A.o1 hq
      refine ⟨hdk, ?_⟩
      rw [hv]
      refine nxt _ (fun _ => by rw [hd]; rfl) (fun h => absurd h hic) fun t => ?_
      rw [put_tmp]
      by_cases e : o.dst = some t
      · rw [if_pos e, if_pos e]
        rw [hd] at e; cases e; rfl
      · rw [if_neg e, if_neg e]
theorem aw_drawn1 {id : Nat} {l : List Oper} {Q : Exit → St → Prop} {base : List (Nat × Av)} {own0 : List (Nat × Ow)} (hm : P.follows .mixedOrders = true) (c : Nat) (is : List Nat) (full : List (Nat × Av)) (own1 : List (Nat × Ow))
    (D : DOk P N l.toArray c full base own0 own1) (ht : topo l.toArray [] is = true) (hall : (List.range l.toArray.size).all is.contains = true) (hc : c < l.toArray.size) (h : Q .normal ⟨full ++ base, own1⟩) : AWp P N w0 S0 (.region id l.toArray true) Q ⟨base, own0⟩ := fun β a w s => by
  have hcl : Closed l.toArray (Array.replicate l.toArray.size false) := fun j o ho hl => by
    rw [Array.getD_eq_getD_getElem?, Array.getElem?_replicate] at hl
    split at hl <;> cases hl
  have hlf : ∀ i, (Array.replicate l.toArray.size false).getD i false = false := fun i => by
    rw [Array.getD_eq_getD_getElem?, Array.getElem?_replicate]; split <;> rfl
  have h1 := anyX_of (K := fun σ => ∃ τ, Eqv τ σ ∧ Q .normal τ) D ht (fun i hi => by simpa using List.all_eq_true.1 hall i (List.mem_range.2 hi)) hc
    (fun σ h2 h3 => ⟨⟨full ++ base, own1⟩, ⟨fun t => by rw [full_tmp, h3], h2.symm⟩, h⟩) l.toArray.size (Array.replicate l.toArray.size false) ⟨base, own0⟩ (by simp) (by
      have := List.length_filter_le (fun i => !(Array.replicate l.toArray.size false).getD i true) (List.range l.toArray.size)
      rw [List.length_range] at this; exact this) hcl ⟨fun _ => rfl, fun h => (by rw [hlf] at h; cases h), fun j oj t _ _ h => (by rw [hlf] at h; cases h), fun t _ => rfl⟩
  refine wp_region_any hm (anyX_run (fun β σ a w ⟨τ, e, hq⟩ s => ⟨β, τ, hq, s.eqv e.symm⟩) _ _ β _ a _ h1 (s.grow (w' := w.drew) ?_).1)
  exact (Ext.refl w).drew
theorem vval_plain {σ : St} {o : Oper} (hp : plainCall o.op = true) : vval P σ o = none := by
  obtain ⟨dst, op, type, pos, after, guard⟩ := o
  cases op <;> simp only [plainCall, Bool.false_eq_true] at hp <;> simp only [vval]
  case call c =>
    unfold lenCall
    split
    · next hc => simp [hc] at hp
    · next hc => simp [hc] at hp
    · rfl
theorem eff_proc {σ : St} {full base : List (Nat × Av)} {own0 own1 : List (Nat × Ow)} {o : Oper} {f : FuncId} {xs args : List Av} {Ts : List TypeId} {ownA ownB : List (Nat × Ow)} {ρ : List (Nat × Nat)} {r0 : Av} {d : Tmp} (t : Nat) (hp : plainCall o.op = true) (hd : o.dst = some d) (hdk : dstOk N o = true)
    (hc : calleeOf P ⟨full ++ base, own0⟩ o = some (f, xs, Ts)) (hx : argsC P [] (look own0) xs Ts = args.map (Av.ren (renI ρ t))) (ho : handOk ρ args ownA = true) (hh : handed (look own0) (renI ρ t) ownA) (hR : AProc P f args ownA fun r own' => r = r0 ∧ own' = ownB)
    (hb : backOk ⟨[], own0⟩ ρ t ownB = true) (h1 : mapV (Ow.fix (look (backH ⟨[], own0⟩ ρ t ownB))) (backH ⟨[], own0⟩ ρ t ownB) = own1) (hv : (r0.ren (renI ρ t)).fix (look (backH ⟨[], own0⟩ ρ t ownB)) = valT full base d)
    (hfix : ∀ p ∈ full ++ base, p.2.fix (look (backH ⟨[], own0⟩ ρ t ownB)) = p.2)
    (e0 : σ.own = own0) (e1 : ∀ x ∈ o.op.operands, σ.ev x = (St.mk (full ++ base) own0).ev x) (e2 : ∀ t, σ.tmp t = valT full base t ∨ σ.tmp t = (look base t).getD .any) (K : St → Prop)
    (hK : ∀ σ' : St, σ'.h = look own1 → (∀ t, σ'.tmp t = if o.dst = some t then valT full base t else σ.tmp t) → K σ') : execX P N σ o K := by
  have hsh : σ.h = look own0 := by show look σ.own = _; rw [e0]
  have hH : backH σ ρ t ownB = backH ⟨[], own0⟩ ρ t ownB := by unfold backH; rw [e0]
  have hfx : ∀ t', (σ.tmp t').fix (look (backH ⟨[], own0⟩ ρ t ownB)) = σ.tmp t' := fun t' => by
    have hl : ∀ {l : List (Nat × Av)}, (∀ p ∈ l, p ∈ full ++ base) → ∀ x, look l t' = some x → x.fix (look (backH ⟨[], own0⟩ ρ t ownB)) = x := fun {l} hl x hx => hfix _ (hl _ (look_mem hx))
    rcases e2 t' with h | h <;> rw [h]
    · unfold valT
      cases hq : look full t' with
      | some x => exact hl (fun p hp => List.mem_append_left _ hp) x hq
      | none =>
        cases hq2 : look base t' with
        | some x => exact hl (fun p hp => List.mem_append_right _ hp) x hq2
        | none => rfl
    · cases hq2 : look base t' with
      | some x => exact hl (fun p hp => List.mem_append_right _ hp) x hq2
      | none => rfl
  refine ⟨hdk, ?_⟩
  rw [vval_plain hp, wstep_none (plain_notW hp)]
  refine .inr (.proc (t := t) (ρ := ρ) (own0 := ownA) (args := args) (by rw [calleeOf_congr e1 hsh, hc]) (by rw [hsh]; exact hx) ho (by rw [hsh]; exact hh) hR ?_)
  rintro r own' ⟨rfl, rfl⟩
  refine ⟨by unfold backOk at hb ⊢; rw [e0]; exact hb, hK _ ?_ fun t' => ?_⟩
  · rw [put_h]
    show look (σ.back ρ t own').own = _
    unfold St.back
    simp only [hH, h1]
  · rw [put_tmp, hH, hv, hd]
    by_cases e : some d = some t'
    · rw [if_pos e, if_pos e]; cases e; rfl
    · rw [if_neg e, if_neg e]
      have : (σ.back ρ t own').tmp t' = (σ.tmp t').fix (look (backH σ ρ t own')) := by
        unfold St.back St.tmp
        simp only [mapV_eq, look_map, look_dedup]
        cases look σ.tmps t' <;> rfl
      rw [this, hH]; exact hfx t'
def d1Ok (N : Nat) (ops : Array Oper) (c : Nat) (is : List Nat) (ks : List Nat) : Bool :=
  (List.range ops.size).all (fun i => match ops[i]? with
    | some o => o.guard.isNone && dstOk N o && (match o.dst with | some d => ks.contains d | none => false) &&
      (o.looksAt ops).all (fun t => (List.range ops.size).all fun j => (match ops[j]? with | some oj => !(oj.dst == some t) || o.after.any (fun e => Region.binds .any e && e.on == j) | none => true))
    | none => false) &&
  ks.all (fun t => (List.range ops.size).any fun j => match ops[j]? with | some oj => oj.dst == some t | none => false) &&
  topo ops [] is && (List.range ops.size).all is.contains && decide (c < ops.size)
def valsOk (P : Program) (ops : Array Oper) (full base : List (Nat × Av)) (own : List (Nat × Ow)) (skip : Nat → Bool) : List Nat → Prop
  | [] => True
  | i :: is => (skip i = true ∨ ∃ o d, nth ops.toList i = some o ∧ o.dst = some d ∧ vval P ⟨full ++ base, own⟩ o = some (valT full base d)) ∧ valsOk P ops full base own skip is
theorem valsOk_spec {full base : List (Nat × Av)} {own : List (Nat × Ow)} {skip : Nat → Bool} : ∀ {is : List Nat}, valsOk P ops full base own skip is → ∀ i ∈ is, skip i = false → ∀ o d, ops[i]? = some o → o.dst = some d → vval P ⟨full ++ base, own⟩ o = some (valT full base d)
  | [], _, i, hi, _, _, _, _, _ => by cases hi
  | j :: is, ⟨h, t⟩, i, hi, hs, o, d, ho, hd => by
    rcases List.mem_cons.1 hi with rfl | hi
    · rcases h with h | ⟨o', d', h1, h2, h3⟩
      · rw [hs] at h; cases h
      · have := op_of_nth h1
        rw [ho] at this; cases this
        rw [hd] at h2; cases h2
        exact h3
    · exact valsOk_spec t i hi hs o d ho hd
theorem aw_drawn_p {id : Nat} {l : List Oper} {Q : Exit → St → Prop} {base : List (Nat × Av)} {own0 : List (Nat × Ow)} (hm : P.follows .mixedOrders = true) (c : Nat) (is : List Nat) (full : List (Nat × Av)) (own1 : List (Nat × Ow))
    (hok : d1Ok N l.toArray c is (full.map (·.1)) = true) (h0 : valsOk P l.toArray full base own0 (fun i => i == c || waits l.toArray 64 i c) is) (h1 : valsOk P l.toArray full base own1 (fun i => i == c || waits l.toArray 64 c i) is)
    (he : ∀ (o : Oper), l.toArray[c]? = some o → ∀ σ : St, σ.own = own0 → (∀ x ∈ o.op.operands, σ.ev x = (St.mk (full ++ base) own0).ev x) → (∀ t, σ.tmp t = valT full base t ∨ σ.tmp t = (look base t).getD .any) →
      ∀ K : St → Prop, (∀ σ' : St, σ'.h = look own1 → (∀ t, σ'.tmp t = if o.dst = some t then valT full base t else σ.tmp t) → K σ') → execX P N σ o K)
    (h : Q .normal ⟨full ++ base, own1⟩) : AWp P N w0 S0 (.region id l.toArray true) Q ⟨base, own0⟩ := by
  simp only [d1Ok, Bool.and_eq_true, decide_eq_true_eq] at hok
  obtain ⟨⟨⟨⟨k1, k2⟩, k3⟩, k4⟩, k5⟩ := hok
  have hall : ∀ i, i < l.toArray.size → i ∈ is := fun i hi => by simpa using List.all_eq_true.1 k4 i (List.mem_range.2 hi)
  have kk : ∀ i o, l.toArray[i]? = some o → o.guard = none ∧ dstOk N o = true ∧ (∃ d, o.dst = some d ∧ (look full d).isSome = true) ∧ ∀ t ∈ o.looksAt l.toArray, ∀ (j : Nat) (oj : Oper), l.toArray[j]? = some oj → oj.dst = some t → ∃ e ∈ o.after, Region.binds .any e = true ∧ e.on = j := fun i o ho => by
    have := List.all_eq_true.1 k1 i (List.mem_range.2 (Array.getElem?_eq_some_iff.1 ho).1)
    rw [ho] at this
    simp only [Bool.and_eq_true] at this
    obtain ⟨⟨⟨h1, h2⟩, h3⟩, h4⟩ := this
    refine ⟨Option.isNone_iff_eq_none.1 h1, h2, ?_, fun t ht j oj hj hd => ?_⟩
    · cases hd : o.dst with
      | none => rw [hd] at h3; cases h3
      | some d =>
        rw [hd] at h3
        refine ⟨d, rfl, ?_⟩
        have : d ∈ full.map (·.1) := by simpa using h3
        obtain ⟨p, hp, rfl⟩ := List.mem_map.1 this
        have := hasKey_iff.1 (key_mem.2 ⟨p, hp, rfl⟩ : hasKey full p.1 = true)
        obtain ⟨x, hx⟩ := this; rw [hx]; rfl
    · have h5 := List.all_eq_true.1 (List.all_eq_true.1 h4 t ht) j (List.mem_range.2 (Array.getElem?_eq_some_iff.1 hj).1)
      rw [hj] at h5
      simp only [hd, beq_self_eq_true, Bool.not_true, Bool.false_or] at h5
      obtain ⟨e, he, hb⟩ := Array.any_eq_true'.1 h5
      simp only [Bool.and_eq_true, beq_iff_eq] at hb
      exact ⟨e, he, hb.1, hb.2⟩
  refine aw_drawn1 hm c is full own1 ⟨fun i o ho => (kk i o ho).1, fun i o ho _ => ⟨(kk i o ho).2.1, (kk i o ho).2.2.1⟩, fun i o ho => (kk i o ho).2.2.2, fun t ht => ?_, fun i o d ho hic hd => ?_, fun i o d ho hic hd => ?_, he⟩ k3 k4 k5 h
  · obtain ⟨x, hx⟩ := Option.isSome_iff_exists.1 ht
    have := List.all_eq_true.1 k2 t (List.mem_map.2 ⟨_, look_mem hx, rfl⟩)
    obtain ⟨j, hj, h6⟩ := List.any_eq_true.1 this
    cases ho : l.toArray[j]? with
    | none => rw [ho] at h6; cases h6
    | some oj => rw [ho] at h6; exact ⟨j, oj, ho, by simpa using h6⟩
  · cases hw : waits l.toArray 64 i c with
    | true => exact .inl rfl
    | false => exact .inr (valsOk_spec h0 i (hall i (Array.getElem?_eq_some_iff.1 ho).1) (by simp [hic, hw]) o d ho hd)
  · cases hw : waits l.toArray 64 c i with
    | true => exact .inl rfl
    | false => exact .inr (valsOk_spec h1 i (hall i (Array.getElem?_eq_some_iff.1 ho).1) (by simp [hic, hw]) o d ho hd)
end
end Go.Smd
end
