/- Part 21 of the proof: Eq El. -/
import Derived.Test.YtannholebjdckaaGreatQS20
set_option linter.unusedVariables false
section
set_option linter.unusedSimpArgs false
set_option maxRecDepth 100000
set_option maxHeartbeats 8000000
namespace Go.Smd
open Go.RowKit Go.Proofs
def asF (k n : Int) (f : Nat) : Nat := if k = 2 then toFl n else f
abbrev gvX (k n : Int) (f : Nat) (s : ByteArray) (ks : List ByteArray) (l : List GV) : Av := .agg [.d (dI k), .d (dI n), .d (dF f), .d (dS s), .d (dStrs ks), .d (dGVs l)]
theorem gvA_x (k n : Int) (f : Nat) (s : ByteArray) (ks : List ByteArray) (l : List GV) : gvA (.mk k n f s ks l) = gvX k n f s ks l := by simp only [gvA, gvD_mk, cls_cons, cls_nil]
theorem asFloat_x (k n : Int) (f : Nat) (s : ByteArray) (ks : List ByteArray) (l : List GV) : ACalls Tryz.prog 135 [gvX k n f s ks l] (fun r => r = aV (.float .f64 (asF k n f))) := by
  refine acalls_ex [] Tryz.func135 (by kernel_rfl) rfl Tryz.ntmps135 Tryz.results135 (Nat.le_of_ble_eq_true (by kernel_rfl)) ?_; intro hok w0 S0
  clear hok
  (repeat' (first | (with_reducible refine br_d (fun _ => ?_) (fun _ => ?_)) | (with_reducible refine br_i (fun _ => ?_) (fun _ => ?_)) | (with_reducible refine dn_i follows_any (by kernel_rfl) ?_) | (with_reducible exact done_eq rfl) | (simp -dsimp [conv_a]))); (all_goals try with_reducible refine done_eq ?_)
  all_goals simp_all [asF]
end Go.Smd
end
section
set_option linter.unusedSimpArgs false
set_option maxRecDepth 100000
set_option maxHeartbeats 8000000
namespace Go.Smd
open Go.RowKit Go.Proofs
structure EV where
  k : Int
  s : ByteArray
  keys : List ByteArray
  l : List GV
  v : GV
  n : Int
def evD (e : EV) : List D := [dI e.k, dS e.s, dStrs e.keys, dGVs e.l] ++ gvD e.v ++ [dI e.n]
abbrev evA (e : EV) : Av := .agg (cls (evD e))
@[simp] theorem evD_length (e : EV) : (evD e).length = 11 := by simp [evD]
@[simp] theorem evD_take (e : EV) : (evD e).take 11 = evD e := List.take_of_length_le (by simp)
@[simp] theorem clsE_take (e : EV) : (cls (evD e)).take 11 = cls (evD e) := List.take_of_length_le (by simp)
abbrev evX (k : Int) (s : ByteArray) (keys : List ByteArray) (l : List GV) (a b : Int) (c : Nat) (d : ByteArray) (e : List ByteArray) (f : List GV) (n : Int) : Av :=
  .agg [.d (dI k), .d (dS s), .d (dStrs keys), .d (dGVs l), .d (dI a), .d (dI b), .d (dF c), .d (dS d), .d (dStrs e), .d (dGVs f), .d (dI n)]
theorem evA_x (k : Int) (s : ByteArray) (keys : List ByteArray) (l : List GV) (a b : Int) (c : Nat) (d : ByteArray) (e : List ByteArray) (f : List GV) (n : Int) : evA ⟨k, s, keys, l, .mk a b c d e f, n⟩ = evX k s keys l a b c d e f n := by
  simp only [evD, evA, gvD_mk, List.cons_append, List.nil_append, cls_cons, cls_nil]
@[simp] theorem coL_ev (e : EV) : coL [none, none, some 9, some 31, none, none, none, none, some 9, some 31, none] (cls (evD e)) = cls (evD e) := by
  obtain ⟨k, s, keys, l, ⟨a, b, c, d, p, f⟩, n⟩ := e
  simp only [evD, gvD_mk]; rfl
structure EVk (e : EV) : Prop where
  hk : -9223372036854775808 ≤ e.k ∧ e.k ≤ 9223372036854775807
  hkeys : e.keys.length * 16 ≤ 140737488351232
  hl : e.l.length * 88 ≤ 140737488351232
  hitem : ∀ x ∈ e.l, okA Tryz.prog (gvA x)
  hv : okA Tryz.prog (gvA e.v)
theorem toValue_x (k n : Int) (f : Nat) (s : ByteArray) (ks : List ByteArray) (l : List GV) : ACalls Tryz.prog 66 [gvX k n f s ks l] (fun r => r = .c (.d (dV (treeOf (.mk k n f s ks l))))) := by
  have h := toValue_a (.mk k n f s ks l)
  rw [gvA_x] at h; exact h
abbrev Fds := List (ByteArray × Tree)
def fdRow (p : ByteArray × Tree) : List D := [dS p.1, dV p.2]
abbrev dFds (l : Fds) : D := .sl 193 (l.map fdRow)
def zipF (ks : List ByteArray) (l : List GV) : Fds := ks.zip (l.map treeOf)
theorem toKeys_x (k : Int) (s : ByteArray) (keys : List ByteArray) (l : List GV) (a b : Int) (c : Nat) (d : ByteArray) (e : List ByteArray) (f : List GV) (n : Int) (hk : keys.length * 16 ≤ 140737488351232) (hl : l.length * 88 ≤ 140737488351232) :
    ACalls Tryz.prog 118 [evX k s keys l a b c d e f n] (fun r => r = .c (.d (dFds (zipF keys l)))) := by
  refine acalls_ex [] Tryz.func118 (by kernel_rfl) rfl Tryz.ntmps118 Tryz.results118 (Nat.le_of_ble_eq_true (by kernel_rfl)) ?_; intro hok w0 S0
  clear hok
  have b1 : keys.length ≤ 9223372036854775807 := by omega
  have b2 : l.length ≤ 9223372036854775807 := by omega
  (repeat' (first | (with_reducible refine br_d (fun _ => ?_) (fun _ => ?_)) | (with_reducible refine br_i (fun _ => ?_) (fun _ => ?_)) | (with_reducible refine dn_i follows_any (by kernel_rfl) ?_) | (with_reducible exact done_eq rfl) | (simp -dsimp [b1, b2]))); (all_goals try with_reducible refine done_eq ?_)
  refine ex_loop (fun i : Nat => ⟨[(1, .c (.own 1 0)), (3, .c (.gs 6 ((zipF keys l).take i).length)), (8, .c (.d (dStrs keys))), (9, aV (.int .i64 keys.length)), (10, aV (.int .i64 i))], [(6, .arr ((zipF keys l).take i).length 193 (((zipF keys l).take i).map fdRow)),
    (1, .cells [.d (dI k), .d (dS s), .d (dStrs keys), .d (dGVs l), .d (dI a), .d (dI b), .d (dF c), .d (dS d), .d (dStrs e), .d (dGVs f), .d (dI n)] 33)]⟩) (fun i => i ≤ keys.length) (fun i => keys.length - i) 0 ?_ (Nat.zero_le _) ?_
  · exact Weak.same (by simp -dsimp [List.take_zero, List.length_nil, List.map_nil]) (by simp -dsimp [List.take_zero, List.length_nil, List.map_nil]) (by first | rfl | (simp [closedSt, Av.ids, Ow.ids, Cl.ids, Go.Smd.keys]; done))
  · rintro i hi K hK
    by_cases hlt : i < keys.length
    · have hw : IntKind.wrap .i64 ((i : Int) + 1) = ((i + 1 : Nat) : Int) := by rw [wrap_i64] <;> omega
      by_cases hl2 : i < l.length
      · have h1 : ((zipF keys l).take (i + 1)) = (zipF keys l).take i ++ [(keys[i], treeOf l[i])] := by
          rw [List.take_succ_eq_append_getElem (by simp [zipF]; omega)]
          simp [zipF]
        have h2 : ((zipF keys l).take i).length = i := by simp [zipF]; omega
        have hb : (min i (zipF keys l).length + 1) * 32 ≤ 140737488351232 := by omega
        rw [h2]
        (repeat' (first | (with_reducible refine br_d (fun _ => ?_) (fun _ => ?_)) | (with_reducible refine br_i (fun _ => ?_) (fun _ => ?_)) | (with_reducible refine nd_v (toValue_a _) (by first | rfl | (simp -dsimp [b1, b2, hlt, hl2, hw, h2, hb, toDs]; done)) ?_) | (with_reducible refine nw_v (toValue_a _) rfl (by first | rfl | (simp -dsimp [b1, b2, hlt, hl2, hw, h2, hb, toDs]; done)) (by first | rfl | (simp -dsimp [b1, b2, hlt, hl2, hw, h2, hb, toDs]; done)) ?_) | (with_reducible refine dn_i follows_any (by kernel_rfl) ?_) | (with_reducible exact done_eq rfl) | (simp -dsimp [b1, b2, hlt, hl2, hw, h2, hb, toDs]))); (all_goals try with_reducible refine done_eq ?_)
        refine hK _ (i + 1) ?_ (by omega) (by omega)
        rw [h1]
        exact Weak.same (by simp -dsimp [h2, List.map_append, List.map_take, fdRow]) (by simp -dsimp [h2, List.map_append, List.map_take, fdRow]) (by first | rfl | (simp [closedSt, Av.ids, Ow.ids, Cl.ids, Go.Smd.keys]; done))
      · have h1 : ((zipF keys l).take (i + 1)) = (zipF keys l).take i := by
          rw [List.take_of_length_le (by simp [zipF]; omega), List.take_of_length_le (by simp [zipF]; omega)]
        (repeat' (first | (with_reducible refine br_d (fun _ => ?_) (fun _ => ?_)) | (with_reducible refine br_i (fun _ => ?_) (fun _ => ?_)) | (with_reducible refine dn_i follows_any (by kernel_rfl) ?_) | (with_reducible exact done_eq rfl) | (simp -dsimp [b1, b2, hlt, hl2, hw]))); (all_goals try with_reducible refine done_eq ?_)
        refine hK _ (i + 1) ?_ (by omega) (by omega)
        rw [h1]
        exact Weak.same (by simp -dsimp) (by simp -dsimp) (by first | rfl | (simp [closedSt, Av.ids, Ow.ids, Cl.ids, Go.Smd.keys]; done))
    · have h1 : (zipF keys l).take i = zipF keys l := List.take_of_length_le (by simp [zipF]; omega)
      (repeat' (first | (with_reducible refine br_d (fun _ => ?_) (fun _ => ?_)) | (with_reducible refine br_i (fun _ => ?_) (fun _ => ?_)) | (with_reducible refine dn_i follows_any (by kernel_rfl) ?_) | (with_reducible exact done_eq rfl) | (simp -dsimp [hlt, h1]))); (all_goals try with_reducible refine done_eq ?_)
def ptnA (op : BinOp) (q : Option (Option TypeId)) : Option Av :=
  match op, q with
  | .eql, some (some _) => some (.c (.d (.v (.bool false))))
  | .neq, some (some _) => some (.c (.d (.v (.bool true))))
  | _, _ => none
@[simp ↓] theorem binA_ptn {P : Program} {op : BinOp} {T : TypeId} {ox oy : Operand} {xs : List D} : binA P op T ox oy (.c (.d (.pt xs))) (.c (.d (.v (.pointer none)))) = ptnA op (P.ptrT T) := by
  simp only [binA, ptnA, Go.Program.ptrT]
  cases h : P.underlying T with
  | none => cases op <;> rfl
  | some d => cases d <;> cases op <;> rfl
def _root_.Go.Program.isPtrT (P : Program) (T : TypeId) : Bool := match P.ptrT T with | some (some _) => true | _ => false
theorem equal_nil {P : Program} {T : TypeId} (h : P.isPtrT T = true) : evalPure P (Op.equal T (.pointer none) (.pointer none)) = some true := by
  obtain ⟨E, hu⟩ : ∃ E, P.underlying T = some (.pointer E) := by
    unfold Go.Program.isPtrT Go.Program.ptrT at h
    cases hu : P.underlying T with
    | none => rw [hu] at h; cases h
    | some d => rw [hu] at h; cases d <;> first | exact ⟨_, rfl⟩ | cases h
  show evalPure P (Op.equalIn (9999 + 1) T (.pointer none) (.pointer none)) = _
  unfold Op.equalIn
  simp [underlying, program, bind, Sem.bind, evalPure, hu, pure]
theorem evalPure_b {P : Program} {g : Bool → Value} : ∀ {m : Sem Bool} {x : Bool}, evalPure P m = some x → evalPure P (m.bind fun a => Sem.pure (g a)) = some (g x) := by
  intro m
  induction m with
  | pure a => intro x h; simp [evalPure] at h; subst h; rfl
  | program k ih => intro x h; exact ih P h
  | mark m k ih => intro x h; exact ih h
  | _ => intro x h; simp [evalPure] at h
@[simp ↓] theorem binA_pne {P : Program} {T : TypeId} {ox oy : Operand} (h : P.isPtrT T = true) : binA P .eql T ox oy (.c (.d (.v (.pointer none)))) (.c (.d (.v (.pointer none)))) = some (.c (.d (.v (.bool true)))) := by
  have := equal_nil h
  simp [binA, valPure, eqGuard, binOp, pure, Sem.bind, bind, evalPure, okVb]
  rw [evalPure_b (g := fun b => .bool b) this]
  rfl
@[simp ↓] theorem binA_pnn {P : Program} {T : TypeId} {ox oy : Operand} (h : P.isPtrT T = true) : binA P .neq T ox oy (.c (.d (.v (.pointer none)))) (.c (.d (.v (.pointer none)))) = some (.c (.d (.v (.bool false)))) := by
  have := equal_nil h
  simp [binA, valPure, eqGuard, binOp, pure, Sem.bind, bind, evalPure, okVb]
  rw [evalPure_b (g := fun b => .bool (!b)) this]
  rfl
attribute [simp] Go.Program.isPtrT
attribute [simp] ptnA
inductive LE where
  | name (s : ByteArray)
  | key (l : Fds)
  | val (t : Tree)
  | idx (n : Int)
abbrev dNil : D := .v (.pointer none)
abbrev leD : LE → List D
  | .name s => [.pt [dS s], dNil, dNil, dNil]
  | .key l => [dNil, .pt [dFds l], dNil, dNil]
  | .val t => [dNil, dNil, .pt [dV t], dNil]
  | .idx n => [dNil, dNil, dNil, .pt [dI n]]
abbrev leA (p : LE) : Av := .agg (cls (leD p))
@[simp] theorem leD_length (p : LE) : (leD p).length = 4 := by cases p <;> rfl
@[simp] theorem leD_take (p : LE) : (leD p).take 4 = leD p := List.take_of_length_le (by simp)
@[simp] theorem clsL_take (p : LE) : (cls (leD p)).take 4 = cls (leD p) := List.take_of_length_le (by simp)
@[simp] theorem coL_le (p : LE) : coL [none, none, none, none] (cls (leD p)) = cls (leD p) := by cases p <;> rfl
def toLE (e : EV) : LE := if e.k = 1 then .key (zipF e.keys e.l) else if e.k = 2 then .val (treeOf e.v) else if e.k = 3 then .idx e.n else .name e.s
theorem toElem_x (k : Int) (s : ByteArray) (keys : List ByteArray) (l : List GV) (a b : Int) (c : Nat) (d : ByteArray) (e : List ByteArray) (f : List GV) (n : Int) (hk : keys.length * 16 ≤ 140737488351232) (hl : l.length * 88 ≤ 140737488351232) :
    ACalls Tryz.prog 65 [evX k s keys l a b c d e f n] (fun r => r = leA (toLE ⟨k, s, keys, l, .mk a b c d e f, n⟩)) := by
  refine acalls_ex [] Tryz.func65 (by kernel_rfl) rfl Tryz.ntmps65 Tryz.results65 (Nat.le_of_ble_eq_true (by kernel_rfl)) ?_; intro hok w0 S0
  clear hok
  (repeat' (first | (with_reducible refine br_d (fun _ => ?_) (fun _ => ?_)) | (with_reducible refine br_i (fun _ => ?_) (fun _ => ?_)) | (with_reducible refine nd_v (toKeys_x _ _ _ _ _ _ _ _ _ _ _ hk hl) (by first | rfl | (simp -dsimp; done)) ?_) | (with_reducible refine nw_v (toKeys_x _ _ _ _ _ _ _ _ _ _ _ hk hl) rfl (by first | rfl | (simp -dsimp; done)) (by first | rfl | (simp -dsimp; done)) ?_) | (with_reducible refine nd_v (toValue_x _ _ _ _ _ _) (by first | rfl | (simp -dsimp; done)) ?_) | (with_reducible refine nw_v (toValue_x _ _ _ _ _ _) rfl (by first | rfl | (simp -dsimp; done)) (by first | rfl | (simp -dsimp; done)) ?_) | (with_reducible refine dn_i follows_any (by kernel_rfl) ?_) | (with_reducible exact done_eq rfl) | (simp -dsimp))); (all_goals try with_reducible refine done_eq ?_)
  all_goals simp_all [toLE, cls]
def fitsLE : LE → Prop
  | .key l => ∀ p ∈ l, Fits p.2
  | .val t => Fits t
  | _ => True
@[simp] theorem isStr_s : Tryz.prog.isStr 9 = true := by kernel_rfl
theorem compareInts_a (a b : Int) : ACalls Tryz.prog 113 [aI a, aI b] (fun r => ∃ n, r = aI n) := by
  refine acalls_ex [] Tryz.func113 (by kernel_rfl) rfl Tryz.ntmps113 Tryz.results113 (Nat.le_of_ble_eq_true (by kernel_rfl)) ?_; intro hok w0 S0
  clear hok
  (repeat' (first | (with_reducible refine br_d (fun _ => ?_) (fun _ => ?_)) | (with_reducible refine br_i (fun _ => ?_) (fun _ => ?_)) | (with_reducible refine dn_i follows_any (by kernel_rfl) ?_) | (with_reducible exact done_eq rfl) | (simp -dsimp))); (all_goals try with_reducible refine done_eq ?_)
  all_goals exact ⟨_, rfl⟩
theorem conv_u8 (b : UInt8) : valPure Tryz.prog (convert 5 2 (.int .u8 b.toNat)) = some (.c (.d (.v (.int .i64 b.toNat)))) := by
  have hb := b.toNat_lt
  have h : evalPure Tryz.prog (convert 5 2 (.int .u8 b.toNat)) = some (.int .i64 b.toNat) := by
    have hw : IntKind.wrap .i64 (b.toNat : Int) = b.toNat := by rw [wrap_i64] <;> omega
    simp [convert, underlying, program, bind, Sem.bind, evalPure, pure, Conv.intToInt, hw]
  unfold valPure; rw [h]; simp [okVb, okInt]; omega
theorem compareStrings_a (s t : ByteArray) : ACalls Tryz.prog 112 [aS s, aS t] (fun r => ∃ n, r = aI n) := by
  refine acalls_ex [(4, ([], [(0, []), (1, []), (2, []), (3, []), (4, []), (5, []), (6, [])])), (5, ([8], [(0, []), (1, []), (2, []), (3, []), (4, []), (5, []), (6, []), (7, []), (8, []), (9, [])]))] Tryz.func112 (by kernel_rfl) rfl Tryz.ntmps112 Tryz.results112 (Nat.le_of_ble_eq_true (by kernel_rfl)) ?_; intro hok w0 S0
  have b1 := okD_str (okA_c (hok (aS s) (by simp)))
  have b2 := okD_str (okA_c (hok (aS t) (by simp)))
  clear hok
  (repeat' (first | (with_reducible refine br_d (fun _ => ?_) (fun _ => ?_)) | (with_reducible refine br_i (fun _ => ?_) (fun _ => ?_)) | (with_reducible refine dn_i follows_any (by kernel_rfl) ?_) | (with_reducible exact done_eq rfl) | (simp -dsimp))); (all_goals try with_reducible refine done_eq ?_)
  refine ex_loop (fun i : Nat => ⟨[(0, aS s), (1, aS t), (5, aI i)], []⟩) (fun i => i ≤ s.size) (fun i => s.size - i) 0 ?_ (Nat.zero_le _) ?_
  · exact Weak.same (by simp -dsimp) (by simp -dsimp) (by first | rfl | (simp [closedSt, Av.ids, Ow.ids, Cl.ids, Go.Smd.keys]; done))
  · rintro i hi K hK
    have hw : IntKind.wrap .i64 ((i : Int) + 1) = ((i + 1 : Nat) : Int) := by rw [wrap_i64] <;> omega
    by_cases h1 : i < s.size
    · by_cases h2 : i < t.size
      · (repeat' (first | (with_reducible refine br_d (fun _ => ?_) (fun _ => ?_)) | (with_reducible refine br_i (fun _ => ?_) (fun _ => ?_)) | ((with_reducible refine nd_c (compareInts_a _ _) (by first | rfl | (simp -dsimp [hw, h1, h2, conv_u8]; done)) ?_); rintro _ ⟨x, rfl⟩ _) | ((with_reducible refine nw_c (compareInts_a _ _) rfl (by first | rfl | (simp -dsimp [hw, h1, h2, conv_u8]; done)) (by first | rfl | (simp -dsimp [hw, h1, h2, conv_u8]; done)) ?_); rintro _ ⟨x, rfl⟩ _) | (with_reducible refine dn_i follows_any (by kernel_rfl) ?_) | (with_reducible exact done_eq rfl) | (simp -dsimp [hw, h1, h2, conv_u8]))); (all_goals try with_reducible refine done_eq ?_)
        · exact ⟨_, rfl⟩
        · refine hK _ (i + 1) ?_ (by omega) (by omega)
          exact Weak.same (by simp -dsimp) (by simp -dsimp) (by first | rfl | (simp [closedSt, Av.ids, Ow.ids, Cl.ids, Go.Smd.keys]; done))
      · (repeat' (first | (with_reducible refine br_d (fun _ => ?_) (fun _ => ?_)) | (with_reducible refine br_i (fun _ => ?_) (fun _ => ?_)) | ((with_reducible refine nd_c (compareInts_a _ _) (by first | rfl | (simp -dsimp [hw, h1, h2]; done)) ?_); rintro _ ⟨x, rfl⟩ _) | ((with_reducible refine nw_c (compareInts_a _ _) rfl (by first | rfl | (simp -dsimp [hw, h1, h2]; done)) (by first | rfl | (simp -dsimp [hw, h1, h2]; done)) ?_); rintro _ ⟨x, rfl⟩ _) | (with_reducible refine dn_i follows_any (by kernel_rfl) ?_) | (with_reducible exact done_eq rfl) | (simp -dsimp [hw, h1, h2]))); (all_goals try with_reducible refine done_eq ?_)
        all_goals exact ⟨_, rfl⟩
    · (repeat' (first | (with_reducible refine br_d (fun _ => ?_) (fun _ => ?_)) | (with_reducible refine br_i (fun _ => ?_) (fun _ => ?_)) | ((with_reducible refine nd_c (compareInts_a _ _) (by first | rfl | (simp -dsimp [hw, h1]; done)) ?_); rintro _ ⟨x, rfl⟩ _) | ((with_reducible refine nw_c (compareInts_a _ _) rfl (by first | rfl | (simp -dsimp [hw, h1]; done)) (by first | rfl | (simp -dsimp [hw, h1]; done)) ?_); rintro _ ⟨x, rfl⟩ _) | (with_reducible refine dn_i follows_any (by kernel_rfl) ?_) | (with_reducible exact done_eq rfl) | (simp -dsimp [hw, h1]))); (all_goals try with_reducible refine done_eq ?_)
      all_goals exact ⟨_, rfl⟩
theorem plainList_a (l : List GV) (hl : l.length * 88 ≤ 140737488351232) : ACalls Tryz.prog 70 [.c (.d (dGVs l))] (fun r => r = .c (.d (dGVs (l.map clean)))) := by
  refine acalls_ex [] Tryz.func70 (by kernel_rfl) rfl Tryz.ntmps70 Tryz.results70 (Nat.le_of_ble_eq_true (by kernel_rfl)) ?_; intro hok w0 S0
  clear hok
  have b1 : l.length ≤ 9223372036854775807 := by omega
  have b2 : 88 * l.length ≤ 281474976710656 := by omega
  (repeat' (first | (with_reducible refine br_d (fun _ => ?_) (fun _ => ?_)) | (with_reducible refine br_i (fun _ => ?_) (fun _ => ?_)) | (with_reducible refine dn_i follows_any (by kernel_rfl) ?_) | (with_reducible exact done_eq rfl) | (simp -dsimp [b1, b2]))); (all_goals try with_reducible refine done_eq ?_)
  refine ex_loop (fun i : Nat => ⟨[(3, .c (.gs 8 i)), (9, .c (.d (dGVs l))), (10, aI l.length), (11, aI i)], [(8, .arr i 31 ((l.map (gvD ∘ clean)).take i))]⟩) (fun i => i ≤ l.length) (fun i => l.length - i) 0 ?_ (Nat.zero_le _) ?_
  · exact Weak.same (by simp -dsimp) (by simp -dsimp) (by first | rfl | (simp [closedSt, Av.ids, Ow.ids, Cl.ids, Go.Smd.keys]; done))
  · rintro i hi K hK
    by_cases hlt : i < l.length
    · have hw : IntKind.wrap .i64 ((i : Int) + 1) = ((i + 1 : Nat) : Int) := by rw [wrap_i64] <;> omega
      have hb : (min i l.length + 1) * 88 ≤ 140737488351232 := by omega
      have h1 : (l.map (gvD ∘ clean)).take (i + 1) = (l.map (gvD ∘ clean)).take i ++ [gvD (clean l[i])] := by
        rw [List.take_succ_eq_append_getElem (by simpa using hlt)]
        simp
      (repeat' (first | (with_reducible refine br_d (fun _ => ?_) (fun _ => ?_)) | (with_reducible refine br_i (fun _ => ?_) (fun _ => ?_)) | (with_reducible refine nd_v (clean_a _) (by first | rfl | (simp -dsimp [b1, hlt, hw, hb, toDs]; done)) ?_) | (with_reducible refine nw_v (clean_a _) rfl (by first | rfl | (simp -dsimp [b1, hlt, hw, hb, toDs]; done)) (by first | rfl | (simp -dsimp [b1, hlt, hw, hb, toDs]; done)) ?_) | (with_reducible refine dn_i follows_any (by kernel_rfl) ?_) | (with_reducible exact done_eq rfl) | (simp -dsimp [b1, hlt, hw, hb, toDs]))); (all_goals try with_reducible refine done_eq ?_)
      refine hK _ (i + 1) ?_ (by omega) (by omega)
      rw [h1]
      exact Weak.same (by simp -dsimp) (by simp -dsimp) (by first | rfl | (simp [closedSt, Av.ids, Ow.ids, Cl.ids, Go.Smd.keys]; done))
    · (repeat' (first | (with_reducible refine br_d (fun _ => ?_) (fun _ => ?_)) | (with_reducible refine br_i (fun _ => ?_) (fun _ => ?_)) | (with_reducible refine dn_i follows_any (by kernel_rfl) ?_) | (with_reducible exact done_eq rfl) | (simp -dsimp [hlt]))); (all_goals try with_reducible refine done_eq ?_)
      rw [List.take_of_length_le (by simp; omega)]
      show _ = Av.c (.d (.sl _ ((l.map clean).map gvD)))
      rw [List.map_map]
theorem cleanElem_x (k : Int) (s : ByteArray) (keys : List ByteArray) (l : List GV) (a b : Int) (c : Nat) (d : ByteArray) (e : List ByteArray) (f : List GV) (n : Int) (hk : keys.length * 16 ≤ 140737488351232) (hl : l.length * 88 ≤ 140737488351232) :
    ACalls Tryz.prog 58 [evX k s keys l a b c d e f n] (fun r => ∃ k s ks l a b c d e f n, r = evX k s ks l a b c d e f n ∧ ks.length * 16 ≤ 140737488351232 ∧ l.length * 88 ≤ 140737488351232) := by
  refine acalls_ex [(4, ([10], [(1, []), (2, []), (3, []), (4, []), (6, []), (7, []), (8, []), (9, []), (0, []), (5, []), (10, []), (11, []), (12, [])]))] Tryz.func58 (by kernel_rfl) rfl Tryz.ntmps58 Tryz.results58 (Nat.le_of_ble_eq_true (by kernel_rfl)) ?_; intro hok w0 S0
  clear hok
  have b1 : keys.length ≤ 9223372036854775807 := by omega
  have b2 : l.length ≤ 9223372036854775807 := by omega
  have hc := clean_a (.mk a b c d e f)
  obtain ⟨a1, a2, a3, a4, a5, a6, hcl⟩ : ∃ a1 a2 a3 a4 a5 a6, clean (.mk a b c d e f) = .mk a1 a2 a3 a4 a5 a6 := by cases clean (.mk a b c d e f); exact ⟨_, _, _, _, _, _, rfl⟩
  rw [hcl, gvA_x, gvA_x] at hc
  obtain ⟨m, hm⟩ : ∃ m : Nat, m = min keys.length l.length := ⟨_, rfl⟩
  have hmin : min (keys.length : Int) (l.length : Int) = (m : Int) := by omega
  have hm1 : m ≤ keys.length := by omega
  have hm2 : m ≤ l.length := by omega
  have hp := plainList_a (l.take m) (by simp; omega)
  rw [show dGVs (l.take m) = .sl 31 ((l.map gvD).take m) by rw [dGVs, List.map_take]] at hp
  have hr : m * 16 ≤ 140737488351232 := by omega
  (repeat' (first | (with_reducible refine br_d (fun _ => ?_) (fun _ => ?_)) | (with_reducible refine br_i (fun _ => ?_) (fun _ => ?_)) | (with_reducible refine nd_v (hc) (by first | rfl | (simp -dsimp [b1, b2, toDs, hmin, hm1, hm2, hr]; done)) ?_) | (with_reducible refine nw_v (hc) rfl (by first | rfl | (simp -dsimp [b1, b2, toDs, hmin, hm1, hm2, hr]; done)) (by first | rfl | (simp -dsimp [b1, b2, toDs, hmin, hm1, hm2, hr]; done)) ?_) | (with_reducible refine nd_v (hp) (by first | rfl | (simp -dsimp [b1, b2, toDs, hmin, hm1, hm2, hr]; done)) ?_) | (with_reducible refine nw_v (hp) rfl (by first | rfl | (simp -dsimp [b1, b2, toDs, hmin, hm1, hm2, hr]; done)) (by first | rfl | (simp -dsimp [b1, b2, toDs, hmin, hm1, hm2, hr]; done)) ?_) | (with_reducible refine dn_i follows_any (by kernel_rfl) ?_) | (with_reducible exact done_eq rfl) | (simp -dsimp [b1, b2, toDs, hmin, hm1, hm2, hr]))); (all_goals try with_reducible refine done_eq ?_)
  · refine done_of ⟨1, .empty, keys.take m, (l.take m).map clean, 0, 0, 0, .empty, [], [], 0, ?_, by simp; omega, by simp; omega⟩
    simp only [evX, dStrs, dGVs, rowS, List.map_take]; rfl
  · exact done_of ⟨2, .empty, [], [], a1, a2, a3, a4, a5, a6, 0, rfl, by simp, by simp⟩
  · exact done_of ⟨3, .empty, [], [], 0, 0, 0, .empty, [], [], n, rfl, by simp, by simp⟩
  · exact done_of ⟨0, s, [], [], 0, 0, 0, .empty, [], [], 0, rfl, by simp, by simp⟩
theorem keySorted_x (k : Int) (s : ByteArray) (keys : List ByteArray) (l : List GV) (a b : Int) (c : Nat) (d : ByteArray) (e : List ByteArray) (f : List GV) (n : Int) (hk : keys.length * 16 ≤ 140737488351232) (hl : l.length * 88 ≤ 140737488351232) :
    ACalls Tryz.prog 61 [evX k s keys l a b c d e f n] (fun r => ∃ b, r = aV (.bool b)) := by
  refine acalls_ex [(5, ([11], [(0, []), (1, []), (2, []), (3, []), (4, []), (5, []), (6, []), (7, []), (8, []), (9, []), (10, []), (11, []), (12, [])]))] Tryz.func61 (by kernel_rfl) rfl Tryz.ntmps61 Tryz.results61 (Nat.le_of_ble_eq_true (by kernel_rfl)) ?_; intro hok w0 S0
  clear hok
  (repeat' (first | (with_reducible refine br_d (fun _ => ?_) (fun _ => ?_)) | (with_reducible refine br_i (fun _ => ?_) (fun _ => ?_)) | ((with_reducible refine nd_c (cleanElem_x _ _ _ _ _ _ _ _ _ _ _ hk hl) (by first | rfl | (simp -dsimp; done)) ?_); rintro _ ⟨k2, s2, ks2, l2, a2, b2, c2, d2, e2, f2, n2, rfl, hk2, hl2⟩ _) | ((with_reducible refine nw_c (cleanElem_x _ _ _ _ _ _ _ _ _ _ _ hk hl) rfl (by first | rfl | (simp -dsimp; done)) (by first | rfl | (simp -dsimp; done)) ?_); rintro _ ⟨k2, s2, ks2, l2, a2, b2, c2, d2, e2, f2, n2, rfl, hk2, hl2⟩ _) | (with_reducible refine dn_i follows_any (by kernel_rfl) ?_) | (with_reducible exact done_eq rfl) | (simp -dsimp))); (all_goals try with_reducible refine done_eq ?_)
  refine ex_loop (fun i : Nat => ⟨[(1, .c (.own 1 0)), (3, aI (i + 1))], [(1, .cells [.d (dI k2), .d (dS s2), .d (dStrs ks2), .d (dGVs l2), .d (dI a2), .d (dI b2), .d (dF c2), .d (dS d2), .d (dStrs e2), .d (dGVs f2), .d (dI n2)] 33)]⟩) (fun i => i ≤ ks2.length) (fun i => ks2.length - i) 0 ?_ (Nat.zero_le _) ?_
  · exact Weak.same (by simp -dsimp) (by simp -dsimp) (by first | rfl | (simp [closedSt, Av.ids, Ow.ids, Cl.ids, Go.Smd.keys]; done))
  · rintro i hi K hK
    have b1 : ks2.length ≤ 9223372036854775807 := by omega
    by_cases hlt : i + 1 < ks2.length
    · have hw : IntKind.wrap .i64 ((i : Int) + 1 + 1) = (i : Int) + 1 + 1 := by rw [wrap_i64] <;> omega
      have hw2 : IntKind.wrap .i64 (i : Int) = (i : Int) := by rw [wrap_i64] <;> omega
      have h0 : i < ks2.length := by omega
      have h1 : (i : Int) + 1 < ks2.length := by omega
      have h2 : (0 : Int) ≤ i + 1 := by omega
      have h3 : ((i : Int) + 1).toNat = i + 1 := by omega
      (repeat' (first | (with_reducible refine br_d (fun _ => ?_) (fun _ => ?_)) | (with_reducible refine br_i (fun _ => ?_) (fun _ => ?_)) | ((with_reducible refine nd_c (compareStrings_a _ _) (by first | rfl | (simp -dsimp [b1, hlt, hw, hw2, h0, h1, h2, h3, rowS]; done)) ?_); rintro _ ⟨x, rfl⟩ _) | ((with_reducible refine nw_c (compareStrings_a _ _) rfl (by first | rfl | (simp -dsimp [b1, hlt, hw, hw2, h0, h1, h2, h3, rowS]; done)) (by first | rfl | (simp -dsimp [b1, hlt, hw, hw2, h0, h1, h2, h3, rowS]; done)) ?_); rintro _ ⟨x, rfl⟩ _) | (with_reducible refine dn_i follows_any (by kernel_rfl) ?_) | (with_reducible exact done_eq rfl) | (simp -dsimp [b1, hlt, hw, hw2, h0, h1, h2, h3, rowS]))); (all_goals try with_reducible refine done_eq ?_)
      · exact ⟨_, rfl⟩
      · refine hK _ (i + 1) ?_ (by omega) (by omega)
        exact Weak.same (by simp -dsimp) (by simp -dsimp) (by first | rfl | (simp [closedSt, Av.ids, Ow.ids, Cl.ids, Go.Smd.keys]; done))
    · have h1 : ¬ ((i : Int) + 1 < ks2.length) := by omega
      (repeat' (first | (with_reducible refine br_d (fun _ => ?_) (fun _ => ?_)) | (with_reducible refine br_i (fun _ => ?_) (fun _ => ?_)) | (with_reducible refine dn_i follows_any (by kernel_rfl) ?_) | (with_reducible exact done_eq rfl) | (simp -dsimp [b1, hlt, h1]))); (all_goals try with_reducible refine done_eq ?_)
      exact ⟨_, rfl⟩
def rkE (k : Int) : Int := if k = 1 ∨ k = 2 ∨ k = 3 then k else 0
theorem elemRank_x (k : Int) (s : ByteArray) (keys : List ByteArray) (l : List GV) (a b : Int) (c : Nat) (d : ByteArray) (e : List ByteArray) (f : List GV) (n : Int) :
    ACalls Tryz.prog 79 [evX k s keys l a b c d e f n] (fun r => r = aI (rkE k)) := by
  refine acalls_ex [] Tryz.func79 (by kernel_rfl) rfl Tryz.ntmps79 Tryz.results79 (Nat.le_of_ble_eq_true (by kernel_rfl)) ?_; intro hok w0 S0
  clear hok
  (repeat' (first | (with_reducible refine br_d (fun _ => ?_) (fun _ => ?_)) | (with_reducible refine br_i (fun _ => ?_) (fun _ => ?_)) | (with_reducible refine dn_i follows_any (by kernel_rfl) ?_) | (with_reducible exact done_eq rfl) | (simp -dsimp))); (all_goals try with_reducible refine done_eq ?_)
  all_goals simp_all [rkE]
theorem zipF_eq (keys : List ByteArray) (l : List GV) : zipF keys l = (keys.zip l).map fun p => (p.1, treeOf p.2) := by
  unfold zipF
  rw [List.zip_map_right]
  rfl
structure FitsE (e : EV) : Prop where
  items : ∀ x ∈ e.l, Fits (treeOf x)
  val : Fits (treeOf e.v)
theorem FitsE.zip {e : EV} (h : FitsE e) : ∀ p ∈ e.keys.zip e.l, Fits (treeOf p.2) := fun p hp => h.items _ (List.of_mem_zip hp).2
theorem FitsE.le {e : EV} (h : FitsE e) : fitsLE (toLE e) := by
  unfold toLE
  split
  · simp only [fitsLE, zipF_eq]
    intro p hp
    obtain ⟨q, hq, rfl⟩ := List.mem_map.1 hp
    exact h.zip q hq
  · split
    · exact h.val
    · split <;> trivial
theorem ev_ok {e : EV} (h : okA Tryz.prog (evA e)) : e.keys.length * 16 ≤ 140737488351232 ∧ (∀ k ∈ e.keys, k.size ≤ 140737488351232) ∧ e.l.length * 88 ≤ 140737488351232 ∧ FitsE e := by
  have h2 : ∀ d ∈ evD e, okD Tryz.prog d := fun d hd => okA_agg h (.d d) (List.mem_map.2 ⟨d, hd, rfl⟩) d rfl
  have a1 := strs_ok (h2 (dStrs e.keys) (by simp [evD]))
  have a2 := gvs_ok (h2 (dGVs e.l) (by simp [evD]))
  refine ⟨a1.1, a1.2, a2.1, fun x hx => gv_fits (a2.2 x hx), gv_fits ?_⟩
  obtain ⟨w, S, v, us, rfl, ha⟩ := h
  have hv := ((cls_all2.1 ha).drop 4).take 6
  have e1 : ((evD e).drop 4).take 6 = gvD e.v := by
    show (gvD e.v ++ [dI e.n]).take 6 = _
    rw [List.take_append_of_le_length (by simp), gvD_take]
  rw [e1] at hv
  exact okA_of (fun d hd => h2 d (by simp [evD, hd])) w S ⟨_, hv⟩
end Go.Smd
end
