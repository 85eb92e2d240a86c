/- Part 15 of the proof: Ak Ms Ar Mt Vb Vd Sort Ve Vf Vj Vl Specb Am At1. -/
import Derived.Test.YtphldfnnjoehpaaQC12
import Derived.Test.YtphldfnnjoehpaaQC11
import Derived.Test.YtphldfnnjoehpaaQC10
import Derived.Test.YtphldfnnjoehpaaQC14
import Derived.Test.YtphldfnnjoehpaaQC03
import Derived.Test.YtphldfnnjoehpaaQC13
import Derived.Test.YtphldfnnjoehpaaQC02
import Derived.Test.YtphldfnnjoehpaaQC01
import Derived.Lib.Bytealg
import Derived.Laws.FloatBits
set_option linter.unusedVariables false
section
set_option linter.unusedSimpArgs false
namespace Go.Smd
open Go.RowKit Go.Proofs
theorem follows_any : Try.prog.follows .mixedOrders = true := by kernel_rfl
abbrev dI (n : Int) : D := .v (.int .i64 n)
abbrev dS (s : ByteArray) : D := .v (.string s)
abbrev dB (b : Bool) : D := .v (.bool b)
abbrev dF (n : Nat) : D := .v (.float .f64 n)
def rowS (l : List ByteArray) : List (List D) := l.map fun s => [dS s]
abbrev dStrs (l : List ByteArray) : D := .sl 9 (rowS l)
mutual
def gvD : GV → List D
  | .mk kind n f s keys l => [dI kind, dI n, dF f, dS s, dStrs keys, .sl 26 (gvDs l)]
def gvDs : List GV → List (List D)
  | [] => []
  | x :: l => gvD x :: gvDs l
end
theorem gvDs_eq : ∀ l, gvDs l = l.map gvD
  | [] => by simp [gvDs]
  | x :: l => by simp [gvDs, gvDs_eq l]
def cls (xs : List D) : List Cl := xs.map .d
abbrev gvA (g : GV) : Av := .agg (cls (gvD g))
abbrev dGVs (l : List GV) : D := .sl 26 (l.map gvD)
theorem gvD_mk (kind n : Int) (f : Nat) (s : ByteArray) (keys : List ByteArray) (l : List GV) : gvD (.mk kind n f s keys l) = [dI kind, dI n, dF f, dS s, dStrs keys, dGVs l] := by
  rw [gvD, gvDs_eq]
@[simp] theorem gvD_length (g : GV) : (gvD g).length = 6 := by cases g; rw [gvD_mk]; rfl
@[simp] theorem gvD_take (g : GV) : (gvD g).take 6 = gvD g := List.take_of_length_le (by simp)
@[simp] theorem cls_cons (x : D) (xs : List D) : cls (x :: xs) = .d x :: cls xs := rfl
@[simp] theorem cls_nil : cls [] = [] := rfl
@[simp] theorem cls_length (xs : List D) : (cls xs).length = xs.length := by simp [cls]
@[simp] theorem cls_take (g : GV) : (cls (gvD g)).take 6 = cls (gvD g) := List.take_of_length_le (by simp)
theorem cls_fold (xs : List D) : List.map Cl.d xs = cls xs := rfl
@[simp] theorem cls_all (xs : List D) : (cls xs).all Cl.isD = true := by simp [cls, Cl.isD]
@[simp] theorem toDs_cls : ∀ xs : List D, toDs (cls xs) = some xs
  | [] => rfl
  | x :: xs => by
    have := toDs_cls xs
    show (toDs (cls xs)).map (x :: ·) = _
    rw [this]; rfl
@[simp] theorem splice_all {α : Type} (xs ys : List α) (h : ys.length = xs.length) : splice xs 0 ys = ys := by simp [splice, h]
@[simp] theorem splice_c0 {α : Type} (x y : α) (xs ys : List α) : splice (x :: xs) 0 (y :: ys) = y :: splice xs 0 ys := by simp [splice]
@[simp] theorem splice_n0 {α : Type} (xs : List α) : splice xs 0 [] = xs := by simp [splice]
@[simp] theorem splice_cs {α : Type} (x : α) (xs ys : List α) (n : Nat) : splice (x :: xs) (n + 1) ys = x :: splice xs n ys := by
  simp only [splice, List.take_succ_cons, List.cons_append]
  rw [show n + 1 + ys.length = (n + ys.length) + 1 by omega, List.drop_succ_cons]
@[simp] theorem ids_cls (xs : List D) : (cls xs).flatMap Cl.ids = [] := by
  induction xs with
  | nil => rfl
  | cons x xs ih => simp only [cls_cons, List.flatMap_cons, ih, Cl.ids, List.append_nil]
@[simp] theorem rowS_at' (l : List ByteArray) (i : Nat) (h : i < (rowS l).length) : (rowS l)[i] = [dS (l[i]'(by simpa [rowS] using h))] := by simp [rowS]
@[simp] theorem rowS_length (l : List ByteArray) : (rowS l).length = l.length := by simp [rowS]
@[simp] theorem frz_cls (F : List Nat) (h : Nat → Option Ow) (xs : List D) : (cls xs).map (frzC Try.prog F h) = cls xs := by
  induction xs with
  | nil => rfl
  | cons x xs ih => simp only [cls_cons, List.map_cons, ih, frzC, frzN, frzG]
@[simp] theorem deep_cls (h : Nat → Option Ow) (xs : List D) : (cls xs).flatMap (Cl.deep h) = [] := by
  induction xs with
  | nil => rfl
  | cons x xs ih => simp only [cls_cons, List.flatMap_cons, ih, Cl.deep, Cl.deepN, List.append_nil]
@[simp] theorem coL_gv (g : GV) : coL [none, none, none, none, some 9, some 26] (cls (gvD g)) = cls (gvD g) := by cases g; rw [gvD_mk]; rfl
structure GVk (kind n : Int) (f : Nat) (s : ByteArray) (keys : List ByteArray) (l : List GV) : Prop where
  hkind : -9223372036854775808 ≤ kind ∧ kind ≤ 9223372036854775807
  hn : -9223372036854775808 ≤ n ∧ n ≤ 9223372036854775807
  hf : f < 18446744073709551616
  hs : s.size ≤ 140737488351232
  hkeys : keys.length * 16 ≤ 140737488351232
  hkey : ∀ k ∈ keys, k.size ≤ 140737488351232
  hl : l.length * 88 ≤ 140737488351232
  hitem : ∀ x ∈ l, okA Try.prog (gvA x)
theorem okA_of {xs : List D} (h : ∀ d ∈ xs, okD Try.prog d) (w : World) (S : Nat → Prop) (k : ∃ us, All2 (RepD Try.prog w S) xs us) : okA Try.prog (.agg (cls xs)) := by
  obtain ⟨us, ha⟩ := k
  refine ⟨w, S, .agg us.toArray, us, rfl, ?_⟩
  clear h
  induction ha with
  | nil => exact .nil
  | cons h t ih => exact .cons h ih
theorem okA_pt {xs : List D} (h : okD Try.prog (.pt xs)) : okA Try.prog (.agg (cls xs)) := by
  obtain ⟨w, S, v, h⟩ := h
  obtain ⟨ad, rfl, hr⟩ := RepD.pt_iff.1 h
  refine okA_of (fun d hd => okD_pt ⟨w, S, _, h⟩ d hd) w S ⟨(List.range xs.length).map fun i => (w.cell? (ad.add i)).getD undef, All2.of (by simp) fun i d u hi hu => ?_⟩
  obtain ⟨u', _, hc, hr⟩ := hr i d hi
  rw [List.getElem?_map] at hu
  obtain ⟨i', hi', rfl⟩ := Option.map_eq_some_iff.1 hu
  obtain ⟨hlt, rfl⟩ := List.getElem?_eq_some_iff.1 hi'
  simp only [List.getElem_range, hc, Option.getD_some]; exact hr
theorem okD_row {E : TypeId} {xs : List (List D)} (h : okD Try.prog (.sl E xs)) {r : List D} (hr : r ∈ xs) : okA Try.prog (.agg (cls r)) := by
  obtain ⟨w, S, v, h⟩ := h
  obtain ⟨A, c, rfl, _, hb, hrow⟩ := RepD.sl_iff.1 h
  obtain ⟨j, hj⟩ := List.getElem?_of_mem hr
  by_cases h0 : 0 < Try.prog.cellsOf E
  · obtain ⟨ad, _, hq⟩ := (hrow j r hj).2 h0
    exact okA_pt ⟨w, S, _, RepD.pt_iff.2 ⟨_, rfl, hq⟩⟩
  · have h1 := (hrow j r hj).1
    have : r = [] := List.eq_nil_of_length_eq_zero (by omega)
    subst this
    exact ⟨w, S, .agg #[], [], rfl, .nil⟩
theorem strs_ok {l : List ByteArray} (h : okD Try.prog (dStrs l)) : l.length * 16 ≤ 140737488351232 ∧ ∀ k ∈ l, k.size ≤ 140737488351232 := by
  obtain ⟨h1, h2⟩ := okD_sl h
  simp at h1
  exact ⟨h1, fun k hk => okD_str ((h2 [dS k] (List.mem_map.2 ⟨k, hk, rfl⟩)).2 _ (List.mem_singleton_self _))⟩
theorem gvs_ok {l : List GV} (h : okD Try.prog (dGVs l)) : l.length * 88 ≤ 140737488351232 ∧ ∀ x ∈ l, okA Try.prog (gvA x) := by
  obtain ⟨h1, h2⟩ := okD_sl h
  simp at h1
  exact ⟨h1, fun x hx => okD_row h (List.mem_map.2 ⟨x, hx, rfl⟩)⟩
theorem gv_ok {kind n : Int} {f : Nat} {s : ByteArray} {keys : List ByteArray} {l : List GV} (h : okA Try.prog (gvA (.mk kind n f s keys l))) : GVk kind n f s keys l := by
  have h1 := okA_agg h
  rw [gvD_mk] at h1
  have h2 : ∀ d ∈ [dI kind, dI n, dF f, dS s, dStrs keys, dGVs l], okD Try.prog d := fun d hd => h1 (.d d) (List.mem_map.2 ⟨d, hd, rfl⟩) d rfl
  have a1 := strs_ok (h2 (dStrs keys) (by simp))
  have a2 := gvs_ok (h2 (dGVs l) (by simp))
  refine ⟨okD_i64 (h2 _ (by simp)), okD_i64 (h2 (dI n) (by simp)), ?_, okD_str (h2 (dS s) (by simp)), a1.1, a1.2, a2.1, a2.2⟩
  have := okD_v (h2 (dF f) (by simp))
  simpa [okVb] using this
end Go.Smd
end
section
set_option linter.unusedSimpArgs false
namespace Go.Smd
open Go.RowKit
section
variable {P : Program} {N : Nat} {tl : List (Nat × Av)} {hl : List (Nat × Ow)} {σ : St}
theorem dst_mk {d : Option Tmp} {op : Op} {ty : TypeId} {pos : String} {af : Array Edge} {g : Option (Nat × Bool)} : Oper.dst ⟨d, op, ty, pos, af, g⟩ = d := _root_.id rfl
theorem op_mk {d : Option Tmp} {op : Op} {ty : TypeId} {pos : String} {af : Array Edge} {g : Option (Nat × Bool)} : Oper.op ⟨d, op, ty, pos, af, g⟩ = op := _root_.id rfl
theorem guard_mk {d : Option Tmp} {op : Op} {ty : TypeId} {pos : String} {af : Array Edge} {g : Option (Nat × Bool)} : Oper.guard ⟨d, op, ty, pos, af, g⟩ = g := _root_.id rfl
theorem give_nil : σ.give P [] = σ := _root_.id rfl
theorem give_cons {i : Nat} {F : List Nat} : (St.mk tl hl).give P (i :: F) = ⟨mapV (frzA P (i :: F) (look hl)) tl, mapV (frzO P (i :: F) (look hl)) (filK (fun j => !(i :: F).contains j) hl)⟩ := _root_.id rfl
theorem own_mk : St.own ⟨tl, hl⟩ = hl := _root_.id rfl
theorem tmps_mk : St.tmps ⟨tl, hl⟩ = tl := _root_.id rfl
theorem back_mk {ρ : List (Nat × Nat)} {t : Nat} {own' : List (Nat × Ow)} : (St.mk tl hl).back ρ t own' = ⟨mapV (Av.fix (look (mapKV (renI ρ t) (Ow.ren (renI ρ t)) own' ++ filK (fun i => !(ρ.map (·.2)).contains i) hl))) (dedupK tl), mapV (Ow.fix (look (mapKV (renI ρ t) (Ow.ren (renI ρ t)) own' ++ filK (fun i => !(ρ.map (·.2)).contains i) hl))) (mapKV (renI ρ t) (Ow.ren (renI ρ t)) own' ++ filK (fun i => !(ρ.map (·.2)).contains i) hl)⟩ := _root_.id rfl
theorem backH_mk {ρ : List (Nat × Nat)} {t : Nat} {own' : List (Nat × Ow)} : backH (St.mk tl hl) ρ t own' = mapKV (renI ρ t) (Ow.ren (renI ρ t)) own' ++ filK (fun i => !(ρ.map (·.2)).contains i) hl := _root_.id rfl
theorem backOk_mk {ρ : List (Nat × Nat)} {t : Nat} {own' : List (Nat × Ow)} : backOk (St.mk tl hl) ρ t own' = keysO own' fun k _ => hasKey ρ k || (!hasKey hl (renI ρ t k) && decide (renI ρ t k < zed) && decide (k < zed)) := _root_.id rfl
end
attribute [simp] zed litA newArr makeA app1 appA appCall baseA rowA minA intsA reps chunk capArgs invokeA isIfc nilIfc nilIs isNilT isConst binA_nil binA_trn binA_ifn binA_ion mapLen lookA assertA assertD okTup newClo funcV funcA capsA trD loadA fieldAddrA partA storeA newCells cellsA indexAddrA indexA lenA extractA sliceA boundA buildA fillA placeS makeIfcA binA_lss binA_gtr binA_leq binA_geq binA_eql binA_neq binA_add binA_sub binA_beq binA_bne binA_seq binA_sne binA_slt binA_sgt binA_feq binA_flt binA_fgt unop_not okVb okInt startL
attribute [simp ↓] tmpL_nil tmpL_eq tmpL_ne tmp_tmpL look_nil look_eq look_ne h_mk put_some put_none new_mk ev_tmp ev_func ev_bool ev_nilIface ev_nilPtr ev_nilFunc ev_nilSlice ev_nilMap dst_mk op_mk guard_mk own_mk tmps_mk
attribute [simp] ev_const
attribute [simp ↓] vv_move vv_assign vv_pick vv_unOp vv_binOp vv_field vv_fieldAddr vv_load vv_indexAddr vv_index vv_extract vv_nilCheck vv_typeAssert vv_makeFunc vv_lookup vv_makeInterface vv_build vv_slice vv_call len_value len_invoke len_len len_min len_append vv_alloc vv_box vv_store vv_buildSlice vv_makeSlice vv_range vv_next vv_entry vv_defer
attribute [simp] pick_b un_v field_agg chk_own chk_pt chk_io chk_ifc
attribute [simp] resW_some resW_none callF_some callF_none argsC_nil0 argsC_none argsC_cons
attribute [simp ↓] ws_of ws_alloc ws_box ws_store ws_buildSlice ws_makeSlice ws_append ws_callv ws_calli ws_makeFunc ws_range ws_next ws_entry ws_defer clo_call clo_range clo_next clo_entry clo_defer clo_make co_of ce_func ce_tmp ce_invoke ce_range ce_next ce_entry ce_defer
attribute [simp] gd_b gd_tup gdD_some
attribute [simp ↓] gd_none gd_some nth_zero nth_succ dst_ok dst_none ex_nil ex_lp ex_blk ex_ops_nil ex_ops ex_drw_nil ex_drw ex_seq ex_skip ex_label ex_block ex_ret ex_cond ex_region ex_drawn ex_exit unw_blk unw_ne unw_code unw_ops unw_lp FinX_n FinX_r FinPX_n FinPX_r
attribute [simp] cls_fold fix1_mk Fx_of eqS_some asX exD_some
attribute [simp ↓] gs_nil gs_none gs_some
attribute [simp] Sel_true Sel_false Kv_true Kv_false
attribute [simp 900] Kv_b
attribute [simp 800] Kv_any
attribute [simp] Br_true Br_false Ob_some Ov_some Ov_none Tst_b Must_true
attribute [simp] frzA frzC frzN frzG frzO toDs Av.deep Cl.deep Cl.deepN argC coL coC noT Av.isD Cl.isD resAll resOne toParts toPart resA dedupK gaOk gaFree isApp isW isA plainCall give_nil give_cons mapV mapKV filK
attribute [simp] keysO hasKey Av.ren Ow.ren Cl.ren Av.ids Ow.ids Cl.ids Av.fix Ow.fix Cl.fix renI backOk_mk backH_mk back_mk handOk nodupB handed Cl.plain Av.plain
end Go.Smd
end
section
set_option linter.unusedSimpArgs false
namespace Go.Smd
open Go.RowKit
section
variable {P : Program} {N : Nat} {w0 : World} {S0 : Env} {ops : Array Oper}
def Eff (P : Program) (N : Nat) (full base : List (Nat × Av)) (o : Oper) (own own' : List (Nat × Ow)) : Prop :=
  ∀ σ : St, σ.h = look own → (∀ x ∈ o.op.operands, σ.ev x = (St.mk (full ++ base) own).ev x) → (∀ t, σ.tmp t = valT full base t ∨ σ.tmp t = (look base t).getD .any) →
    ∀ K : St → Prop, (∀ σ' : St, σ'.h = look own' → (∀ t, σ'.tmp t = if o.dst = some t then valT full base t else σ.tmp t) → K σ') → execX P N σ o K
structure DQ (N : Nat) (ops : Array Oper) (cs : List Nat) (full : List (Nat × Av)) : Prop where
  gd : ∀ (i : Nat) (o : Oper), ops[i]? = some o → o.guard = none
  dst : ∀ (i : Nat) (o : Oper), ops[i]? = some o → dstOk N o = true ∧ (i ∉ cs → ∃ d, o.dst = some d)
  dep : ∀ (i : Nat) (o : Oper), ops[i]? = some o → ∀ t ∈ o.looksAt ops, ∀ (j : Nat) (oj : Oper), ops[j]? = some oj → oj.dst = some t → ∃ e ∈ o.after, Region.binds .any e = true ∧ e.on = j
  key : ∀ t, (look full t).isSome = true → ∃ (j : Nat) (oj : Oper), ops[j]? = some oj ∧ oj.dst = some t
  lt : ∀ c ∈ cs, c < ops.size
structure AtQ (ops : Array Oper) (full base : List (Nat × Av)) (ps : List Nat) (own : List (Nat × Ow)) (rest : List Nat) (listed : Array Bool) (σ : St) : Prop where
  o : σ.h = look own
  pl : ∀ p ∈ ps, listed.getD p false = true
  rl : ∀ c ∈ rest, listed.getD c false = false
  t1 : ∀ (j : Nat) (oj : Oper) (t : Tmp), ops[j]? = some oj → oj.dst = some t → listed.getD j false = true → σ.tmp t = valT full base t
  t0 : ∀ t : Tmp, (∀ (j : Nat) (oj : Oper), ops[j]? = some oj → oj.dst = some t → listed.getD j false = false) → σ.tmp t = (look base t).getD .any
theorem AtQ.sees {cs : List Nat} {full base : List (Nat × Av)} {ps : List Nat} {own : List (Nat × Ow)} {rest : List Nat} {listed : Array Bool} {σ : St} (A : AtQ ops full base ps own rest listed σ) (D : DQ N ops cs full) {i : Nat} {o : Oper} (ho : ops[i]? = some o) (hr : ∀ e ∈ o.after, Region.binds .any e = true → listed.getD e.on false = true) (own' : List (Nat × Ow)) :
    ∀ x ∈ o.op.operands, σ.ev x = (St.mk (full ++ base) own').ev x := by
  refine ops_looks (ops := ops) fun t ht => ?_
  rw [full_tmp]
  by_cases hj : ∃ (j : Nat) (oj : Oper), ops[j]? = some oj ∧ oj.dst = some t
  · obtain ⟨j, oj, h1, h2⟩ := hj
    obtain ⟨e, he, hb, rfl⟩ := D.dep i o ho t ht j oj h1 h2
    exact A.t1 _ oj t h1 h2 (hr e he hb)
  · rw [A.t0 t fun j oj h1 h2 => absurd ⟨j, oj, h1, h2⟩ hj]
    unfold valT
    cases hf : look full t with
    | none => rfl
    | some x => obtain ⟨j, oj, h1, h2⟩ := D.key t (by rw [hf]; rfl); exact absurd ⟨j, oj, h1, h2⟩ hj
theorem eff_w {full base : List (Nat × Av)} {o : Oper} {own : List (Nat × Ow)} {id : Nat} {x : Ow} {r : Av} (hdk : dstOk N o = true) (hW : isW o.op = true) {own' : List (Nat × Ow)} (hq : wres P ⟨full ++ base, own⟩ o = some (id, x, r)) (hoo : (id, x) :: own = own') (hv : ∀ d, o.dst = some d → valT full base d = r) : Eff P N full base o own own' := fun σ e0 e1 e2 K hK => by
  subst hoo
  refine ⟨hdk, ?_⟩
  rw [vval_W hW]
  have hq' : wres P σ o = some (id, x, r) := by rw [wres_congr e1 (τ := ⟨full ++ base, own⟩) e0]; exact hq
  simp only [wstep_of hq']
  refine hK _ ?_ fun t => ?_
  · rw [put_h, new_h, e0]; funext i
    simp only [look]
    by_cases e : id = i
    · subst e; simp
    · simp [e, Ne.symm e]
  · rw [put_tmp]
    by_cases e : o.dst = some t
    · rw [if_pos e, if_pos e]; exact (hv t e).symm
    · rw [if_neg e, if_neg e]; rfl
end
end Go.Smd
end
section
set_option linter.unusedSimpArgs false
namespace Go.Smd
open Go.RowKit Go.Proofs
@[simp] theorem meth_0 : Try.prog.meth 193 "AsBool" = some (157, false) := by kernel_rfl
@[simp] theorem meth_1 : Try.prog.meth 193 "AsFloat" = some (158, false) := by kernel_rfl
@[simp] theorem meth_2 : Try.prog.meth 193 "AsInt" = some (159, false) := by kernel_rfl
@[simp] theorem meth_3 : Try.prog.meth 193 "AsList" = some (160, false) := by kernel_rfl
@[simp] theorem meth_4 : Try.prog.meth 193 "AsListUsing" = some (161, false) := by kernel_rfl
@[simp] theorem meth_5 : Try.prog.meth 193 "AsMap" = some (162, false) := by kernel_rfl
@[simp] theorem meth_6 : Try.prog.meth 193 "AsMapUsing" = some (163, false) := by kernel_rfl
@[simp] theorem meth_7 : Try.prog.meth 193 "AsString" = some (164, false) := by kernel_rfl
@[simp] theorem meth_8 : Try.prog.meth 193 "IsBool" = some (165, false) := by kernel_rfl
@[simp] theorem meth_9 : Try.prog.meth 193 "IsFloat" = some (166, false) := by kernel_rfl
@[simp] theorem meth_10 : Try.prog.meth 193 "IsInt" = some (167, false) := by kernel_rfl
@[simp] theorem meth_11 : Try.prog.meth 193 "IsList" = some (168, false) := by kernel_rfl
@[simp] theorem meth_12 : Try.prog.meth 193 "IsMap" = some (169, false) := by kernel_rfl
@[simp] theorem meth_13 : Try.prog.meth 193 "IsNull" = some (170, false) := by kernel_rfl
@[simp] theorem meth_14 : Try.prog.meth 193 "IsString" = some (171, false) := by kernel_rfl
@[simp] theorem meth_15 : Try.prog.meth 193 "Unstructured" = some (172, false) := by kernel_rfl
@[simp] theorem meth_16 : Try.prog.meth 292 "At" = some (175, false) := by kernel_rfl
@[simp] theorem meth_17 : Try.prog.meth 302 "At" = some (175, false) := by kernel_rfl
@[simp] theorem meth_18 : Try.prog.meth 292 "AtUsing" = some (176, false) := by kernel_rfl
@[simp] theorem meth_19 : Try.prog.meth 302 "AtUsing" = some (176, false) := by kernel_rfl
@[simp] theorem meth_20 : Try.prog.meth 292 "Equals" = some (177, false) := by kernel_rfl
@[simp] theorem meth_21 : Try.prog.meth 302 "Equals" = some (177, false) := by kernel_rfl
@[simp] theorem meth_22 : Try.prog.meth 292 "EqualsUsing" = some (178, false) := by kernel_rfl
@[simp] theorem meth_23 : Try.prog.meth 302 "EqualsUsing" = some (178, false) := by kernel_rfl
@[simp] theorem meth_24 : Try.prog.meth 292 "Length" = some (179, false) := by kernel_rfl
@[simp] theorem meth_25 : Try.prog.meth 302 "Length" = some (179, false) := by kernel_rfl
@[simp] theorem meth_26 : Try.prog.meth 292 "Range" = some (180, false) := by kernel_rfl
@[simp] theorem meth_27 : Try.prog.meth 302 "Range" = some (180, false) := by kernel_rfl
@[simp] theorem meth_28 : Try.prog.meth 292 "RangeUsing" = some (181, false) := by kernel_rfl
@[simp] theorem meth_29 : Try.prog.meth 302 "RangeUsing" = some (181, false) := by kernel_rfl
@[simp] theorem meth_30 : Try.prog.meth 293 "Delete" = some (183, false) := by kernel_rfl
@[simp] theorem meth_31 : Try.prog.meth 293 "Empty" = some (184, false) := by kernel_rfl
@[simp] theorem meth_32 : Try.prog.meth 293 "Equals" = some (185, false) := by kernel_rfl
@[simp] theorem meth_33 : Try.prog.meth 293 "EqualsUsing" = some (186, false) := by kernel_rfl
@[simp] theorem meth_34 : Try.prog.meth 293 "Get" = some (187, false) := by kernel_rfl
@[simp] theorem meth_35 : Try.prog.meth 293 "GetUsing" = some (188, false) := by kernel_rfl
@[simp] theorem meth_36 : Try.prog.meth 293 "Has" = some (189, false) := by kernel_rfl
@[simp] theorem meth_37 : Try.prog.meth 293 "Iterate" = some (190, false) := by kernel_rfl
@[simp] theorem meth_38 : Try.prog.meth 293 "IterateUsing" = some (191, false) := by kernel_rfl
@[simp] theorem meth_39 : Try.prog.meth 293 "Length" = some (192, false) := by kernel_rfl
@[simp] theorem meth_40 : Try.prog.meth 293 "Set" = some (193, false) := by kernel_rfl
@[simp] theorem meth_41 : Try.prog.meth 293 "Zip" = some (194, false) := by kernel_rfl
@[simp] theorem meth_42 : Try.prog.meth 293 "ZipUsing" = some (195, false) := by kernel_rfl
@[simp] theorem meth_43 : Try.prog.meth 303 "Next" = some (205, true) := by kernel_rfl
@[simp] theorem meth_44 : Try.prog.meth 305 "Next" = some (207, true) := by kernel_rfl
@[simp] theorem meth_45 : Try.prog.meth 303 "Item" = some (204, true) := by kernel_rfl
@[simp] theorem meth_46 : Try.prog.meth 305 "Item" = some (206, true) := by kernel_rfl
@[simp] theorem meth_47 : Try.prog.meth 190 "Free" = some (156, true) := by kernel_rfl
@[simp] theorem meth_48 : Try.prog.meth 190 "pub-coparcener/pub/structuredmerge/value.allocValueUnstructured" = some (111, true) := by kernel_rfl
@[simp] theorem meth_49 : Try.prog.meth 190 "pub-coparcener/pub/structuredmerge/value.allocListUnstructuredRange" = some (208, true) := by kernel_rfl
@[simp] theorem treeOk_p : treeOk Try.prog = true := by kernel_rfl
@[simp] theorem treeMap_a : Try.prog.treeMap 154 = true := by kernel_rfl
@[simp] theorem treeMap_b : Try.prog.treeMap 293 = true := by kernel_rfl
end Go.Smd
end
section
set_option linter.unusedSimpArgs false
set_option maxRecDepth 100000
set_option maxHeartbeats 4000000
namespace Go.Smd
open Go.RowKit Go.Proofs
theorem AWp.at {P : Program} {N : Nat} {w0 : World} {S0 : Env} {c : Code} {Q : Exit → St → Prop} {σ τ : St} (h : σ = τ) (k : AWp P N w0 S0 c Q τ) : AWp P N w0 S0 c Q σ := h ▸ k
abbrev dAny (l : List Tree) : D := .sl 20 (l.map fun t => [.tr t])
end Go.Smd
end
section
set_option linter.unusedSimpArgs false
set_option maxRecDepth 100000
set_option maxHeartbeats 4000000
namespace Go.Smd
open Go.RowKit Go.Proofs
abbrev tStr : TypeId := 9
abbrev sRow (l : List ByteArray) : List (List D) := l.map fun s => [.v (.string s)]
theorem left_perm {k : ByteArray} : ∀ {left : List ByteArray}, left.Nodup → k ∈ left → left.Perm (k :: left.filter fun x => decide (x ≠ k))
  | [], _, h => by cases h
  | x :: l, hn, h => by
    rw [List.nodup_cons] at hn
    by_cases e : x = k
    · subst e
      have h1 : (l.filter fun y => decide (y ≠ x)) = l := List.filter_eq_self.2 fun y hy => by
        have : y ≠ x := fun e => hn.1 (e ▸ hy)
        simpa using this
      rw [List.filter_cons_of_neg (by simp), h1]
    · have hk : k ∈ l := by rcases List.mem_cons.1 h with h | h; exact absurd h.symm e; exact h
      rw [List.filter_cons_of_pos (by simpa using e)]
      exact ((left_perm hn.2 hk).cons x).trans (List.Perm.swap ..)
theorem AProc.drop {P : Program} {f : FuncId} {args : List Av} {own : List (Nat × Ow)} {R R' : Av → List (Nat × Ow) → Prop} (h : AProc P f args own R)
    (k : ∀ r own', R r own' → ∃ own'', R' r own'' ∧ (∀ p ∈ own'', look own' p.1 = some p.2) ∧ closedSt [] own'' = true ∧ r.plain = true) : AProc P f args own R' :=
  ⟨h.1, fun w E β vs s ha => (h.2 w E β vs s ha).mono fun e w' ⟨v, r, β', own', h1, h2, h3, h4⟩ => by
    obtain ⟨own'', g1, g2, g3, g4⟩ := k r own' h2
    obtain ⟨β'', s''⟩ := Weak.same (P := P) (N := 0) (w0 := w) (S0 := E) (σ := ⟨[], own'⟩) (tl := []) (hl := own'') (fun p hp => by cases hp) g2 g3 β' act0 w' h3
    exact ⟨v, r, β'', own'', h1, g1, s'', plain_any g4 h4⟩⟩
end Go.Smd
end
section
set_option linter.unusedSimpArgs false
namespace Go.Smd
open Go.RowKit Go.Proofs
def OwnS (w : World) (B : Nat) (v : Value) (ss : List ByteArray) : Prop := w.ownsRow B 9 1 v ss.length (ss.map Value.string)
theorem OwnS.nil (w : World) (B : Nat) : OwnS w B (.slice none 0 0) [] := ⟨rfl, .inl ⟨rfl, rfl⟩⟩
theorem OwnS.kept {w w' : World} {B : Nat} {v : Value} {ss : List ByteArray} {row : Option Nat} (h : OwnS w B v ss) (hg : w.grownBy w' row) (hne : v.ownBlock = none ∨ v.ownBlock ≠ row) : OwnS w' B v ss := World.ownsRow.kept h hg hne
theorem OwnS.form {w : World} {B : Nat} {v : Value} {ss : List ByteArray} (h : OwnS w B v ss) : ∃ A c, v = .slice A ss.length c ∧ ss.length ≤ c := by
  rcases h.2 with ⟨h', hn⟩ | ⟨g', cap', cur, h', _, hg, hnc, _⟩
  · exact ⟨none, 0, by rw [h', hn], by omega⟩
  · exact ⟨_, _, h', hnc⟩
theorem OwnS.cell {w : World} {B g c : Nat} {n : Nat} {ss : List ByteArray} (h : OwnS w B (.slice (some ⟨g, 0, none⟩) n c) ss) (hn : n = ss.length) {j : Nat} {s : ByteArray} (hj : ss[j]? = some s) : w.cell? ⟨g, j, none⟩ = some (.string s) := by
  subst hn
  rw [World.ownsRow.cellAt h j (by have := (List.getElem?_eq_some_iff.1 hj).1; omega), List.getElem?_map, hj]; rfl
theorem OwnS.set {w : World} {B g c n : Nat} {ss : List ByteArray} (h : OwnS w B (.slice (some ⟨g, 0, none⟩) n c) ss) (hn : n = ss.length) (j : Nat) (s : ByteArray) :
    OwnS (w.setCell ⟨g, j, none⟩ (.string s)) B (.slice (some ⟨g, 0, none⟩) n c) (ss.set j s) ∧ w.grownBy (w.setCell ⟨g, j, none⟩ (.string s)) (some g) := by
  subst hn
  have := World.ownsRow.stored h j (.string s)
  unfold OwnS
  rw [List.length_set, List.map_set]; exact this
theorem OwnS.push {w : World} {B : Nat} {v : Value} {ss : List ByteArray} (h : OwnS w B v ss) (s : ByteArray) (ty : TypeId) (hB : B ≤ w.heap.size) (hn : (ss.length + 1) * 16 ≤ 140737488355328) :
    ∃ v' w', (Builtin.append_ #[23, 23] ty #[v, .slice (some ⟨w.heap.size, 0, none⟩) 1 1]).run Try.prog (w.alloc (.cells #[.string s] 9)) = .ok v' w' ∧ OwnS w' B v' (ss ++ [s]) ∧ w.grownBy w' v.ownBlock := by
  obtain ⟨i, hi, hz, hs, hb⟩ := info_parts info_str
  obtain ⟨v', w', hr, ho, hg, _⟩ := run_append_own (P := Try.prog) (w.alloc (.cells #[.string s] 9)) B 23 ty 9 i _ 1 16 Try.underlying23 hi hz hs hb rfl (by omega) v ss.length (ss.map .string) (World.ownsRow.alloc h _)
    ⟨w.heap.size, 0, none⟩ 1 1 [.string s] rfl (by simpa using World.news_of_block (cs := #[.string s]) (t := 9) (fr := (0, 0)) (heap_alloc_new w (.cells #[.string s] 9))) (by simp [Value.oneCell']) (by simp only [maxLen]; omega) hn (by rw [size_alloc]; omega)
  refine ⟨v', w', hr, ?_, World.grownBy.trans (World.grownBy_alloc w (.cells #[.string s] 9) v.ownBlock) hg⟩
  unfold OwnS
  rw [List.length_append, List.map_append]; exact ho
def putAt (k : ByteArray) (ss : List ByteArray) (j : Nat) : List ByteArray := ss.take j ++ k :: ss.drop j
theorem putAt_length (k : ByteArray) (ss : List ByteArray) (j : Nat) : (putAt k ss j).length = ss.length + 1 := by simp [putAt]; omega
theorem putAt_end (k : ByteArray) (ss : List ByteArray) : putAt k ss ss.length = ss ++ [k] := by simp [putAt]
theorem putAt_at (k : ByteArray) {ss : List ByteArray} {j : Nat} (h : j ≤ ss.length) : (putAt k ss j)[j]? = some k := by
  unfold putAt; rw [List.getElem?_append_right (by simp; omega)]; simp [Nat.min_eq_left h]
theorem putAt_prev (k : ByteArray) {ss : List ByteArray} {j : Nat} {s : ByteArray} (h : ss[j]? = some s) : (putAt k ss (j + 1))[j]? = some s := by
  have := (List.getElem?_eq_some_iff.1 h).1
  unfold putAt; rw [List.getElem?_append_left (by simp; omega), List.getElem?_take, if_pos (by omega), h]
theorem putAt_swap (k : ByteArray) {ss : List ByteArray} {j : Nat} {s : ByteArray} (h : ss[j]? = some s) : ((putAt k ss (j + 1)).set (j + 1) s).set j k = putAt k ss j := by
  have hlt := (List.getElem?_eq_some_iff.1 h).1
  apply List.ext_getElem?
  intro i
  have hl : (putAt k ss (j + 1)).length = ss.length + 1 := putAt_length _ _ _
  rw [List.getElem?_set, List.getElem?_set]
  simp only [List.length_set, hl]
  by_cases h1 : j = i
  · subst h1; rw [if_pos rfl, if_pos (by omega), putAt_at k (by omega)]
  · rw [if_neg h1]
    by_cases h2 : j + 1 = i
    · subst h2
      rw [if_pos rfl, if_pos (by omega)]
      unfold putAt
      rw [List.getElem?_append_right (by simp; omega)]
      simp only [List.length_take, Nat.min_eq_left (show j ≤ ss.length by omega), show j + 1 - j = 1 by omega, List.getElem?_cons_succ, List.getElem?_drop, Nat.add_zero]
      exact h.symm
    · rw [if_neg h2]
      unfold putAt
      rcases Nat.lt_or_ge i j with hi | hi
      · rw [List.getElem?_append_left (by simp; omega), List.getElem?_append_left (by simp; omega), List.getElem?_take, List.getElem?_take, if_pos (by omega), if_pos hi]
      · rw [List.getElem?_append_right (by simp; omega), List.getElem?_append_right (by simp; omega)]
        simp only [List.length_take, Nat.min_eq_left (show j ≤ ss.length by omega), Nat.min_eq_left (show j + 1 ≤ ss.length by omega)]
        obtain ⟨p, rfl⟩ : ∃ p, i = j + 2 + p := ⟨i - (j + 2), by omega⟩
        rw [show j + 2 + p - (j + 1) = p + 1 by omega, show j + 2 + p - j = p + 2 by omega]
        simp only [List.getElem?_cons_succ, List.getElem?_drop]
        congr 1; omega
theorem putAt_sorted {k : ByteArray} {ss : List ByteArray} {j : Nat} (hs : ss.Pairwise fun a b => blt a b = true) (h1 : ∀ q ∈ ss.take j, blt q k = true) (h2 : ∀ q ∈ ss.drop j, blt k q = true) : (putAt k ss j).Pairwise fun a b => blt a b = true := by
  unfold putAt
  rw [List.pairwise_append]
  refine ⟨hs.sublist (List.take_sublist _ _), List.pairwise_cons.2 ⟨h2, hs.sublist (List.drop_sublist _ _)⟩, fun a ha b hb => ?_⟩
  rcases List.mem_cons.1 hb with rfl | hb
  · exact h1 a ha
  · exact blt_trans (h1 a ha) (h2 b hb)
theorem sorted_eq : ∀ {a b : List ByteArray}, a.Pairwise (fun a b => blt a b = true) → b.Pairwise (fun a b => blt a b = true) → (∀ q, q ∈ a ↔ q ∈ b) → a = b
  | [], [], _, _, _ => rfl
  | [], y :: b, _, _, h => by have := (h y).2 (List.mem_cons_self ..); cases this
  | x :: a, [], _, _, h => by have := (h x).1 (List.mem_cons_self ..); cases this
  | x :: a, y :: b, ha, hb, h => by
    rw [List.pairwise_cons] at ha hb
    have hxy : x = y := by
      rcases List.mem_cons.1 ((h x).1 (List.mem_cons_self ..)) with e | hx
      · exact e
      · rcases List.mem_cons.1 ((h y).2 (List.mem_cons_self ..)) with e | hy
        · exact e.symm
        · have h1 := hb.1 x hx
          have h2 := ha.1 y hy
          rw [blt_asymm h1] at h2; cases h2
    subst hxy
    rw [sorted_eq ha.2 hb.2 fun q => ?_]
    constructor
    · intro hq
      rcases List.mem_cons.1 ((h q).1 (List.mem_cons_of_mem _ hq)) with rfl | h'
      · have := ha.1 q hq; rw [blt_irrefl] at this; cases this
      · exact h'
    · intro hq
      rcases List.mem_cons.1 ((h q).2 (List.mem_cons_of_mem _ hq)) with rfl | h'
      · have := hb.1 q hq; rw [blt_irrefl] at this; cases this
      · exact h'
end Go.Smd
end
section
set_option linter.unusedSimpArgs false
set_option maxRecDepth 100000
set_option maxHeartbeats 8000000
namespace Go.Smd
open Go.RowKit Go.Proofs
@[simp] theorem ctys_fn : ctys Try.prog 300 = [none] := by kernel_rfl
theorem putAt_perm (k : ByteArray) (ss rest : List ByteArray) (j : Nat) : (putAt k ss j ++ rest).Perm (ss ++ k :: rest) := by
  unfold putAt
  have h : (ss.take j ++ k :: ss.drop j).Perm (k :: ss) := by
    have := List.perm_middle (a := k) (l₁ := ss.take j) (l₂ := ss.drop j)
    rwa [List.take_append_drop] at this
  exact (h.append_right rest).trans List.perm_middle.symm
theorem take_below {k s : ByteArray} {ss : List ByteArray} {p : Nat} (hso : ss.Pairwise fun a b => blt a b = true) (hs : ss[p]? = some s) (h : blt s k = true) : ∀ q ∈ ss.take (p + 1), blt q k = true := fun q hq => by
  obtain ⟨i, hi⟩ := List.getElem?_of_mem hq
  rw [List.getElem?_take] at hi
  split at hi
  · next hlt =>
    by_cases e : i = p
    · subst e; rw [hs] at hi; cases hi; exact h
    · obtain ⟨h1, rfl⟩ := List.getElem?_eq_some_iff.1 hi
      obtain ⟨h2, rfl⟩ := List.getElem?_eq_some_iff.1 hs
      exact blt_trans (List.pairwise_iff_getElem.1 hso i p h1 h2 (by omega)) h
  · cases hi
theorem swap_row {k s : ByteArray} {ss rest R2 : List ByteArray} {p : Nat} (hR2 : R2 = putAt k ss (p + 1) ++ rest) (hs : ss[p]? = some s) : ((sRow R2).set (p + 1) [.v (.string s)]).set p [.v (.string k)] = sRow (putAt k ss p ++ rest) := by
  have hlt := (List.getElem?_eq_some_iff.1 hs).1
  have hpl := putAt_length k ss (p + 1)
  subst hR2
  show ((List.map (fun s => [D.v (.string s)]) _).set (p + 1) ((fun s => [D.v (.string s)]) s)).set p ((fun s => [D.v (.string s)]) k) = _
  rw [← List.map_set, ← List.map_set, List.set_append_left _ _ (by omega), List.set_append_left _ _ (by rw [List.length_set]; omega), putAt_swap k hs]
end Go.Smd
end
section
set_option linter.unusedSimpArgs false
set_option maxRecDepth 100000
set_option maxHeartbeats 8000000
namespace Go.Smd
open Go.RowKit Go.Proofs
@[simp] theorem ctys_fn3 : ctys Try.prog 150 = [none] := by kernel_rfl
@[simp] theorem lay_fn3 : Try.prog.lay 150 = some (1, false) := by kernel_rfl
end Go.Smd
end
section
set_option linter.unusedSimpArgs false
set_option maxRecDepth 100000
set_option maxHeartbeats 8000000
namespace Go.Smd
open Go.RowKit Go.Proofs
theorem mget_of_mem : ∀ {m : List (ByteArray × Tree)} {k : ByteArray} {v : Tree}, (m.map (·.1)).Nodup → (k, v) ∈ m → mget m k = some v
  | [], _, _, _, h => by cases h
  | p :: m, k, v, hnd, h => by
    simp only [List.map_cons, List.nodup_cons] at hnd
    unfold mget
    rcases List.mem_cons.1 h with rfl | h
    · simp
    · have hne : ¬ p.1 = k := fun e => hnd.1 (e ▸ List.mem_map_of_mem h)
      rw [List.find?_cons_of_neg (by simpa using hne)]
      exact mget_of_mem hnd.2 h
end Go.Smd
end
section
set_option linter.unusedSimpArgs false
set_option maxRecDepth 100000
set_option maxHeartbeats 8000000
namespace Go.Smd
open Go.RowKit Go.Proofs
mutual
def dep : Tree → Nat
  | .list l => depL l + 1
  | .map m => depM m + 1
  | _ => 1
def depL : List Tree → Nat
  | [] => 0
  | x :: l => max (dep x) (depL l)
def depM : List (ByteArray × Tree) → Nat
  | [] => 0
  | p :: m => max (dep p.2) (depM m)
end
theorem sorted_nodup {l : List ByteArray} (h : l.Pairwise fun a b => blt a b = true) : l.Nodup := h.imp fun h => blt_ne h
theorem nodup_le : ∀ {l m : List ByteArray}, l.Nodup → (∀ q ∈ l, q ∈ m) → l.length ≤ m.length
  | [], _, _, _ => Nat.zero_le _
  | x :: l, m, hn, h => by
    rw [List.nodup_cons] at hn
    have hx := h x (List.mem_cons_self ..)
    have h1 := nodup_le (l := l) (m := m.filter fun q => decide (q ≠ x)) hn.2 fun q hq => by
      have hne : q ≠ x := fun e => hn.1 (e ▸ hq)
      exact List.mem_filter.2 ⟨h q (List.mem_cons_of_mem _ hq), by simpa using hne⟩
    have h2 : (m.filter fun q => decide (q ≠ x)).length < m.length := List.length_filter_lt_length_iff_exists.2 ⟨x, hx, by simp⟩
    simp only [List.length_cons]; omega
theorem nodup_perm {l m : List ByteArray} (h1 : l.Nodup) (h2 : m.Nodup) (h : ∀ q, q ∈ l ↔ q ∈ m) : l.length = m.length :=
  Nat.le_antisymm (nodup_le h1 fun q hq => (h q).1 hq) (nodup_le h2 fun q hq => (h q).2 hq)
end Go.Smd
end
section
set_option linter.unusedSimpArgs false
namespace Go.Smd
open Go.RowKit Go.Proofs
theorem leaf_rep (S : Nat → Prop) (w : World) {kind n : Int} {f : Nat} {s : ByteArray} (ok : GVok kind n f s [] []) : RepGV S w (.mk kind n f s [] []) [.int .i64 kind, .int .i64 n, .float .f64 f, .string s, .slice none 0 0, .slice none 0 0] :=
  RepGV.close (keys := []) (l := []) ok (Nat.zero_le _) (Nat.zero_le _) RowOf.nil RowOf.nil
set_option maxRecDepth 100000 in
set_option maxHeartbeats 2000000 in
theorem clean_c : ∀ v, CleanC v := by
  intro v
  induction v using GV.ind with
  | h kind n f s keys l IH =>
  intro cs w S hv
  obtain ⟨ka, kc, la, lc, rfl, ok, hkc, hlc, hks, hls⟩ := hv.open
  obtain ⟨nk, hnk⟩ : ∃ n, keys.length = n := ⟨_, rfl⟩
  obtain ⟨nl, hnl⟩ : ∃ n, l.length = n := ⟨_, rfl⟩
  have hn := ok.okN
  have hf := ok.okF
  have hs := ok.okS
  have h2 := ok.okL
  have HC : Hid (clean (.mk kind n f s keys l) = if kind = 1 then .mk 1 (if n = 0 then 0 else 1) 0 ⟨#[]⟩ [] [] else if kind = 2 then .mk 2 n 0 ⟨#[]⟩ [] [] else if kind = 3 then .mk 3 0 f ⟨#[]⟩ [] []
    else if kind = 4 then .mk 4 0 0 s [] [] else if kind = 5 then .mk 5 0 0 ⟨#[]⟩ [] (cleans l) else if kind = 6 then mkMap (insAll keys (cleans l) []) else .mk 0 0 0 ⟨#[]⟩ [] []) := clean.eq_1 ..
  generalize hcl : clean (.mk kind n f s keys l) = cl at HC ⊢
  rw [hnk, hnl] at hv ⊢
  have Hk := Lib.hid hnk; have Hl := Lib.hid hnl
  have hE0 : Ext w ((w.alloc (.cells #[.int .i64 kind, .int .i64 n, .float .f64 f, .string s, .slice ka nk kc, .slice la nl lc] 26)).alloc (.cells #[.int .i64 0, .int .i64 0, .float .f64 0, .string ⟨#[]⟩, .slice none 0 0, .slice none 0 0] 26)) := ((Ext.refl w).alloc _).alloc _
  have hA0 := old_at (.cells #[.int .i64 0, .int .i64 0, .float .f64 0, .string ⟨#[]⟩, .slice none 0 0, .slice none 0 0] 26) (new_at (w := w) (.cells #[.int .i64 kind, .int .i64 n, .float .f64 f, .string s, .slice ka nk kc, .slice la nl lc] 26) rfl)
  have hB0 := new_at (w := w.alloc (.cells #[.int .i64 kind, .int .i64 n, .float .f64 f, .string s, .slice ka nk kc, .slice la nl lc] 26)) (.cells #[.int .i64 0, .int .i64 0, .float .f64 0, .string ⟨#[]⟩, .slice none 0 0, .slice none 0 0] 26) (size_alloc _ _)
  have hz0 : w.heap.size + 2 ≤ ((w.alloc (.cells #[.int .i64 kind, .int .i64 n, .float .f64 f, .string s, .slice ka nk kc, .slice la nl lc] 26)).alloc (.cells #[.int .i64 0, .int .i64 0, .float .f64 0, .string ⟨#[]⟩, .slice none 0 0, .slice none 0 0] 26)).heap.size := by simp only [size_alloc]; omega
  go_enter Try.func19, Try.ntmps19
  go_upto_region 1 with fail
  generalize (w.alloc (.cells #[.int .i64 kind, .int .i64 n, .float .f64 f, .string s, .slice ka nk kc, .slice la nl lc] 26)).alloc (.cells #[.int .i64 0, .int .i64 0, .float .f64 0, .string ⟨#[]⟩, .slice none 0 0, .slice none 0 0] 26) = w2 at hE0 hA0 hB0 hz0 ⊢
  have HV := Lib.hid (hv.ext hE0); have HLS := Lib.hid (RepGVs.ext hls hE0)
  have a0 := cell_of hA0 (i := 0) rfl; have a1 := cell_of hA0 (i := 1) rfl; have a2 := cell_of hA0 (i := 2) rfl; have a3 := cell_of hA0 (i := 3) rfl; have a4 := cell_of hA0 (i := 4) rfl; have a5 := cell_of hA0 (i := 5) rfl
  have HE := Lib.hid hE0; have HB := Lib.hid hB0
  clear hv hls hks ok hE0 hA0 hB0 hkc hlc hcl
  have SN : ∀ v0 v1 v2 v3 v4 v5, Hid ((six w2 (w.heap.size + 1) v0 v1 v2 v3 v4 v5).heap[w.heap.size + 1]? = some (.cells #[v0, v1, v2, v3, v4, v5] 26 (0, 0)) ∧ Ext w (six w2 (w.heap.size + 1) v0 v1 v2 v3 v4 v5)) := fun v0 v1 v2 v3 v4 v5 => ⟨six_at HB.out _ _ _ _ _ _, six_ext HE.out (by omega) _ _ _ _ _ _⟩
  by_cases k6 : kind = 6
  · subst k6
    go_wp2_with fail
    refine (plainMapS_step 6 n f s keys l IH _ _ S HV.out).mono ?_
    rintro e w1 ⟨u, rfl, ⟨cu, rfl, hu⟩, hE1⟩
    have hE2 := HE.out.trans hE1
    have HB1 := Lib.hid (hE1.heap HB.out)
    obtain ⟨f0, f1, f2, f3, f4, f5, rfl⟩ := hu.list6
    obtain ⟨p0, p1, p2, p3, p4, p5⟩ := hu.six
    have HQ : Hid ((six w1 (w.heap.size + 1) f0 f1 f2 f3 f4 f5).heap[w.heap.size + 1]? = some (.cells #[f0, f1, f2, f3, f4, f5] 26 (0, 0))) := six_at HB1.out _ _ _ _ _ _
    have HEq : Hid (Ext w (six w1 (w.heap.size + 1) f0 f1 f2 f3 f4 f5)) := six_ext hE2 (by omega) _ _ _ _ _ _
    have HRq : Hid (RepGV (w.heap.size ≤ ·) (six w1 (w.heap.size + 1) f0 f1 f2 f3 f4 f5) (mkMap (insAll keys (cleans l) [])) [f0, f1, f2, f3, f4, f5]) := RepGV.frame (S' := (w.heap.size ≤ ·)) ((six_same w1 (w.heap.size + 1) _ _ _ _ _ _).mono fun b hb => by omega) (fun b hb => by omega) hu
    clear hu hE1 hE2
    have hz : ∀ o, w1.frozen? ⟨w.heap.size + 1, o, none⟩ = false := fun o => by simp [World.frozen?, HB1.out]
    have g0 := cell_of HB1.out (i := 0) rfl; have g1 := cell_of HB1.out (i := 1) rfl; have g2 := cell_of HB1.out (i := 2) rfl; have g3 := cell_of HB1.out (i := 3) rfl; have g4 := cell_of HB1.out (i := 4) rfl; have g5 := cell_of HB1.out (i := 5) rfl
    go_wp2
    (try simp only [Exit.inBlock, Exit.then]); refine bodyPost_ret (res6 Try.results19 rfl HQ.out) rfl ?_
    exact ⟨_, rfl, ⟨_, rfl, by have := HC.out; simp only [reduceIte, Int.reduceEq] at this; rw [this]; exact HRq.out⟩, HEq.out⟩
  by_cases k5 : kind = 5
  · subst k5
    go_wp2_with fail
    refine (plainList_step l IH la nl lc _ S HLS.out Hl.out (by omega)).mono ?_
    rintro e w1 ⟨u, rfl, ⟨A', c', rfl, hc', hu⟩, hE1⟩
    have hE2 := HE.out.trans hE1
    have HB1 := Lib.hid (hE1.heap HB.out)
    have HQ : Hid ((six w1 (w.heap.size + 1) (.int .i64 5) (.int .i64 0) (.float .f64 0) (.string ⟨#[]⟩) (.slice none 0 0) (.slice A' nl c')).heap[w.heap.size + 1]? = some (.cells #[.int .i64 5, .int .i64 0, .float .f64 0, .string ⟨#[]⟩, .slice none 0 0, .slice A' nl c'] 26 (0, 0))) := six_at HB1.out _ _ _ _ _ _
    have HEq : Hid (Ext w (six w1 (w.heap.size + 1) (.int .i64 5) (.int .i64 0) (.float .f64 0) (.string ⟨#[]⟩) (.slice none 0 0) (.slice A' nl c'))) := six_ext hE2 (by omega) _ _ _ _ _ _
    have hll : (cleans l).length = nl := by rw [cleans_eq, List.length_map, Hl.out]
    have HRq : Hid (RepGV (w.heap.size ≤ ·) (six w1 (w.heap.size + 1) (.int .i64 5) (.int .i64 0) (.float .f64 0) (.string ⟨#[]⟩) (.slice none 0 0) (.slice A' nl c')) (.mk 5 0 0 ⟨#[]⟩ [] (cleans l)) [.int .i64 5, .int .i64 0, .float .f64 0, .string ⟨#[]⟩, .slice none 0 0, .slice A' nl c']) := by
      have hr := RepGVs.frame (S' := (w.heap.size ≤ ·)) hu ((six_same w1 (w.heap.size + 1) (.int .i64 5) (.int .i64 0) (.float .f64 0) (.string ⟨#[]⟩) (.slice none 0 0) (.slice A' nl c')).mono fun b hb => by omega) (fun b hb => by omega)
      have := RepGV.close (keys := []) (l := cleans l) (kind := 5) (n := 0) (f := 0) (s := ⟨#[]⟩) (ka := none) (kc := 0) (lc := c') ⟨by omega, by omega, by omega, Nat.zero_le _, by simp, by simp, by rw [hll]; omega⟩ (Nat.zero_le _) (by omega) RowOf.nil hr
      rw [hll] at this; exact this
    clear hu hE1 hE2
    have hz : ∀ o, w1.frozen? ⟨w.heap.size + 1, o, none⟩ = false := fun o => by simp [World.frozen?, HB1.out]
    have g0 := cell_of HB1.out (i := 0) rfl; have g1 := cell_of HB1.out (i := 1) rfl; have g2 := cell_of HB1.out (i := 2) rfl; have g3 := cell_of HB1.out (i := 3) rfl; have g4 := cell_of HB1.out (i := 4) rfl; have g5 := cell_of HB1.out (i := 5) rfl
    go_wp2
    (try simp only [Exit.inBlock, Exit.then]); refine bodyPost_ret (res6 Try.results19 rfl HQ.out) rfl ?_
    exact ⟨_, rfl, ⟨_, rfl, by have := HC.out; simp only [reduceIte, Int.reduceEq] at this; rw [this]; exact HRq.out⟩, HEq.out⟩
  have hz : ∀ o, w2.frozen? ⟨w.heap.size + 1, o, none⟩ = false := fun o => by simp [World.frozen?, HB.out]
  have g0 := cell_of HB.out (i := 0) rfl; have g1 := cell_of HB.out (i := 1) rfl; have g2 := cell_of HB.out (i := 2) rfl; have g3 := cell_of HB.out (i := 3) rfl; have g4 := cell_of HB.out (i := 4) rfl; have g5 := cell_of HB.out (i := 5) rfl
  by_cases k1 : kind = 1
  · subst k1
    by_cases n0 : n = 0
    · subst n0
      go_wp2
      (try simp only [Exit.inBlock, Exit.then]); refine bodyPost_ret (res6 Try.results19 rfl (SN (.int .i64 1) (.int .i64 0) (.float .f64 0) (.string ⟨#[]⟩) (.slice none 0 0) (.slice none 0 0)).out.1) rfl ?_
      exact ⟨_, rfl, ⟨_, rfl, by have := HC.out; simp only [reduceIte, Int.reduceEq] at this; rw [this]; exact leaf_rep _ _ ⟨by omega, by omega, by omega, Nat.zero_le _, by simp, by simp, by simp⟩⟩, (SN _ _ _ _ _ _).out.2⟩
    · have hnn : (n == 0) = false := by simp [n0]
      go_wp2
      (try simp only [Exit.inBlock, Exit.then]); refine bodyPost_ret (res6 Try.results19 rfl (SN (.int .i64 1) (.int .i64 1) (.float .f64 0) (.string ⟨#[]⟩) (.slice none 0 0) (.slice none 0 0)).out.1) rfl ?_
      exact ⟨_, rfl, ⟨_, rfl, by have := HC.out; simp only [reduceIte, Int.reduceEq, n0] at this; rw [this]; exact leaf_rep _ _ ⟨by omega, by omega, by omega, Nat.zero_le _, by simp, by simp, by simp⟩⟩, (SN _ _ _ _ _ _).out.2⟩
  by_cases k2 : kind = 2
  · subst k2
    go_wp2
    (try simp only [Exit.inBlock, Exit.then]); refine bodyPost_ret (res6 Try.results19 rfl (SN (.int .i64 2) (.int .i64 n) (.float .f64 0) (.string ⟨#[]⟩) (.slice none 0 0) (.slice none 0 0)).out.1) rfl ?_
    exact ⟨_, rfl, ⟨_, rfl, by have := HC.out; simp only [reduceIte, Int.reduceEq] at this; rw [this]; exact leaf_rep _ _ ⟨by omega, by omega, by omega, Nat.zero_le _, by simp, by simp, by simp⟩⟩, (SN _ _ _ _ _ _).out.2⟩
  by_cases k3 : kind = 3
  · subst k3
    go_wp2
    (try simp only [Exit.inBlock, Exit.then]); refine bodyPost_ret (res6 Try.results19 rfl (SN (.int .i64 3) (.int .i64 0) (.float .f64 f) (.string ⟨#[]⟩) (.slice none 0 0) (.slice none 0 0)).out.1) rfl ?_
    exact ⟨_, rfl, ⟨_, rfl, by have := HC.out; simp only [reduceIte, Int.reduceEq] at this; rw [this]; exact leaf_rep _ _ ⟨by omega, by omega, by omega, Nat.zero_le _, by simp, by simp, by simp⟩⟩, (SN _ _ _ _ _ _).out.2⟩
  by_cases k4 : kind = 4
  · subst k4
    go_wp2
    (try simp only [Exit.inBlock, Exit.then]); refine bodyPost_ret (res6 Try.results19 rfl (SN (.int .i64 4) (.int .i64 0) (.float .f64 0) (.string s) (.slice none 0 0) (.slice none 0 0)).out.1) rfl ?_
    exact ⟨_, rfl, ⟨_, rfl, by have := HC.out; simp only [reduceIte, Int.reduceEq] at this; rw [this]; exact leaf_rep _ _ ⟨by omega, by omega, by omega, by omega, by simp, by simp, by simp⟩⟩, (SN _ _ _ _ _ _).out.2⟩
  have b1 : (kind == 1) = false := by simp [k1]
  have b2 : (kind == 2) = false := by simp [k2]
  have b3 : (kind == 3) = false := by simp [k3]
  have b4 : (kind == 4) = false := by simp [k4]
  have b5 : (kind == 5) = false := by simp [k5]
  have b6 : (kind == 6) = false := by simp [k6]
  go_wp2
  (try simp only [Exit.inBlock, Exit.then]); refine bodyPost_ret (res6 Try.results19 rfl (SN (.int .i64 0) (.int .i64 0) (.float .f64 0) (.string ⟨#[]⟩) (.slice none 0 0) (.slice none 0 0)).out.1) rfl ?_
  exact ⟨_, rfl, ⟨_, rfl, by have := HC.out; rw [if_neg k1, if_neg k2, if_neg k3, if_neg k4, if_neg k5, if_neg k6] at this; rw [this]; exact leaf_rep _ _ ⟨by omega, by omega, by omega, Nat.zero_le _, by simp, by simp, by simp⟩⟩, (SN _ _ _ _ _ _).out.2⟩
end Go.Smd
end
section
set_option linter.unusedSimpArgs false
namespace Go.Smd
open Go.RowKit Go.Proofs
theorem okInt64 {n : Int} (h : -9223372036854775808 ≤ n ∧ n ≤ 9223372036854775807) : okVb (.int .i64 n) = true := by simp [okVb, okInt, h]
theorem strs_rep {S : Nat → Prop} {w : World} {A : Option Addr} {c : Nat} {ss : List ByteArray} (h : RepStrs S w A ss) (hc : ss.length ≤ c) (hb : ss.length * 16 ≤ 140737488351232) (hs : ∀ s ∈ ss, s.size ≤ 140737488351232) :
    RepD Try.prog w S (dStrs ss) (.slice A ss.length c) := by
  refine RepD.sl_iff.2 ⟨A, c, by simp [rowS], by simpa [rowS] using hc, by simpa [rowS] using hb, fun j r hj => ?_⟩
  rw [rowS, List.getElem?_map] at hj
  obtain ⟨s, hs', rfl⟩ := Option.map_eq_some_iff.1 hj
  refine ⟨by simp, fun _ => ?_⟩
  obtain ⟨ad, cs, ha, hS, hr, _, hcs⟩ := h j s hs'
  cases hr
  refine ⟨ad, ha, fun i d hi => ?_⟩
  match i, hi with
  | 0, hi =>
    simp at hi; subst hi
    exact ⟨_, by rw [add_block]; exact hS, by simpa using hcs 0 _ rfl, .v (by simpa [okVb] using hs s (List.mem_of_getElem? hs'))⟩
theorem repGV_rep : ∀ {g : GV} {S : Nat → Prop} {w : World} {cs : List Value}, RepGV S w g cs → All2 (RepD Try.prog w S) (gvD g) cs := by
  intro g
  induction g using GV.ind with
  | h kind n f s keys l IH =>
  intro S w cs h
  obtain ⟨ka, kc, la, lc, rfl, ok, hkc, hlc, hks, hls⟩ := h.open
  rw [gvD_mk]
  refine .cons (.v (okInt64 ok.okKind)) (.cons (.v (okInt64 ok.okN)) (.cons (.v (by simpa [okVb] using ok.okF)) (.cons (.v (by simpa [okVb] using ok.okS)) (.cons (strs_rep hks hkc ok.okKeys ok.okEach) (.cons ?_ .nil)))))
  refine (RepD.sl_iff (E := 26) (xs := l.map gvD)).2 ⟨la, lc, by simp, by simpa using hlc, by simpa using ok.okL, fun j r hj => ?_⟩
  rw [List.getElem?_map] at hj
  obtain ⟨x, hx, rfl⟩ := Option.map_eq_some_iff.1 hj
  refine ⟨by simp, fun _ => ?_⟩
  obtain ⟨ad, cs, ha, hS, hr, _, hcs⟩ := hls j x hx
  have := IH x (List.mem_of_getElem? hx) hr
  refine ⟨ad, ha, fun i d hi => ?_⟩
  obtain ⟨u, hu, hd⟩ := this.at hi
  exact ⟨u, by rw [add_block]; exact hS, by simpa using hcs i u hu, hd⟩
theorem cls_all2 {S : Nat → Prop} {β : Nat → Value} {h : Nat → Option Ow} {w : World} {xs : List D} {us : List Value} : All2 (RepC Try.prog S β h w) (cls xs) us ↔ All2 (RepD Try.prog w S) xs us := by
  constructor
  · intro k
    induction xs generalizing us with
    | nil => cases k; exact .nil
    | cons x xs ih => cases k with | cons k t => exact .cons k (ih t)
  · intro k
    induction k with
    | nil => exact .nil
    | cons k t ih => exact .cons k ih
theorem rep_strs {S : Nat → Prop} {w : World} {ss : List ByteArray} {v : Value} (h : RepD Try.prog w S (dStrs ss) v) : ∃ A c, v = .slice A ss.length c ∧ ss.length ≤ c ∧ ss.length * 16 ≤ 140737488351232 ∧ RepStrs S w A ss ∧ ∀ s ∈ ss, s.size ≤ 140737488351232 := by
  have hk := strs_ok ⟨w, S, v, h⟩
  obtain ⟨A, c, rfl, hc, _, hr⟩ := RepD.sl_iff.1 h
  simp only [rowS, List.length_map] at *
  refine ⟨A, c, rfl, hc, hk.1, fun j s hj => ?_, hk.2⟩
  obtain ⟨ad, ha, hrow⟩ := (hr j [dS s] (by simp [hj])).2 (by simp)
  obtain ⟨u, hS, hcell, hd⟩ := hrow 0 (dS s) rfl
  cases hd
  rw [add_block] at hS
  refine ⟨ad, [.string s], ha, hS, rfl, rfl, fun i u hu => ?_⟩
  match i, hu with
  | 0, hu => simp at hu; subst hu; simpa using hcell
set_option maxRecDepth 20000 in
theorem rep_repGV : ∀ {g : GV} {S : Nat → Prop} {w : World} {cs : List Value}, All2 (RepD Try.prog w S) (gvD g) cs → RepGV S w g cs := by
  intro g
  induction g using GV.ind with
  | h kind n f s keys l IH =>
  intro S w cs h
  have hok := gv_ok (kind := kind) (n := n) (f := f) (s := s) (keys := keys) (l := l) ⟨w, S, .agg cs.toArray, cs, rfl, cls_all2.2 h⟩
  rw [gvD_mk] at h
  obtain ⟨c0, _, rfl, h0, h⟩ := h.inv
  obtain ⟨c1, _, rfl, h1, h⟩ := h.inv
  obtain ⟨c2, _, rfl, h2, h⟩ := h.inv
  obtain ⟨c3, _, rfl, h3, h⟩ := h.inv
  obtain ⟨c4, _, rfl, h4, h⟩ := h.inv
  obtain ⟨c5, _, rfl, h5, h⟩ := h.inv
  cases h.inv0
  cases h0; cases h1; cases h2; cases h3
  obtain ⟨ka, kc, rfl, hkc, _, hks, _⟩ := rep_strs h4
  obtain ⟨la, lc, rfl, hlc, _, hr⟩ := (RepD.sl_iff (E := 26) (xs := l.map gvD)).1 h5
  rw [List.length_map] at hlc ⊢
  refine RepGV.close ⟨hok.hkind, hok.hn, hok.hf, hok.hs, hok.hkeys, hok.hkey, hok.hl⟩ hkc hlc hks fun j x hj => ?_
  obtain ⟨ad, ha, hrow⟩ := (hr j (gvD x) (by simp [hj])).2 (by simp)
  have key : ∃ us : List Value, All2 (RepD Try.prog w S) (gvD x) us ∧ (∀ i u, us[i]? = some u → w.cell? ((ad.add (j * 6)).add i) = some u) ∧ S ad.block := by
    refine ⟨(List.range 6).map fun i => (w.cell? ((ad.add (j * 6)).add i)).getD undef, All2.of (by simp) fun i d u hi hu => ?_, fun i u hu => ?_, ?_⟩
    · obtain ⟨u', _, hc, hd⟩ := hrow i d hi
      rw [List.getElem?_map] at hu
      obtain ⟨i', hi', rfl⟩ := Option.map_eq_some_iff.1 hu
      obtain ⟨hlt, rfl⟩ := List.getElem?_eq_some_iff.1 hi'
      simp only [cells_26] at hc
      simp only [List.getElem_range, hc, Option.getD_some]; exact hd
    · rw [List.getElem?_map] at hu
      obtain ⟨i', hi', rfl⟩ := Option.map_eq_some_iff.1 hu
      obtain ⟨hlt, rfl⟩ := List.getElem?_eq_some_iff.1 hi'
      simp only [List.length_range] at hlt
      have hlt' : i < (gvD x).length := by rw [gvD_length]; exact hlt
      obtain ⟨u', _, hc, _⟩ := hrow i ((gvD x)[i]'hlt') (List.getElem?_eq_getElem hlt')
      simp only [cells_26] at hc
      simp only [List.getElem_range, hc, Option.getD_some]
    · have hlt' : 0 < (gvD x).length := by rw [gvD_length]; decide
      obtain ⟨u', hS, _, _⟩ := hrow 0 ((gvD x)[0]'hlt') (List.getElem?_eq_getElem hlt')
      rwa [add_block] at hS
  obtain ⟨us, h1, h2, h3⟩ := key
  have := IH x (List.mem_of_getElem? hj) h1
  exact ⟨ad, us, ha, h3, this, this.length, fun i u hu => h2 i u hu⟩
theorem gvA_iff {S : Nat → Prop} {β : Nat → Value} {h : Nat → Option Ow} {w : World} {g : GV} {v : Value} : RepA Try.prog S β h w (gvA g) v ↔ ∃ cs, v = .agg (List.toArray cs) ∧ RepGV S w g cs :=
  ⟨fun ⟨us, h1, h2⟩ => ⟨us, h1, rep_repGV (cls_all2.1 h2)⟩, fun ⟨us, h1, h2⟩ => ⟨us, h1, cls_all2.2 (repGV_rep h2)⟩⟩
theorem law_walk {f : FuncId} {args : List Av} (h : ACalls Try.prog f args (fun r => r = aV (.bool true))) {W : World} {vs : List Value} (ha : All2 (RepA Try.prog (fun _ => True) noB noH W) args vs) : Calls Try.prog f vs.toArray W (Makes (fun _ u => u = .bool true) W) := by
  refine (h.2 W (· < W.heap.size) vs (fun _ h => h) (ha.imp fun x v _ r => r.imp r.noH fun d u k => k.lt.mono fun b hb => hb.2)).mono ?_
  rintro e w' ⟨v, r, rfl, rfl, hr, hE⟩
  obtain ⟨rfl, _⟩ := rep_v hr
  exact ⟨_, rfl, rfl, hE⟩
theorem clean_a (g : GV) : ACalls Try.prog 19 [gvA g] (fun r => r = gvA (clean g)) := by
  refine ⟨⟨_, Try.func19, by kernel_rfl, rfl⟩, fun w S vs hS ha => ?_⟩
  cases ha with
  | cons h t =>
  cases t
  obtain ⟨cs, rfl, hg⟩ := gvA_iff.1 h
  refine (clean_c g cs w S hg).mono ?_
  rintro e w' ⟨v, rfl, ⟨cs', rfl, hr⟩, hE⟩
  exact ⟨_, _, rfl, rfl, gvA_iff.2 ⟨cs', rfl, hr.mono fun b hb => .inr hb⟩, hE⟩
end Go.Smd
end
section
set_option linter.unusedSimpArgs false
namespace Go.Smd
open Go.RowKit Go.Proofs
mutual
def orderly : GV → Bool
  | .mk kind n f _ _ l => if kind = 2 then decide (-9007199254740992 ≤ n) && decide (n ≤ 9007199254740992) else if kind = 3 then FloatKind.f64.format.order f f == some .eq else if kind = 5 ∨ kind = 6 then orderlys l else true
def orderlys : List GV → Bool
  | [] => true
  | x :: l => orderly x && orderlys l
end
theorem orderlys_eq : ∀ l, orderlys l = l.all orderly
  | [] => by simp [orderlys]
  | x :: l => by simp [orderlys, orderlys_eq l]
set_option maxRecDepth 20000 in
set_option maxHeartbeats 400000 in
theorem orderly_a (g : GV) : ACalls Try.prog 52 [gvA g] (fun r => r = aV (.bool (orderly g))) := by
  induction g using GV.ind with
  | h kind n f s keys l IH =>
  refine acalls_ex [] Try.func52 (by kernel_rfl) rfl Try.ntmps52 Try.results52 (Nat.le_of_ble_eq_true (by kernel_rfl)) ?_; intro hok w0 S0
  have hk := gv_ok (hok _ (List.mem_singleton_self _))
  have hl := hk.hl
  have hl2 : l.length ≤ 9223372036854775807 := by omega
  simp only [gvA, gvD_mk, cls_cons, cls_nil]
  clear hok hk hl
  (repeat' (first
                                                            | (with_reducible refine br_d (fun _ => ?_) (fun _ => ?_))
                                                            | (with_reducible refine br_i (fun _ => ?_) (fun _ => ?_))
                                                            | ((with_reducible apply nd_next); (case hx => simp -dsimp [hl2]; first | done | with_reducible rfl); (case hid => simp -dsimp [hl2]; first | done | with_reducible rfl | exact ⟨rfl, rfl, rfl⟩ | exact ⟨rfl, rfl⟩); (case' h1 => intro _ _ _); (case' h0 => intro _))
                                                            | ((with_reducible apply nd_entry); (case hx => simp -dsimp [hl2]; first | done | with_reducible rfl); (case hid => simp -dsimp [hl2]; first | done | with_reducible rfl | exact ⟨rfl, rfl, rfl⟩ | exact ⟨rfl, rfl⟩))
                                                            | ((with_reducible apply nd_range); (case hx => simp -dsimp [hl2]; with_reducible rfl); (case hT => simp -dsimp [hl2]); (case hnd => assumption); (case hz => simp -dsimp [hl2]))
                                                            | (with_reducible refine dn_i follows_any (by kernel_rfl) ?_)
                                                            | (with_reducible exact done_eq rfl)
                                                            | (simp -dsimp [hl2]))); (all_goals try with_reducible refine done_eq ?_)
  all_goals first
    | (simp_all [orderly]; done)
    | (simp_all [orderly]; omega)
    | skip
  all_goals
    have H : orderly (.mk kind n f s keys l) = l.all orderly := by simp_all [orderly, orderlys_eq]
    rw [H]
    clear H
    refine ex_loop (fun i : Nat => ⟨[(28, .c (.d (dGVs l))), (29, aV (.int .i64 l.length)), (30, aV (.int .i64 i))], []⟩) (fun i => i ≤ l.length ∧ ∀ (j : Nat) (h : j < l.length), j < i → orderly l[j] = true) (fun i => l.length - i) 0 ?_ ⟨Nat.zero_le _, fun j x h => by omega⟩ ?_
    · exact Weak.same (by simp -dsimp) (by simp -dsimp) (by first | rfl | (simp [closedSt, Av.ids, Ow.ids, Cl.ids, Go.Smd.keys]; done))
    · rintro i ⟨hi, hall⟩ K hK
      by_cases hlt : i < l.length
      · have hw : IntKind.wrap .i64 ((i : Int) + 1) = ((i + 1 : Nat) : Int) := by rw [wrap_i64] <;> omega
        (repeat' (first
                                                            | (with_reducible refine br_d (fun _ => ?_) (fun _ => ?_))
                                                            | (with_reducible refine br_i (fun _ => ?_) (fun _ => ?_))
                                                            | (with_reducible refine nd_v (IH l[i] (List.getElem_mem hlt)) (by first | rfl | (simp -dsimp [hl2, hlt, hw]; done)) ?_)
                                                            | (with_reducible refine nw_v (IH l[i] (List.getElem_mem hlt)) rfl (by first | rfl | (simp -dsimp [hl2, hlt, hw]; done)) (by first | rfl | (simp -dsimp [hl2, hlt, hw]; done)) ?_)
                                                            | ((with_reducible apply nd_next); (case hx => simp -dsimp [hl2, hlt, hw]; first | done | with_reducible rfl); (case hid => simp -dsimp [hl2, hlt, hw]; first | done | with_reducible rfl | exact ⟨rfl, rfl, rfl⟩ | exact ⟨rfl, rfl⟩); (case' h1 => intro _ _ _); (case' h0 => intro _))
                                                            | ((with_reducible apply nd_entry); (case hx => simp -dsimp [hl2, hlt, hw]; first | done | with_reducible rfl); (case hid => simp -dsimp [hl2, hlt, hw]; first | done | with_reducible rfl | exact ⟨rfl, rfl, rfl⟩ | exact ⟨rfl, rfl⟩))
                                                            | ((with_reducible apply nd_range); (case hx => simp -dsimp [hl2, hlt, hw]; with_reducible rfl); (case hT => simp -dsimp [hl2, hlt, hw]); (case hnd => assumption); (case hz => simp -dsimp [hl2, hlt, hw]))
                                                            | (with_reducible refine dn_i follows_any (by kernel_rfl) ?_)
                                                            | (with_reducible exact done_eq rfl)
                                                            | (simp -dsimp [hl2, hlt, hw]))); (all_goals try with_reducible refine done_eq ?_)
        · rename_i hn
          have : l.all orderly = false := List.all_eq_false.2 ⟨l[i], List.getElem_mem hlt, by simpa using hn⟩
          rw [this]
        · rename_i hn
          refine hK _ (i + 1) ?_ ⟨by omega, fun j h hj => ?_⟩ (by omega)
          · exact Weak.same (by simp -dsimp) (by simp -dsimp) (by first | rfl | (simp [closedSt, Av.ids, Ow.ids, Cl.ids, Go.Smd.keys]; done))
          · by_cases e : j = i
            · subst e; simpa using hn
            · exact hall j h (by omega)
      · (repeat' (first
                                                            | (with_reducible refine br_d (fun _ => ?_) (fun _ => ?_))
                                                            | (with_reducible refine br_i (fun _ => ?_) (fun _ => ?_))
                                                            | ((with_reducible apply nd_next); (case hx => simp -dsimp [hl2, hlt]; first | done | with_reducible rfl); (case hid => simp -dsimp [hl2, hlt]; first | done | with_reducible rfl | exact ⟨rfl, rfl, rfl⟩ | exact ⟨rfl, rfl⟩); (case' h1 => intro _ _ _); (case' h0 => intro _))
                                                            | ((with_reducible apply nd_entry); (case hx => simp -dsimp [hl2, hlt]; first | done | with_reducible rfl); (case hid => simp -dsimp [hl2, hlt]; first | done | with_reducible rfl | exact ⟨rfl, rfl, rfl⟩ | exact ⟨rfl, rfl⟩))
                                                            | ((with_reducible apply nd_range); (case hx => simp -dsimp [hl2, hlt]; with_reducible rfl); (case hT => simp -dsimp [hl2, hlt]); (case hnd => assumption); (case hz => simp -dsimp [hl2, hlt]))
                                                            | (with_reducible refine dn_i follows_any (by kernel_rfl) ?_)
                                                            | (with_reducible exact done_eq rfl)
                                                            | (simp -dsimp [hl2, hlt]))); (all_goals try with_reducible refine done_eq ?_)
        have : l.all orderly = true := List.all_eq_true.2 fun x hx => by
          obtain ⟨j, hj, rfl⟩ := List.getElem_of_mem hx
          exact hall j hj (by omega)
        rw [this]
end Go.Smd
end
