/- Part 14 of the proof: Ak Ms Ar Mt Va. -/
import Derived.Test.YtphldfnnjoehpaaGreatQC09
import Derived.Test.YtphldfnnjoehpaaGreatQC08
import Derived.Test.YtphldfnnjoehpaaGreatQC07
import Derived.Test.YtphldfnnjoehpaaGreatQC12
import Derived.Test.YtphldfnnjoehpaaGreatQC13
import Derived.Test.YtphldfnnjoehpaaGreatQC11
import Derived.Test.YtphldfnnjoehpaaGreatQC10
set_option linter.unusedVariables false
section
set_option linter.unusedSimpArgs false
namespace Go.Smd
open Go.RowKit Go.Proofs
theorem follows_any : Tryz.prog.follows .mixedOrders = true := by kernel_rfl
abbrev dI (n : Int) : D := .v (.int .i64 n)
abbrev dS (s : ByteArray) : D := .v (.string s)
abbrev dF (n : Nat) : D := .v (.float .f64 n)
def rowS (l : List ByteArray) : List (List D) := l.map fun s => [dS s]
abbrev dStrs (l : List ByteArray) : D := .sl 9 (rowS l)
mutual
def gvD : GV → List D
  | .mk kind n f s keys l => [dI kind, dI n, dF f, dS s, dStrs keys, .sl 37 (gvDs l)]
def gvDs : List GV → List (List D)
  | [] => []
  | x :: l => gvD x :: gvDs l
end
theorem gvDs_eq : ∀ l, gvDs l = l.map gvD
  | [] => by simp [gvDs]
  | x :: l => by simp [gvDs, gvDs_eq l]
def cls (xs : List D) : List Cl := xs.map .d
abbrev gvA (g : GV) : Av := .agg (cls (gvD g))
abbrev dGVs (l : List GV) : D := .sl 37 (l.map gvD)
theorem gvD_mk (kind n : Int) (f : Nat) (s : ByteArray) (keys : List ByteArray) (l : List GV) : gvD (.mk kind n f s keys l) = [dI kind, dI n, dF f, dS s, dStrs keys, dGVs l] := by
  rw [gvD, gvDs_eq]
@[simp] theorem gvD_length (g : GV) : (gvD g).length = 6 := by cases g; rw [gvD_mk]; rfl
@[simp] theorem gvD_take (g : GV) : (gvD g).take 6 = gvD g := List.take_of_length_le (by simp)
@[simp] theorem cls_cons (x : D) (xs : List D) : cls (x :: xs) = .d x :: cls xs := rfl
@[simp] theorem cls_nil : cls [] = [] := rfl
@[simp] theorem cls_length (xs : List D) : (cls xs).length = xs.length := by simp [cls]
@[simp] theorem cls_take (g : GV) : (cls (gvD g)).take 6 = cls (gvD g) := List.take_of_length_le (by simp)
theorem cls_fold (xs : List D) : List.map Cl.d xs = cls xs := rfl
@[simp] theorem cls_all (xs : List D) : (cls xs).all Cl.isD = true := by simp [cls, Cl.isD]
@[simp] theorem toDs_cls : ∀ xs : List D, toDs (cls xs) = some xs
  | [] => rfl
  | x :: xs => by
    have := toDs_cls xs
    show (toDs (cls xs)).map (x :: ·) = _
    rw [this]; rfl
@[simp] theorem splice_all {α : Type} (xs ys : List α) (h : ys.length = xs.length) : splice xs 0 ys = ys := by simp [splice, h]
@[simp] theorem splice_c0 {α : Type} (x y : α) (xs ys : List α) : splice (x :: xs) 0 (y :: ys) = y :: splice xs 0 ys := by simp [splice]
@[simp] theorem splice_n0 {α : Type} (xs : List α) : splice xs 0 [] = xs := by simp [splice]
@[simp] theorem splice_cs {α : Type} (x : α) (xs ys : List α) (n : Nat) : splice (x :: xs) (n + 1) ys = x :: splice xs n ys := by
  simp only [splice, List.take_succ_cons, List.cons_append]
  rw [show n + 1 + ys.length = (n + ys.length) + 1 by omega, List.drop_succ_cons]
@[simp] theorem ids_cls (xs : List D) : (cls xs).flatMap Cl.ids = [] := by
  induction xs with
  | nil => rfl
  | cons x xs ih => simp only [cls_cons, List.flatMap_cons, ih, Cl.ids, List.append_nil]
@[simp] theorem rowS_at' (l : List ByteArray) (i : Nat) (h : i < (rowS l).length) : (rowS l)[i] = [dS (l[i]'(by simpa [rowS] using h))] := by simp [rowS]
@[simp] theorem rowS_length (l : List ByteArray) : (rowS l).length = l.length := by simp [rowS]
@[simp] theorem frz_cls (F : List Nat) (h : Nat → Option Ow) (xs : List D) : (cls xs).map (frzC Tryz.prog F h) = cls xs := by
  induction xs with
  | nil => rfl
  | cons x xs ih => simp only [cls_cons, List.map_cons, ih, frzC, frzN, frzG]
@[simp] theorem deep_cls (h : Nat → Option Ow) (xs : List D) : (cls xs).flatMap (Cl.deep h) = [] := by
  induction xs with
  | nil => rfl
  | cons x xs ih => simp only [cls_cons, List.flatMap_cons, ih, Cl.deep, Cl.deepN, List.append_nil]
@[simp] theorem coL_gv (g : GV) : coL [none, none, none, none, some 9, some 37] (cls (gvD g)) = cls (gvD g) := by cases g; rw [gvD_mk]; rfl
structure GVk (kind n : Int) (f : Nat) (s : ByteArray) (keys : List ByteArray) (l : List GV) : Prop where
  hkind : -9223372036854775808 ≤ kind ∧ kind ≤ 9223372036854775807
  hn : -9223372036854775808 ≤ n ∧ n ≤ 9223372036854775807
  hf : f < 18446744073709551616
  hs : s.size ≤ 140737488351232
  hkeys : keys.length * 16 ≤ 140737488351232
  hkey : ∀ k ∈ keys, k.size ≤ 140737488351232
  hl : l.length * 88 ≤ 140737488351232
  hitem : ∀ x ∈ l, okA Tryz.prog (gvA x)
theorem okA_of {xs : List D} (h : ∀ d ∈ xs, okD Tryz.prog d) (w : World) (S : Nat → Prop) (k : ∃ us, All2 (RepD Tryz.prog w S) xs us) : okA Tryz.prog (.agg (cls xs)) := by
  obtain ⟨us, ha⟩ := k
  refine ⟨w, S, .agg us.toArray, us, rfl, ?_⟩
  clear h
  induction ha with
  | nil => exact .nil
  | cons h t ih => exact .cons h ih
theorem okA_pt {xs : List D} (h : okD Tryz.prog (.pt xs)) : okA Tryz.prog (.agg (cls xs)) := by
  obtain ⟨w, S, v, h⟩ := h
  obtain ⟨ad, rfl, hr⟩ := RepD.pt_iff.1 h
  refine okA_of (fun d hd => okD_pt ⟨w, S, _, h⟩ d hd) w S ⟨(List.range xs.length).map fun i => (w.cell? (ad.add i)).getD undef, All2.of (by simp) fun i d u hi hu => ?_⟩
  obtain ⟨u', _, hc, hr⟩ := hr i d hi
  rw [List.getElem?_map] at hu
  obtain ⟨i', hi', rfl⟩ := Option.map_eq_some_iff.1 hu
  obtain ⟨hlt, rfl⟩ := List.getElem?_eq_some_iff.1 hi'
  simp only [List.getElem_range, hc, Option.getD_some]; exact hr
theorem okD_row {E : TypeId} {xs : List (List D)} (h : okD Tryz.prog (.sl E xs)) {r : List D} (hr : r ∈ xs) : okA Tryz.prog (.agg (cls r)) := by
  obtain ⟨w, S, v, h⟩ := h
  obtain ⟨A, c, rfl, _, hb, hrow⟩ := RepD.sl_iff.1 h
  obtain ⟨j, hj⟩ := List.getElem?_of_mem hr
  by_cases h0 : 0 < Tryz.prog.cellsOf E
  · obtain ⟨ad, _, hq⟩ := (hrow j r hj).2 h0
    exact okA_pt ⟨w, S, _, RepD.pt_iff.2 ⟨_, rfl, hq⟩⟩
  · have h1 := (hrow j r hj).1
    have : r = [] := List.eq_nil_of_length_eq_zero (by omega)
    subst this
    exact ⟨w, S, .agg #[], [], rfl, .nil⟩
theorem strs_ok {l : List ByteArray} (h : okD Tryz.prog (dStrs l)) : l.length * 16 ≤ 140737488351232 ∧ ∀ k ∈ l, k.size ≤ 140737488351232 := by
  obtain ⟨h1, h2⟩ := okD_sl h
  simp at h1
  exact ⟨h1, fun k hk => okD_str ((h2 [dS k] (List.mem_map.2 ⟨k, hk, rfl⟩)).2 _ (List.mem_singleton_self _))⟩
theorem gvs_ok {l : List GV} (h : okD Tryz.prog (dGVs l)) : l.length * 88 ≤ 140737488351232 ∧ ∀ x ∈ l, okA Tryz.prog (gvA x) := by
  obtain ⟨h1, h2⟩ := okD_sl h
  simp at h1
  exact ⟨h1, fun x hx => okD_row h (List.mem_map.2 ⟨x, hx, rfl⟩)⟩
theorem gv_ok {kind n : Int} {f : Nat} {s : ByteArray} {keys : List ByteArray} {l : List GV} (h : okA Tryz.prog (gvA (.mk kind n f s keys l))) : GVk kind n f s keys l := by
  have h1 := okA_agg h
  rw [gvD_mk] at h1
  have h2 : ∀ d ∈ [dI kind, dI n, dF f, dS s, dStrs keys, dGVs l], okD Tryz.prog d := fun d hd => h1 (.d d) (List.mem_map.2 ⟨d, hd, rfl⟩) d rfl
  have a1 := strs_ok (h2 (dStrs keys) (by simp))
  have a2 := gvs_ok (h2 (dGVs l) (by simp))
  refine ⟨okD_i64 (h2 _ (by simp)), okD_i64 (h2 (dI n) (by simp)), ?_, okD_str (h2 (dS s) (by simp)), a1.1, a1.2, a2.1, a2.2⟩
  have := okD_v (h2 (dF f) (by simp))
  simpa [okVb] using this
end Go.Smd
end
section
set_option linter.unusedSimpArgs false
namespace Go.Smd
open Go.RowKit
section
variable {P : Program} {N : Nat} {tl : List (Nat × Av)} {hl : List (Nat × Ow)} {σ : St}
theorem dst_mk {d : Option Tmp} {op : Op} {ty : TypeId} {pos : String} {af : Array Edge} {g : Option (Nat × Bool)} : Oper.dst ⟨d, op, ty, pos, af, g⟩ = d := _root_.id rfl
theorem op_mk {d : Option Tmp} {op : Op} {ty : TypeId} {pos : String} {af : Array Edge} {g : Option (Nat × Bool)} : Oper.op ⟨d, op, ty, pos, af, g⟩ = op := _root_.id rfl
theorem guard_mk {d : Option Tmp} {op : Op} {ty : TypeId} {pos : String} {af : Array Edge} {g : Option (Nat × Bool)} : Oper.guard ⟨d, op, ty, pos, af, g⟩ = g := _root_.id rfl
theorem give_nil : σ.give P [] = σ := _root_.id rfl
theorem give_cons {i : Nat} {F : List Nat} : (St.mk tl hl).give P (i :: F) = ⟨mapV (frzA P (i :: F) (look hl)) tl, mapV (frzO P (i :: F) (look hl)) (filK (fun j => !(i :: F).contains j) hl)⟩ := _root_.id rfl
theorem BkR_of {d : Option Tmp} {K : St → Prop} {t : Tg (σ, d, K)} {r : Av} {own' : List (Nat × Ow)} : BkR σ d K t r own' = Must (backOk σ (inR σ.own) (d.getD 0) own') (K ((σ.back (inR σ.own) (d.getD 0) own').put d ((r.ren (renI (inR σ.own) (d.getD 0))).fix (look (backH σ (inR σ.own) (d.getD 0) own'))))) () := _root_.id rfl
theorem own_mk : St.own ⟨tl, hl⟩ = hl := _root_.id rfl
theorem tmps_mk : St.tmps ⟨tl, hl⟩ = tl := _root_.id rfl
theorem back_mk {ρ : List (Nat × Nat)} {t : Nat} {own' : List (Nat × Ow)} : (St.mk tl hl).back ρ t own' = ⟨mapV (Av.fix (look (mapKV (renI ρ t) (Ow.ren (renI ρ t)) own' ++ filK (fun i => !(ρ.map (·.2)).contains i) hl))) (dedupK tl), mapV (Ow.fix (look (mapKV (renI ρ t) (Ow.ren (renI ρ t)) own' ++ filK (fun i => !(ρ.map (·.2)).contains i) hl))) (mapKV (renI ρ t) (Ow.ren (renI ρ t)) own' ++ filK (fun i => !(ρ.map (·.2)).contains i) hl)⟩ := _root_.id rfl
theorem backH_mk {ρ : List (Nat × Nat)} {t : Nat} {own' : List (Nat × Ow)} : backH (St.mk tl hl) ρ t own' = mapKV (renI ρ t) (Ow.ren (renI ρ t)) own' ++ filK (fun i => !(ρ.map (·.2)).contains i) hl := _root_.id rfl
theorem backOk_mk {ρ : List (Nat × Nat)} {t : Nat} {own' : List (Nat × Ow)} : backOk (St.mk tl hl) ρ t own' = keysO own' fun k _ => hasKey ρ k || (!hasKey hl (renI ρ t k) && decide (renI ρ t k < zed) && decide (k < zed)) := _root_.id rfl
end
attribute [simp] zed litA newArr makeA app1 appA appCall baseA rowA minA intsA reps chunk capArgs invokeA isIfc nilIfc nilIs isNilT isConst binA_nil binA_trn binA_ifn binA_ion mapLen lookA assertA assertD okTup newClo funcV funcA capsA trD loadA fieldAddrA partA storeA newCells cellsA indexAddrA indexA lenA extractA sliceA boundA buildA fillA placeS makeIfcA binA_lss binA_gtr binA_leq binA_geq binA_eql binA_neq binA_add binA_sub binA_beq binA_bne binA_seq binA_sne binA_slt binA_sgt binA_feq binA_flt binA_fgt unop_not okVb okInt startL
attribute [simp ↓] tmpL_nil tmpL_eq tmpL_ne tmp_tmpL look_nil look_eq look_ne h_mk put_some put_none new_mk ev_tmp ev_func ev_bool ev_nilIface ev_nilPtr ev_nilFunc ev_nilSlice ev_nilMap dst_mk op_mk guard_mk own_mk tmps_mk
attribute [simp] ev_const
attribute [simp ↓] vv_move vv_assign vv_pick vv_unOp vv_binOp vv_convert vv_fieldAddr vv_load vv_indexAddr vv_index vv_extract vv_nilCheck vv_typeAssert vv_makeFunc vv_lookup vv_makeInterface vv_build vv_slice vv_call len_value len_invoke len_len len_min len_append vv_alloc vv_box vv_store vv_buildSlice vv_makeSlice vv_range vv_next vv_entry vv_defer
attribute [simp] pick_b un_v conv_v chk_own chk_pt chk_io chk_ifc
attribute [simp] resW_some resW_none callF_some callF_none argsC_nil0 argsC_none argsC_cons
attribute [simp ↓] ws_of ws_alloc ws_box ws_store ws_buildSlice ws_makeSlice ws_append ws_callv ws_calli ws_makeFunc ws_range ws_next ws_entry ws_defer clo_call clo_range clo_next clo_entry clo_defer clo_make co_of ce_func ce_tmp ce_invoke ce_range ce_next ce_entry ce_defer
attribute [simp] gd_b gd_tup gdD_some
attribute [simp ↓] gd_none gd_some nth_zero nth_succ dst_ok dst_none ex_nil ex_lp ex_blk ex_ops_nil ex_ops ex_drw_nil ex_drw ex_seq ex_skip ex_label ex_block ex_ret ex_cond ex_region ex_drawn ex_exit unw_blk unw_ne unw_code unw_ops unw_lp FinX_n FinX_r FinPX_n FinPX_r BkX_n BkX_r
attribute [simp] cls_fold fix1_mk Fx_of eqS_some asX exD_some BkR_of
attribute [simp ↓] gs_nil gs_none gs_some
attribute [simp] Sel_true Sel_false Kv_true Kv_false
attribute [simp 900] Kv_b
attribute [simp 800] Kv_any
attribute [simp] Br_true Br_false Ob_some Ov_some Ov_none Tst_b Must_true
attribute [simp] frzA frzC frzN frzG frzO toDs Av.deep Cl.deep Cl.deepN argC coL coC noT Av.isD Cl.isD resAll resOne toParts toPart resA dedupK gaOk gaFree isApp isW isA plainCall give_nil give_cons mapV mapKV filK
attribute [simp] inOk inK inR mapR keysO hasKey Av.ren Ow.ren Cl.ren Av.ids Ow.ids Cl.ids Av.fix Ow.fix Cl.fix renI backOk_mk backH_mk back_mk handOk nodupB handed Cl.plain Av.plain
end Go.Smd
end
section
set_option linter.unusedSimpArgs false
namespace Go.Smd
open Go.RowKit
section
variable {P : Program} {N : Nat} {w0 : World} {S0 : Env} {ops : Array Oper}
structure DQ (N : Nat) (ops : Array Oper) (cs : List Nat) (full : List (Nat × Av)) : Prop where
  gd : ∀ (i : Nat) (o : Oper), ops[i]? = some o → o.guard = none
  dst : ∀ (i : Nat) (o : Oper), ops[i]? = some o → dstOk N o = true ∧ (i ∉ cs → ∃ d, o.dst = some d)
  dep : ∀ (i : Nat) (o : Oper), ops[i]? = some o → ∀ t ∈ o.looksAt ops, ∀ (j : Nat) (oj : Oper), ops[j]? = some oj → oj.dst = some t → ∃ e ∈ o.after, Region.binds .any e = true ∧ e.on = j
  key : ∀ t, (look full t).isSome = true → ∃ (j : Nat) (oj : Oper), ops[j]? = some oj ∧ oj.dst = some t
  lt : ∀ c ∈ cs, c < ops.size
structure AtQ (ops : Array Oper) (full base : List (Nat × Av)) (ps : List Nat) (own : List (Nat × Ow)) (rest : List Nat) (listed : Array Bool) (σ : St) : Prop where
  o : σ.h = look own
  pl : ∀ p ∈ ps, listed.getD p false = true
  rl : ∀ c ∈ rest, listed.getD c false = false
  t1 : ∀ (j : Nat) (oj : Oper) (t : Tmp), ops[j]? = some oj → oj.dst = some t → listed.getD j false = true → σ.tmp t = valT full base t
  t0 : ∀ t : Tmp, (∀ (j : Nat) (oj : Oper), ops[j]? = some oj → oj.dst = some t → listed.getD j false = false) → σ.tmp t = (look base t).getD .any
theorem AtQ.sees {cs : List Nat} {full base : List (Nat × Av)} {ps : List Nat} {own : List (Nat × Ow)} {rest : List Nat} {listed : Array Bool} {σ : St} (A : AtQ ops full base ps own rest listed σ) (D : DQ N ops cs full) {i : Nat} {o : Oper} (ho : ops[i]? = some o) (hr : ∀ e ∈ o.after, Region.binds .any e = true → listed.getD e.on false = true) (own' : List (Nat × Ow)) :
    ∀ x ∈ o.op.operands, σ.ev x = (St.mk (full ++ base) own').ev x := by
  refine ops_looks (ops := ops) fun t ht => ?_
  rw [full_tmp]
  by_cases hj : ∃ (j : Nat) (oj : Oper), ops[j]? = some oj ∧ oj.dst = some t
  · obtain ⟨j, oj, h1, h2⟩ := hj
    obtain ⟨e, he, hb, rfl⟩ := D.dep i o ho t ht j oj h1 h2
    exact A.t1 _ oj t h1 h2 (hr e he hb)
  · rw [A.t0 t fun j oj h1 h2 => absurd ⟨j, oj, h1, h2⟩ hj]
    unfold valT
    cases hf : look full t with
    | none => rfl
    | some x => obtain ⟨j, oj, h1, h2⟩ := D.key t (by rw [hf]; rfl); exact absurd ⟨j, oj, h1, h2⟩ hj
end
end Go.Smd
end
section
set_option linter.unusedSimpArgs false
namespace Go.Smd
open Go.RowKit Go.Proofs
@[simp] theorem meth_0 : Tryz.prog.meth 78 "AsBool" = some (74, false) := by kernel_rfl
@[simp] theorem meth_1 : Tryz.prog.meth 78 "AsFloat" = some (75, false) := by kernel_rfl
@[simp] theorem meth_2 : Tryz.prog.meth 78 "AsInt" = some (76, false) := by kernel_rfl
@[simp] theorem meth_4 : Tryz.prog.meth 78 "AsListUsing" = some (78, false) := by kernel_rfl
@[simp] theorem meth_6 : Tryz.prog.meth 78 "AsMapUsing" = some (80, false) := by kernel_rfl
@[simp] theorem meth_7 : Tryz.prog.meth 78 "AsString" = some (81, false) := by kernel_rfl
@[simp] theorem meth_8 : Tryz.prog.meth 78 "IsBool" = some (82, false) := by kernel_rfl
@[simp] theorem meth_9 : Tryz.prog.meth 78 "IsFloat" = some (83, false) := by kernel_rfl
@[simp] theorem meth_10 : Tryz.prog.meth 78 "IsInt" = some (84, false) := by kernel_rfl
@[simp] theorem meth_11 : Tryz.prog.meth 78 "IsList" = some (85, false) := by kernel_rfl
@[simp] theorem meth_12 : Tryz.prog.meth 78 "IsMap" = some (86, false) := by kernel_rfl
@[simp] theorem meth_13 : Tryz.prog.meth 78 "IsNull" = some (87, false) := by kernel_rfl
@[simp] theorem meth_14 : Tryz.prog.meth 78 "IsString" = some (88, false) := by kernel_rfl
@[simp] theorem meth_24 : Tryz.prog.meth 146 "Length" = some (95, false) := by kernel_rfl
@[simp] theorem meth_28 : Tryz.prog.meth 146 "RangeUsing" = some (97, false) := by kernel_rfl
@[simp] theorem meth_31 : Tryz.prog.meth 147 "Empty" = some (99, false) := by kernel_rfl
@[simp] theorem meth_35 : Tryz.prog.meth 147 "GetUsing" = some (103, false) := by kernel_rfl
@[simp] theorem meth_36 : Tryz.prog.meth 147 "Has" = some (104, false) := by kernel_rfl
@[simp] theorem meth_38 : Tryz.prog.meth 147 "IterateUsing" = some (106, false) := by kernel_rfl
@[simp] theorem meth_39 : Tryz.prog.meth 147 "Length" = some (107, false) := by kernel_rfl
@[simp] theorem meth_42 : Tryz.prog.meth 147 "ZipUsing" = some (110, false) := by kernel_rfl
@[simp] theorem meth_43 : Tryz.prog.meth 171 "Next" = some (119, true) := by kernel_rfl
@[simp] theorem meth_44 : Tryz.prog.meth 173 "Next" = some (121, true) := by kernel_rfl
@[simp] theorem meth_45 : Tryz.prog.meth 171 "Item" = some (118, true) := by kernel_rfl
@[simp] theorem meth_46 : Tryz.prog.meth 173 "Item" = some (120, true) := by kernel_rfl
@[simp] theorem meth_47 : Tryz.prog.meth 71 "Free" = some (73, true) := by kernel_rfl
@[simp] theorem meth_48 : Tryz.prog.meth 71 "pub-coparcener/pub/structuredmerge/value.allocValueUnstructured" = some (41, true) := by kernel_rfl
@[simp] theorem meth_49 : Tryz.prog.meth 71 "pub-coparcener/pub/structuredmerge/value.allocListUnstructuredRange" = some (122, true) := by kernel_rfl
@[simp] theorem treeOk_p : treeOk Tryz.prog = true := by kernel_rfl
@[simp] theorem treeMap_a : Tryz.prog.treeMap 81 = true := by kernel_rfl
@[simp] theorem treeMap_b : Tryz.prog.treeMap 147 = true := by kernel_rfl
abbrev dAlloc : D := .ifc 71 (.pt [])
abbrev aAlloc : Av := .c (.d dAlloc)
abbrev dV (t : Tree) : D := .ifc 78 (.pt [.tr t])
abbrev dM (m : List (ByteArray × Tree)) : D := .ifc 147 (.mp m)
abbrev dL (l : List Tree) : D := .ifc 146 (.sl 20 (l.map fun t => [.tr t]))
theorem idle_free (y : Value) (us : Array Value) : Idle Tryz.prog { target := .fn (.method "Free") #[], args := #[.iface 71 y] ++ us } :=
  idle_of (E := 73) (f := 73) (by kernel_rfl) (by kernel_rfl) Tryz.func73 (by kernel_rfl) rfl Tryz.results73 y us
theorem free_any {xs : List D} : IdleAv Tryz.prog "Free" (.c (.d (.ifc 71 (.pt xs)))) := fun S β h w v us hv => by
  cases (show RepD Tryz.prog w S (.ifc 71 (.pt xs)) v from hv) with
  | ifc hv => exact idle_free _ us.toArray
end Go.Smd
end
section
set_option linter.unusedSimpArgs false
set_option maxRecDepth 100000
set_option maxHeartbeats 4000000
namespace Go.Smd
open Go.RowKit Go.Proofs
def isBoolT : Tree → Bool
  | .bool _ => true
  | _ => false
theorem isBool_a (t : Tree) : ACalls Tryz.prog 82 [.agg [.d (.tr t)]] (fun r => r = aV (.bool (isBoolT t))) := by
  cases t
  all_goals
    refine acalls_ex [] Tryz.func82 (by kernel_rfl) rfl Tryz.ntmps82 Tryz.results82 (Nat.le_of_ble_eq_true (by kernel_rfl)) ?_; intro hok w0 S0
    (repeat' (first
                                                            | (with_reducible refine br_d (fun _ => ?_) (fun _ => ?_))
                                                            | (with_reducible refine br_i (fun _ => ?_) (fun _ => ?_))
                                                            | ((with_reducible apply nd_next); (case hx => simp -dsimp; first | done | with_reducible rfl); (case hid => simp -dsimp; first | done | with_reducible rfl | exact ⟨rfl, rfl, rfl⟩ | exact ⟨rfl, rfl⟩); (case' h1 => intro _ _ _); (case' h0 => intro _))
                                                            | ((with_reducible apply nd_entry); (case hx => simp -dsimp; first | done | with_reducible rfl); (case hid => simp -dsimp; first | done | with_reducible rfl | exact ⟨rfl, rfl, rfl⟩ | exact ⟨rfl, rfl⟩))
                                                            | ((with_reducible apply nd_range); (case hx => simp -dsimp; with_reducible rfl); (case hT => simp -dsimp); (case hnd => assumption); (case hz => simp -dsimp))
                                                            | (with_reducible refine dn_i follows_any (by kernel_rfl) ?_)
                                                            | (with_reducible exact done_eq rfl)
                                                            | (simp -dsimp))); (all_goals try with_reducible refine done_eq ?_)
    all_goals rfl
def isFloatT : Tree → Bool
  | .float _ => true
  | _ => false
theorem isFloat_a (t : Tree) : ACalls Tryz.prog 83 [.agg [.d (.tr t)]] (fun r => r = aV (.bool (isFloatT t))) := by
  cases t
  all_goals
    refine acalls_ex [] Tryz.func83 (by kernel_rfl) rfl Tryz.ntmps83 Tryz.results83 (Nat.le_of_ble_eq_true (by kernel_rfl)) ?_; intro hok w0 S0
    (repeat' (first
                                                            | (with_reducible refine br_d (fun _ => ?_) (fun _ => ?_))
                                                            | (with_reducible refine br_i (fun _ => ?_) (fun _ => ?_))
                                                            | ((with_reducible apply nd_next); (case hx => simp -dsimp; first | done | with_reducible rfl); (case hid => simp -dsimp; first | done | with_reducible rfl | exact ⟨rfl, rfl, rfl⟩ | exact ⟨rfl, rfl⟩); (case' h1 => intro _ _ _); (case' h0 => intro _))
                                                            | ((with_reducible apply nd_entry); (case hx => simp -dsimp; first | done | with_reducible rfl); (case hid => simp -dsimp; first | done | with_reducible rfl | exact ⟨rfl, rfl, rfl⟩ | exact ⟨rfl, rfl⟩))
                                                            | ((with_reducible apply nd_range); (case hx => simp -dsimp; with_reducible rfl); (case hT => simp -dsimp); (case hnd => assumption); (case hz => simp -dsimp))
                                                            | (with_reducible refine dn_i follows_any (by kernel_rfl) ?_)
                                                            | (with_reducible exact done_eq rfl)
                                                            | (simp -dsimp))); (all_goals try with_reducible refine done_eq ?_)
    all_goals rfl
def isIntT : Tree → Bool
  | .int _ => true
  | _ => false
theorem isInt_a (t : Tree) : ACalls Tryz.prog 84 [.agg [.d (.tr t)]] (fun r => r = aV (.bool (isIntT t))) := by
  cases t
  all_goals
    refine acalls_ex [] Tryz.func84 (by kernel_rfl) rfl Tryz.ntmps84 Tryz.results84 (Nat.le_of_ble_eq_true (by kernel_rfl)) ?_; intro hok w0 S0
    (repeat' (first
                                                            | (with_reducible refine br_d (fun _ => ?_) (fun _ => ?_))
                                                            | (with_reducible refine br_i (fun _ => ?_) (fun _ => ?_))
                                                            | ((with_reducible apply nd_next); (case hx => simp -dsimp; first | done | with_reducible rfl); (case hid => simp -dsimp; first | done | with_reducible rfl | exact ⟨rfl, rfl, rfl⟩ | exact ⟨rfl, rfl⟩); (case' h1 => intro _ _ _); (case' h0 => intro _))
                                                            | ((with_reducible apply nd_entry); (case hx => simp -dsimp; first | done | with_reducible rfl); (case hid => simp -dsimp; first | done | with_reducible rfl | exact ⟨rfl, rfl, rfl⟩ | exact ⟨rfl, rfl⟩))
                                                            | ((with_reducible apply nd_range); (case hx => simp -dsimp; with_reducible rfl); (case hT => simp -dsimp); (case hnd => assumption); (case hz => simp -dsimp))
                                                            | (with_reducible refine dn_i follows_any (by kernel_rfl) ?_)
                                                            | (with_reducible exact done_eq rfl)
                                                            | (simp -dsimp))); (all_goals try with_reducible refine done_eq ?_)
    all_goals rfl
def isListT : Tree → Bool
  | .list _ => true
  | _ => false
theorem isList_a (t : Tree) : ACalls Tryz.prog 85 [.agg [.d (.tr t)]] (fun r => r = aV (.bool (isListT t))) := by
  cases t
  all_goals
    refine acalls_ex [] Tryz.func85 (by kernel_rfl) rfl Tryz.ntmps85 Tryz.results85 (Nat.le_of_ble_eq_true (by kernel_rfl)) ?_; intro hok w0 S0
    (repeat' (first
                                                            | (with_reducible refine br_d (fun _ => ?_) (fun _ => ?_))
                                                            | (with_reducible refine br_i (fun _ => ?_) (fun _ => ?_))
                                                            | ((with_reducible apply nd_next); (case hx => simp -dsimp; first | done | with_reducible rfl); (case hid => simp -dsimp; first | done | with_reducible rfl | exact ⟨rfl, rfl, rfl⟩ | exact ⟨rfl, rfl⟩); (case' h1 => intro _ _ _); (case' h0 => intro _))
                                                            | ((with_reducible apply nd_entry); (case hx => simp -dsimp; first | done | with_reducible rfl); (case hid => simp -dsimp; first | done | with_reducible rfl | exact ⟨rfl, rfl, rfl⟩ | exact ⟨rfl, rfl⟩))
                                                            | ((with_reducible apply nd_range); (case hx => simp -dsimp; with_reducible rfl); (case hT => simp -dsimp); (case hnd => assumption); (case hz => simp -dsimp))
                                                            | (with_reducible refine dn_i follows_any (by kernel_rfl) ?_)
                                                            | (with_reducible exact done_eq rfl)
                                                            | (simp -dsimp))); (all_goals try with_reducible refine done_eq ?_)
    all_goals rfl
def isMapT : Tree → Bool
  | .map _ => true
  | _ => false
theorem isMap_a (t : Tree) : ACalls Tryz.prog 86 [.agg [.d (.tr t)]] (fun r => r = aV (.bool (isMapT t))) := by
  cases t
  all_goals
    refine acalls_ex [] Tryz.func86 (by kernel_rfl) rfl Tryz.ntmps86 Tryz.results86 (Nat.le_of_ble_eq_true (by kernel_rfl)) ?_; intro hok w0 S0
    (repeat' (first
                                                            | (with_reducible refine br_d (fun _ => ?_) (fun _ => ?_))
                                                            | (with_reducible refine br_i (fun _ => ?_) (fun _ => ?_))
                                                            | ((with_reducible apply nd_next); (case hx => simp -dsimp; first | done | with_reducible rfl); (case hid => simp -dsimp; first | done | with_reducible rfl | exact ⟨rfl, rfl, rfl⟩ | exact ⟨rfl, rfl⟩); (case' h1 => intro _ _ _); (case' h0 => intro _))
                                                            | ((with_reducible apply nd_entry); (case hx => simp -dsimp; first | done | with_reducible rfl); (case hid => simp -dsimp; first | done | with_reducible rfl | exact ⟨rfl, rfl, rfl⟩ | exact ⟨rfl, rfl⟩))
                                                            | ((with_reducible apply nd_range); (case hx => simp -dsimp; with_reducible rfl); (case hT => simp -dsimp); (case hnd => assumption); (case hz => simp -dsimp))
                                                            | (with_reducible refine dn_i follows_any (by kernel_rfl) ?_)
                                                            | (with_reducible exact done_eq rfl)
                                                            | (simp -dsimp))); (all_goals try with_reducible refine done_eq ?_)
    all_goals rfl
def isStringT : Tree → Bool
  | .str _ => true
  | _ => false
theorem isString_a (t : Tree) : ACalls Tryz.prog 88 [.agg [.d (.tr t)]] (fun r => r = aV (.bool (isStringT t))) := by
  cases t
  all_goals
    refine acalls_ex [] Tryz.func88 (by kernel_rfl) rfl Tryz.ntmps88 Tryz.results88 (Nat.le_of_ble_eq_true (by kernel_rfl)) ?_; intro hok w0 S0
    (repeat' (first
                                                            | (with_reducible refine br_d (fun _ => ?_) (fun _ => ?_))
                                                            | (with_reducible refine br_i (fun _ => ?_) (fun _ => ?_))
                                                            | ((with_reducible apply nd_next); (case hx => simp -dsimp; first | done | with_reducible rfl); (case hid => simp -dsimp; first | done | with_reducible rfl | exact ⟨rfl, rfl, rfl⟩ | exact ⟨rfl, rfl⟩); (case' h1 => intro _ _ _); (case' h0 => intro _))
                                                            | ((with_reducible apply nd_entry); (case hx => simp -dsimp; first | done | with_reducible rfl); (case hid => simp -dsimp; first | done | with_reducible rfl | exact ⟨rfl, rfl, rfl⟩ | exact ⟨rfl, rfl⟩))
                                                            | ((with_reducible apply nd_range); (case hx => simp -dsimp; with_reducible rfl); (case hT => simp -dsimp); (case hnd => assumption); (case hz => simp -dsimp))
                                                            | (with_reducible refine dn_i follows_any (by kernel_rfl) ?_)
                                                            | (with_reducible exact done_eq rfl)
                                                            | (simp -dsimp))); (all_goals try with_reducible refine done_eq ?_)
    all_goals rfl
theorem isNull_a (t : Tree) : ACalls Tryz.prog 87 [.agg [.d (.tr t)]] (fun r => r = aV (.bool (isNilT t))) := by
  refine acalls_ex [] Tryz.func87 (by kernel_rfl) rfl Tryz.ntmps87 Tryz.results87 (Nat.le_of_ble_eq_true (by kernel_rfl)) ?_; intro hok w0 S0
  (repeat' (first
                                                            | (with_reducible refine br_d (fun _ => ?_) (fun _ => ?_))
                                                            | (with_reducible refine br_i (fun _ => ?_) (fun _ => ?_))
                                                            | ((with_reducible apply nd_next); (case hx => simp -dsimp; first | done | with_reducible rfl); (case hid => simp -dsimp; first | done | with_reducible rfl | exact ⟨rfl, rfl, rfl⟩ | exact ⟨rfl, rfl⟩); (case' h1 => intro _ _ _); (case' h0 => intro _))
                                                            | ((with_reducible apply nd_entry); (case hx => simp -dsimp; first | done | with_reducible rfl); (case hid => simp -dsimp; first | done | with_reducible rfl | exact ⟨rfl, rfl, rfl⟩ | exact ⟨rfl, rfl⟩))
                                                            | ((with_reducible apply nd_range); (case hx => simp -dsimp; with_reducible rfl); (case hT => simp -dsimp); (case hnd => assumption); (case hz => simp -dsimp))
                                                            | (with_reducible refine dn_i follows_any (by kernel_rfl) ?_)
                                                            | (with_reducible exact done_eq rfl)
                                                            | (simp -dsimp))); (all_goals try with_reducible refine done_eq ?_)
  all_goals rfl
theorem asBool_a (b : Bool) : ACalls Tryz.prog 74 [.agg [.d (.tr (.bool b))]] (fun r => r = aV (.bool b)) := by
  refine acalls_ex [] Tryz.func74 (by kernel_rfl) rfl Tryz.ntmps74 Tryz.results74 (Nat.le_of_ble_eq_true (by kernel_rfl)) ?_; intro hok w0 S0
  (repeat' (first
                                                            | (with_reducible refine br_d (fun _ => ?_) (fun _ => ?_))
                                                            | (with_reducible refine br_i (fun _ => ?_) (fun _ => ?_))
                                                            | ((with_reducible apply nd_next); (case hx => simp -dsimp; first | done | with_reducible rfl); (case hid => simp -dsimp; first | done | with_reducible rfl | exact ⟨rfl, rfl, rfl⟩ | exact ⟨rfl, rfl⟩); (case' h1 => intro _ _ _); (case' h0 => intro _))
                                                            | ((with_reducible apply nd_entry); (case hx => simp -dsimp; first | done | with_reducible rfl); (case hid => simp -dsimp; first | done | with_reducible rfl | exact ⟨rfl, rfl, rfl⟩ | exact ⟨rfl, rfl⟩))
                                                            | ((with_reducible apply nd_range); (case hx => simp -dsimp; with_reducible rfl); (case hT => simp -dsimp); (case hnd => assumption); (case hz => simp -dsimp))
                                                            | (with_reducible refine dn_i follows_any (by kernel_rfl) ?_)
                                                            | (with_reducible exact done_eq rfl)
                                                            | (simp -dsimp))); (all_goals try with_reducible refine done_eq ?_)
  all_goals rfl
theorem asFloat_a (b : Nat) : ACalls Tryz.prog 75 [.agg [.d (.tr (.float b))]] (fun r => r = aV (.float .f64 b)) := by
  refine acalls_ex [] Tryz.func75 (by kernel_rfl) rfl Tryz.ntmps75 Tryz.results75 (Nat.le_of_ble_eq_true (by kernel_rfl)) ?_; intro hok w0 S0
  (repeat' (first
                                                            | (with_reducible refine br_d (fun _ => ?_) (fun _ => ?_))
                                                            | (with_reducible refine br_i (fun _ => ?_) (fun _ => ?_))
                                                            | ((with_reducible apply nd_next); (case hx => simp -dsimp; first | done | with_reducible rfl); (case hid => simp -dsimp; first | done | with_reducible rfl | exact ⟨rfl, rfl, rfl⟩ | exact ⟨rfl, rfl⟩); (case' h1 => intro _ _ _); (case' h0 => intro _))
                                                            | ((with_reducible apply nd_entry); (case hx => simp -dsimp; first | done | with_reducible rfl); (case hid => simp -dsimp; first | done | with_reducible rfl | exact ⟨rfl, rfl, rfl⟩ | exact ⟨rfl, rfl⟩))
                                                            | ((with_reducible apply nd_range); (case hx => simp -dsimp; with_reducible rfl); (case hT => simp -dsimp); (case hnd => assumption); (case hz => simp -dsimp))
                                                            | (with_reducible refine dn_i follows_any (by kernel_rfl) ?_)
                                                            | (with_reducible exact done_eq rfl)
                                                            | (simp -dsimp))); (all_goals try with_reducible refine done_eq ?_)
  all_goals rfl
theorem asInt_a (b : Int) : ACalls Tryz.prog 76 [.agg [.d (.tr (.int b))]] (fun r => r = aV (.int .i64 b)) := by
  refine acalls_ex [] Tryz.func76 (by kernel_rfl) rfl Tryz.ntmps76 Tryz.results76 (Nat.le_of_ble_eq_true (by kernel_rfl)) ?_; intro hok w0 S0
  (repeat' (first
                                                            | (with_reducible refine br_d (fun _ => ?_) (fun _ => ?_))
                                                            | (with_reducible refine br_i (fun _ => ?_) (fun _ => ?_))
                                                            | ((with_reducible apply nd_next); (case hx => simp -dsimp; first | done | with_reducible rfl); (case hid => simp -dsimp; first | done | with_reducible rfl | exact ⟨rfl, rfl, rfl⟩ | exact ⟨rfl, rfl⟩); (case' h1 => intro _ _ _); (case' h0 => intro _))
                                                            | ((with_reducible apply nd_entry); (case hx => simp -dsimp; first | done | with_reducible rfl); (case hid => simp -dsimp; first | done | with_reducible rfl | exact ⟨rfl, rfl, rfl⟩ | exact ⟨rfl, rfl⟩))
                                                            | ((with_reducible apply nd_range); (case hx => simp -dsimp; with_reducible rfl); (case hT => simp -dsimp); (case hnd => assumption); (case hz => simp -dsimp))
                                                            | (with_reducible refine dn_i follows_any (by kernel_rfl) ?_)
                                                            | (with_reducible exact done_eq rfl)
                                                            | (simp -dsimp))); (all_goals try with_reducible refine done_eq ?_)
  all_goals rfl
theorem asString_a (b : ByteArray) : ACalls Tryz.prog 81 [.agg [.d (.tr (.str b))]] (fun r => r = aV (.string b)) := by
  refine acalls_ex [] Tryz.func81 (by kernel_rfl) rfl Tryz.ntmps81 Tryz.results81 (Nat.le_of_ble_eq_true (by kernel_rfl)) ?_; intro hok w0 S0
  (repeat' (first
                                                            | (with_reducible refine br_d (fun _ => ?_) (fun _ => ?_))
                                                            | (with_reducible refine br_i (fun _ => ?_) (fun _ => ?_))
                                                            | ((with_reducible apply nd_next); (case hx => simp -dsimp; first | done | with_reducible rfl); (case hid => simp -dsimp; first | done | with_reducible rfl | exact ⟨rfl, rfl, rfl⟩ | exact ⟨rfl, rfl⟩); (case' h1 => intro _ _ _); (case' h0 => intro _))
                                                            | ((with_reducible apply nd_entry); (case hx => simp -dsimp; first | done | with_reducible rfl); (case hid => simp -dsimp; first | done | with_reducible rfl | exact ⟨rfl, rfl, rfl⟩ | exact ⟨rfl, rfl⟩))
                                                            | ((with_reducible apply nd_range); (case hx => simp -dsimp; with_reducible rfl); (case hT => simp -dsimp); (case hnd => assumption); (case hz => simp -dsimp))
                                                            | (with_reducible refine dn_i follows_any (by kernel_rfl) ?_)
                                                            | (with_reducible exact done_eq rfl)
                                                            | (simp -dsimp))); (all_goals try with_reducible refine done_eq ?_)
  all_goals rfl
theorem asListUsing_a (l : List Tree) (x : D) : ACalls Tryz.prog 78 [.agg [.d (.tr (.list l))], .c (.d x)] (fun r => r = .c (.d (dL l))) := by
  refine acalls_ex [] Tryz.func78 (by kernel_rfl) rfl Tryz.ntmps78 Tryz.results78 (Nat.le_of_ble_eq_true (by kernel_rfl)) ?_; intro hok w0 S0
  (repeat' (first
                                                            | (with_reducible refine br_d (fun _ => ?_) (fun _ => ?_))
                                                            | (with_reducible refine br_i (fun _ => ?_) (fun _ => ?_))
                                                            | ((with_reducible apply nd_next); (case hx => simp -dsimp; first | done | with_reducible rfl); (case hid => simp -dsimp; first | done | with_reducible rfl | exact ⟨rfl, rfl, rfl⟩ | exact ⟨rfl, rfl⟩); (case' h1 => intro _ _ _); (case' h0 => intro _))
                                                            | ((with_reducible apply nd_entry); (case hx => simp -dsimp; first | done | with_reducible rfl); (case hid => simp -dsimp; first | done | with_reducible rfl | exact ⟨rfl, rfl, rfl⟩ | exact ⟨rfl, rfl⟩))
                                                            | ((with_reducible apply nd_range); (case hx => simp -dsimp; with_reducible rfl); (case hT => simp -dsimp); (case hnd => assumption); (case hz => simp -dsimp))
                                                            | (with_reducible refine dn_i follows_any (by kernel_rfl) ?_)
                                                            | (with_reducible exact done_eq rfl)
                                                            | (simp -dsimp))); (all_goals try with_reducible refine done_eq ?_)
  all_goals rfl
theorem asMapUsing_a (m : List (ByteArray × Tree)) (x : D) : ACalls Tryz.prog 80 [.agg [.d (.tr (.map m))], .c (.d x)] (fun r => r = .c (.d (dM m))) := by
  refine acalls_ex [] Tryz.func80 (by kernel_rfl) rfl Tryz.ntmps80 Tryz.results80 (Nat.le_of_ble_eq_true (by kernel_rfl)) ?_; intro hok w0 S0
  (repeat' (first
                                                            | (with_reducible refine br_d (fun _ => ?_) (fun _ => ?_))
                                                            | (with_reducible refine br_i (fun _ => ?_) (fun _ => ?_))
                                                            | ((with_reducible apply nd_next); (case hx => simp -dsimp; first | done | with_reducible rfl); (case hid => simp -dsimp; first | done | with_reducible rfl | exact ⟨rfl, rfl, rfl⟩ | exact ⟨rfl, rfl⟩); (case' h1 => intro _ _ _); (case' h0 => intro _))
                                                            | ((with_reducible apply nd_entry); (case hx => simp -dsimp; first | done | with_reducible rfl); (case hid => simp -dsimp; first | done | with_reducible rfl | exact ⟨rfl, rfl, rfl⟩ | exact ⟨rfl, rfl⟩))
                                                            | ((with_reducible apply nd_range); (case hx => simp -dsimp; with_reducible rfl); (case hT => simp -dsimp); (case hnd => assumption); (case hz => simp -dsimp))
                                                            | (with_reducible refine dn_i follows_any (by kernel_rfl) ?_)
                                                            | (with_reducible exact done_eq rfl)
                                                            | (simp -dsimp))); (all_goals try with_reducible refine done_eq ?_)
  all_goals rfl
end Go.Smd
end
