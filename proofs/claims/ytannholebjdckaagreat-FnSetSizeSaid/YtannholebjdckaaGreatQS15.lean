/- Part 15 of the proof: Ak Ms Ar Mt. -/
import Derived.Test.YtannholebjdckaaGreatQS10
import Derived.Test.YtannholebjdckaaGreatQS09
import Derived.Test.YtannholebjdckaaGreatQS08
import Derived.Test.YtannholebjdckaaGreatQS13
import Derived.Test.YtannholebjdckaaGreatQS14
import Derived.Test.YtannholebjdckaaGreatQS12
import Derived.Test.YtannholebjdckaaGreatQS11
set_option linter.unusedVariables false
section
set_option linter.unusedSimpArgs false
namespace Go.Smd
open Go.RowKit Go.Proofs
theorem follows_any : Tryz.prog.follows .mixedOrders = true := by kernel_rfl
abbrev dI (n : Int) : D := .v (.int .i64 n)
abbrev dS (s : ByteArray) : D := .v (.string s)
abbrev dB (b : Bool) : D := .v (.bool b)
abbrev dF (n : Nat) : D := .v (.float .f64 n)
def rowS (l : List ByteArray) : List (List D) := l.map fun s => [dS s]
abbrev dStrs (l : List ByteArray) : D := .sl 9 (rowS l)
mutual
def gvD : GV → List D
  | .mk kind n f s keys l => [dI kind, dI n, dF f, dS s, dStrs keys, .sl 31 (gvDs l)]
def gvDs : List GV → List (List D)
  | [] => []
  | x :: l => gvD x :: gvDs l
end
theorem gvDs_eq : ∀ l, gvDs l = l.map gvD
  | [] => by simp [gvDs]
  | x :: l => by simp [gvDs, gvDs_eq l]
def cls (xs : List D) : List Cl := xs.map .d
abbrev gvA (g : GV) : Av := .agg (cls (gvD g))
abbrev dGVs (l : List GV) : D := .sl 31 (l.map gvD)
theorem gvD_mk (kind n : Int) (f : Nat) (s : ByteArray) (keys : List ByteArray) (l : List GV) : gvD (.mk kind n f s keys l) = [dI kind, dI n, dF f, dS s, dStrs keys, dGVs l] := by
  rw [gvD, gvDs_eq]
@[simp] theorem gvD_length (g : GV) : (gvD g).length = 6 := by cases g; rw [gvD_mk]; rfl
@[simp] theorem gvD_take (g : GV) : (gvD g).take 6 = gvD g := List.take_of_length_le (by simp)
@[simp] theorem cls_cons (x : D) (xs : List D) : cls (x :: xs) = .d x :: cls xs := rfl
@[simp] theorem cls_nil : cls [] = [] := rfl
@[simp] theorem cls_length (xs : List D) : (cls xs).length = xs.length := by simp [cls]
@[simp] theorem cls_take (g : GV) : (cls (gvD g)).take 6 = cls (gvD g) := List.take_of_length_le (by simp)
theorem cls_fold (xs : List D) : List.map Cl.d xs = cls xs := rfl
@[simp] theorem cls_all (xs : List D) : (cls xs).all Cl.isD = true := by simp [cls, Cl.isD]
@[simp] theorem toDs_cls : ∀ xs : List D, toDs (cls xs) = some xs
  | [] => rfl
  | x :: xs => by
    have := toDs_cls xs
    show (toDs (cls xs)).map (x :: ·) = _
    rw [this]; rfl
@[simp] theorem splice_all {α : Type} (xs ys : List α) (h : ys.length = xs.length) : splice xs 0 ys = ys := by simp [splice, h]
@[simp] theorem splice_c0 {α : Type} (x y : α) (xs ys : List α) : splice (x :: xs) 0 (y :: ys) = y :: splice xs 0 ys := by simp [splice]
@[simp] theorem splice_n0 {α : Type} (xs : List α) : splice xs 0 [] = xs := by simp [splice]
@[simp] theorem splice_cs {α : Type} (x : α) (xs ys : List α) (n : Nat) : splice (x :: xs) (n + 1) ys = x :: splice xs n ys := by
  simp only [splice, List.take_succ_cons, List.cons_append]
  rw [show n + 1 + ys.length = (n + ys.length) + 1 by omega, List.drop_succ_cons]
@[simp] theorem ids_cls (xs : List D) : (cls xs).flatMap Cl.ids = [] := by
  induction xs with
  | nil => rfl
  | cons x xs ih => simp only [cls_cons, List.flatMap_cons, ih, Cl.ids, List.append_nil]
@[simp] theorem rowS_at' (l : List ByteArray) (i : Nat) (h : i < (rowS l).length) : (rowS l)[i] = [dS (l[i]'(by simpa [rowS] using h))] := by simp [rowS]
@[simp] theorem rowS_length (l : List ByteArray) : (rowS l).length = l.length := by simp [rowS]
@[simp] theorem frz_cls (F : List Nat) (h : Nat → Option Ow) (xs : List D) : (cls xs).map (frzC Tryz.prog F h) = cls xs := by
  induction xs with
  | nil => rfl
  | cons x xs ih => simp only [cls_cons, List.map_cons, ih, frzC, frzN, frzG]
@[simp] theorem deep_cls (h : Nat → Option Ow) (xs : List D) : (cls xs).flatMap (Cl.deep h) = [] := by
  induction xs with
  | nil => rfl
  | cons x xs ih => simp only [cls_cons, List.flatMap_cons, ih, Cl.deep, Cl.deepN, List.append_nil]
@[simp] theorem coL_gv (g : GV) : coL [none, none, none, none, some 9, some 31] (cls (gvD g)) = cls (gvD g) := by cases g; rw [gvD_mk]; rfl
structure GVk (kind n : Int) (f : Nat) (s : ByteArray) (keys : List ByteArray) (l : List GV) : Prop where
  hkind : -9223372036854775808 ≤ kind ∧ kind ≤ 9223372036854775807
  hn : -9223372036854775808 ≤ n ∧ n ≤ 9223372036854775807
  hf : f < 18446744073709551616
  hs : s.size ≤ 140737488351232
  hkeys : keys.length * 16 ≤ 140737488351232
  hkey : ∀ k ∈ keys, k.size ≤ 140737488351232
  hl : l.length * 88 ≤ 140737488351232
  hitem : ∀ x ∈ l, okA Tryz.prog (gvA x)
theorem okA_of {xs : List D} (h : ∀ d ∈ xs, okD Tryz.prog d) (w : World) (S : Nat → Prop) (k : ∃ us, All2 (RepD Tryz.prog w S) xs us) : okA Tryz.prog (.agg (cls xs)) := by
  obtain ⟨us, ha⟩ := k
  refine ⟨w, S, .agg us.toArray, us, rfl, ?_⟩
  clear h
  induction ha with
  | nil => exact .nil
  | cons h t ih => exact .cons h ih
theorem okA_pt {xs : List D} (h : okD Tryz.prog (.pt xs)) : okA Tryz.prog (.agg (cls xs)) := by
  obtain ⟨w, S, v, h⟩ := h
  obtain ⟨ad, rfl, hr⟩ := RepD.pt_iff.1 h
  refine okA_of (fun d hd => okD_pt ⟨w, S, _, h⟩ d hd) w S ⟨(List.range xs.length).map fun i => (w.cell? (ad.add i)).getD undef, All2.of (by simp) fun i d u hi hu => ?_⟩
  obtain ⟨u', _, hc, hr⟩ := hr i d hi
  rw [List.getElem?_map] at hu
  obtain ⟨i', hi', rfl⟩ := Option.map_eq_some_iff.1 hu
  obtain ⟨hlt, rfl⟩ := List.getElem?_eq_some_iff.1 hi'
  simp only [List.getElem_range, hc, Option.getD_some]; exact hr
theorem okD_row {E : TypeId} {xs : List (List D)} (h : okD Tryz.prog (.sl E xs)) {r : List D} (hr : r ∈ xs) : okA Tryz.prog (.agg (cls r)) := by
  obtain ⟨w, S, v, h⟩ := h
  obtain ⟨A, c, rfl, _, hb, hrow⟩ := RepD.sl_iff.1 h
  obtain ⟨j, hj⟩ := List.getElem?_of_mem hr
  by_cases h0 : 0 < Tryz.prog.cellsOf E
  · obtain ⟨ad, _, hq⟩ := (hrow j r hj).2 h0
    exact okA_pt ⟨w, S, _, RepD.pt_iff.2 ⟨_, rfl, hq⟩⟩
  · have h1 := (hrow j r hj).1
    have : r = [] := List.eq_nil_of_length_eq_zero (by omega)
    subst this
    exact ⟨w, S, .agg #[], [], rfl, .nil⟩
theorem strs_ok {l : List ByteArray} (h : okD Tryz.prog (dStrs l)) : l.length * 16 ≤ 140737488351232 ∧ ∀ k ∈ l, k.size ≤ 140737488351232 := by
  obtain ⟨h1, h2⟩ := okD_sl h
  simp at h1
  exact ⟨h1, fun k hk => okD_str ((h2 [dS k] (List.mem_map.2 ⟨k, hk, rfl⟩)).2 _ (List.mem_singleton_self _))⟩
theorem gvs_ok {l : List GV} (h : okD Tryz.prog (dGVs l)) : l.length * 88 ≤ 140737488351232 ∧ ∀ x ∈ l, okA Tryz.prog (gvA x) := by
  obtain ⟨h1, h2⟩ := okD_sl h
  simp at h1
  exact ⟨h1, fun x hx => okD_row h (List.mem_map.2 ⟨x, hx, rfl⟩)⟩
theorem gv_ok {kind n : Int} {f : Nat} {s : ByteArray} {keys : List ByteArray} {l : List GV} (h : okA Tryz.prog (gvA (.mk kind n f s keys l))) : GVk kind n f s keys l := by
  have h1 := okA_agg h
  rw [gvD_mk] at h1
  have h2 : ∀ d ∈ [dI kind, dI n, dF f, dS s, dStrs keys, dGVs l], okD Tryz.prog d := fun d hd => h1 (.d d) (List.mem_map.2 ⟨d, hd, rfl⟩) d rfl
  have a1 := strs_ok (h2 (dStrs keys) (by simp))
  have a2 := gvs_ok (h2 (dGVs l) (by simp))
  refine ⟨okD_i64 (h2 _ (by simp)), okD_i64 (h2 (dI n) (by simp)), ?_, okD_str (h2 (dS s) (by simp)), a1.1, a1.2, a2.1, a2.2⟩
  have := okD_v (h2 (dF f) (by simp))
  simpa [okVb] using this
end Go.Smd
end
section
set_option linter.unusedSimpArgs false
namespace Go.Smd
open Go.RowKit
section
variable {P : Program} {N : Nat} {tl : List (Nat × Av)} {hl : List (Nat × Ow)} {σ : St}
theorem dst_mk {d : Option Tmp} {op : Op} {ty : TypeId} {pos : String} {af : Array Edge} {g : Option (Nat × Bool)} : Oper.dst ⟨d, op, ty, pos, af, g⟩ = d := _root_.id rfl
theorem op_mk {d : Option Tmp} {op : Op} {ty : TypeId} {pos : String} {af : Array Edge} {g : Option (Nat × Bool)} : Oper.op ⟨d, op, ty, pos, af, g⟩ = op := _root_.id rfl
theorem guard_mk {d : Option Tmp} {op : Op} {ty : TypeId} {pos : String} {af : Array Edge} {g : Option (Nat × Bool)} : Oper.guard ⟨d, op, ty, pos, af, g⟩ = g := _root_.id rfl
theorem give_nil : σ.give P [] = σ := _root_.id rfl
theorem give_cons {i : Nat} {F : List Nat} : (St.mk tl hl).give P (i :: F) = ⟨mapV (frzA P (i :: F) (look hl)) tl, mapV (frzO P (i :: F) (look hl)) (filK (fun j => !(i :: F).contains j) hl)⟩ := _root_.id rfl
theorem BkR_of {d : Option Tmp} {K : St → Prop} {t : Tg (σ, d, K)} {r : Av} {own' : List (Nat × Ow)} : BkR σ d K t r own' = Must (backOk σ (inR σ.own) (d.getD 0) own') (K ((σ.back (inR σ.own) (d.getD 0) own').put d ((r.ren (renI (inR σ.own) (d.getD 0))).fix (look (backH σ (inR σ.own) (d.getD 0) own'))))) () := _root_.id rfl
theorem own_mk : St.own ⟨tl, hl⟩ = hl := _root_.id rfl
theorem tmps_mk : St.tmps ⟨tl, hl⟩ = tl := _root_.id rfl
theorem back_mk {ρ : List (Nat × Nat)} {t : Nat} {own' : List (Nat × Ow)} : (St.mk tl hl).back ρ t own' = ⟨mapV (Av.fix (look (mapKV (renI ρ t) (Ow.ren (renI ρ t)) own' ++ filK (fun i => !(ρ.map (·.2)).contains i) hl))) (dedupK tl), mapV (Ow.fix (look (mapKV (renI ρ t) (Ow.ren (renI ρ t)) own' ++ filK (fun i => !(ρ.map (·.2)).contains i) hl))) (mapKV (renI ρ t) (Ow.ren (renI ρ t)) own' ++ filK (fun i => !(ρ.map (·.2)).contains i) hl)⟩ := _root_.id rfl
theorem backH_mk {ρ : List (Nat × Nat)} {t : Nat} {own' : List (Nat × Ow)} : backH (St.mk tl hl) ρ t own' = mapKV (renI ρ t) (Ow.ren (renI ρ t)) own' ++ filK (fun i => !(ρ.map (·.2)).contains i) hl := _root_.id rfl
theorem backOk_mk {ρ : List (Nat × Nat)} {t : Nat} {own' : List (Nat × Ow)} : backOk (St.mk tl hl) ρ t own' = keysO own' fun k _ => hasKey ρ k || (!hasKey hl (renI ρ t k) && decide (renI ρ t k < zed) && decide (k < zed)) := _root_.id rfl
end
attribute [simp] zed litA newArr makeA app1 appA appCall baseA rowA minA intsA reps chunk capArgs invokeA isIfc nilIfc nilIs isNilT isConst binA_nil binA_trn binA_mpn binA_sln nilRef binA_ifn binA_ion mapLen lookA assertA assertD okTup newClo funcV funcA capsA trD loadA fieldAddrA partA storeA newCells cellsA indexAddrA indexA lenA extractA sliceA boundA buildA fillA placeS makeIfcA binA_lss binA_gtr binA_leq binA_geq binA_eql binA_neq binA_add binA_sub binA_beq binA_bne binA_seq binA_sne binA_slt binA_sgt binA_feq binA_flt binA_fgt unop_not okVb okInt startL
attribute [simp ↓] tmpL_nil tmpL_eq tmpL_ne tmp_tmpL look_nil look_eq look_ne h_mk put_some put_none new_mk ev_tmp ev_func ev_bool ev_nilIface ev_nilPtr ev_nilFunc ev_nilSlice ev_nilMap dst_mk op_mk guard_mk own_mk tmps_mk
attribute [simp] ev_const
attribute [simp ↓] vv_move vv_assign vv_pick vv_unOp vv_binOp vv_convert vv_fieldAddr vv_load vv_indexAddr vv_index vv_extract vv_nilCheck vv_typeAssert vv_makeFunc vv_lookup vv_makeInterface vv_build vv_slice vv_call len_value len_invoke len_len len_min len_append vv_alloc vv_box vv_store vv_buildSlice vv_makeSlice vv_range vv_next vv_entry vv_defer
attribute [simp] pick_b un_v conv_v chk_own chk_pt chk_io chk_ifc
attribute [simp] resW_some resW_none callF_some callF_none argsC_nil0 argsC_none argsC_cons
attribute [simp ↓] ws_of ws_alloc ws_box ws_store ws_buildSlice ws_makeSlice ws_append ws_callv ws_calli ws_makeFunc ws_range ws_next ws_entry ws_defer clo_call clo_range clo_next clo_entry clo_defer clo_make co_of ce_func ce_tmp ce_invoke ce_range ce_next ce_entry ce_defer
attribute [simp] gd_b gd_tup gdD_some
attribute [simp ↓] gd_none gd_some nth_zero nth_succ dst_ok dst_none ex_nil ex_lp ex_blk ex_ops_nil ex_ops ex_drw_nil ex_drw ex_seq ex_skip ex_label ex_block ex_ret ex_cond ex_region ex_drawn ex_exit unw_blk unw_ne unw_code unw_ops unw_lp FinX_n FinX_r FinPX_n FinPX_r BkX_n BkX_r
attribute [simp] cls_fold fix1_mk Fx_of eqS_some asX exD_some BkR_of
attribute [simp ↓] gs_nil gs_none gs_some
attribute [simp] Sel_true Sel_false Kv_true Kv_false
attribute [simp 900] Kv_b
attribute [simp 800] Kv_any
attribute [simp] Br_true Br_false Ob_some Ov_some Ov_none Tst_b Must_true
attribute [simp] frzA frzC frzN frzG frzO toDs Av.deep Cl.deep Cl.deepN argC coL coC noT Av.isD Cl.isD resAll resOne toParts toPart resA dedupK gaOk gaFree isApp isW isA plainCall give_nil give_cons mapV mapKV filK
attribute [simp] inOk inK inR mapR keysO hasKey Av.ren Ow.ren Cl.ren Av.ids Ow.ids Cl.ids Av.fix Ow.fix Cl.fix renI backOk_mk backH_mk back_mk handOk nodupB handed Cl.plain Av.plain
end Go.Smd
end
section
set_option linter.unusedSimpArgs false
namespace Go.Smd
open Go.RowKit
section
variable {P : Program} {N : Nat} {w0 : World} {S0 : Env} {ops : Array Oper}
def Eff (P : Program) (N : Nat) (full base : List (Nat × Av)) (o : Oper) (own own' : List (Nat × Ow)) : Prop :=
  ∀ σ : St, σ.h = look own → (∀ x ∈ o.op.operands, σ.ev x = (St.mk (full ++ base) own).ev x) → (∀ t, σ.tmp t = valT full base t ∨ σ.tmp t = (look base t).getD .any) →
    ∀ K : St → Prop, (∀ σ' : St, σ'.h = look own' → (∀ t, σ'.tmp t = if o.dst = some t then valT full base t else σ.tmp t) → K σ') → execX P N σ o K
def stOk (P : Program) (N : Nat) (ops : Array Oper) (full base : List (Nat × Av)) (is cs : List Nat) : List Nat → List (Nat × Ow) → List (Nat × List (Nat × Ow)) → Prop
  | ps, own, [] => valsOk P ops full base own (fun i => cs.contains i || ps.any fun p => waits ops 64 p i) is
  | ps, own, (c, own') :: es => valsOk P ops full base own (fun i => cs.contains i || waits ops 64 i c || ps.any fun p => waits ops 64 p i) is ∧ (∃ o, nth ops.toList c = some o ∧ Eff P N full base o own own') ∧ stOk P N ops full base is cs (c :: ps) own' es
def lastO (own : List (Nat × Ow)) : List (Nat × List (Nat × Ow)) → List (Nat × Ow)
  | [] => own
  | (_, own') :: es => lastO own' es
def inOrder (ops : Array Oper) : List Nat → Bool
  | [] => true
  | c :: cs => cs.all (fun d => waits ops 64 d c && d != c) && inOrder ops cs
def dqOk (N : Nat) (ops : Array Oper) (cs is ks : List Nat) : Bool :=
  (List.range ops.size).all (fun i => match ops[i]? with
    | some o => o.guard.isNone && dstOk N o && (match o.dst with | some d => ks.contains d | none => cs.contains i) &&
      (o.looksAt ops).all (fun t => (List.range ops.size).all fun j => (match ops[j]? with | some oj => !(oj.dst == some t) || o.after.any (fun e => Region.binds .any e && e.on == j) | none => true))
    | none => false) &&
  ks.all (fun t => (List.range ops.size).any fun j => match ops[j]? with | some oj => oj.dst == some t | none => false) &&
  topo ops [] is && (List.range ops.size).all is.contains && cs.all (fun c => decide (c < ops.size)) && inOrder ops cs
structure DQ (N : Nat) (ops : Array Oper) (cs : List Nat) (full : List (Nat × Av)) : Prop where
  gd : ∀ (i : Nat) (o : Oper), ops[i]? = some o → o.guard = none
  dst : ∀ (i : Nat) (o : Oper), ops[i]? = some o → dstOk N o = true ∧ (i ∉ cs → ∃ d, o.dst = some d)
  dep : ∀ (i : Nat) (o : Oper), ops[i]? = some o → ∀ t ∈ o.looksAt ops, ∀ (j : Nat) (oj : Oper), ops[j]? = some oj → oj.dst = some t → ∃ e ∈ o.after, Region.binds .any e = true ∧ e.on = j
  key : ∀ t, (look full t).isSome = true → ∃ (j : Nat) (oj : Oper), ops[j]? = some oj ∧ oj.dst = some t
  lt : ∀ c ∈ cs, c < ops.size
structure AtQ (ops : Array Oper) (full base : List (Nat × Av)) (ps : List Nat) (own : List (Nat × Ow)) (rest : List Nat) (listed : Array Bool) (σ : St) : Prop where
  o : σ.h = look own
  pl : ∀ p ∈ ps, listed.getD p false = true
  rl : ∀ c ∈ rest, listed.getD c false = false
  t1 : ∀ (j : Nat) (oj : Oper) (t : Tmp), ops[j]? = some oj → oj.dst = some t → listed.getD j false = true → σ.tmp t = valT full base t
  t0 : ∀ t : Tmp, (∀ (j : Nat) (oj : Oper), ops[j]? = some oj → oj.dst = some t → listed.getD j false = false) → σ.tmp t = (look base t).getD .any
theorem AtQ.sees {cs : List Nat} {full base : List (Nat × Av)} {ps : List Nat} {own : List (Nat × Ow)} {rest : List Nat} {listed : Array Bool} {σ : St} (A : AtQ ops full base ps own rest listed σ) (D : DQ N ops cs full) {i : Nat} {o : Oper} (ho : ops[i]? = some o) (hr : ∀ e ∈ o.after, Region.binds .any e = true → listed.getD e.on false = true) (own' : List (Nat × Ow)) :
    ∀ x ∈ o.op.operands, σ.ev x = (St.mk (full ++ base) own').ev x := by
  refine ops_looks (ops := ops) fun t ht => ?_
  rw [full_tmp]
  by_cases hj : ∃ (j : Nat) (oj : Oper), ops[j]? = some oj ∧ oj.dst = some t
  · obtain ⟨j, oj, h1, h2⟩ := hj
    obtain ⟨e, he, hb, rfl⟩ := D.dep i o ho t ht j oj h1 h2
    exact A.t1 _ oj t h1 h2 (hr e he hb)
  · rw [A.t0 t fun j oj h1 h2 => absurd ⟨j, oj, h1, h2⟩ hj]
    unfold valT
    cases hf : look full t with
    | none => rfl
    | some x => obtain ⟨j, oj, h1, h2⟩ := D.key t (by rw [hf]; rfl); exact absurd ⟨j, oj, h1, h2⟩ hj
theorem anyX_q {cs : List Nat} {full base : List (Nat × Av)} {K : St → Prop} (D : DQ N ops cs full) {is : List Nat} (ht : topo ops [] is = true) (hall : ∀ i, i < ops.size → i ∈ is) {ownF : List (Nat × Ow)}
    (hK : ∀ σ : St, σ.h = look ownF → (∀ t, σ.tmp t = valT full base t) → K σ) : ∀ (n : Nat) (ps : List Nat) (own : List (Nat × Ow)) (es : List (Nat × List (Nat × Ow))) (listed : Array Bool) (σ : St), (∀ c, c ∈ cs ↔ c ∈ ps ∨ c ∈ es.map (·.1)) → inOrder ops (es.map (·.1)) = true → stOk P N ops full base is cs ps own es → lastO own es = ownF →
      listed.size = ops.size → unl ops.size listed ≤ n → Closed ops listed → AtQ ops full base ps own (es.map (·.1)) listed σ → anyX P N ops K n listed σ := by
  have fin : ∀ (ps : List Nat) (own : List (Nat × Ow)) (es : List (Nat × List (Nat × Ow))) (listed : Array Bool) (σ : St), (∀ c, c ∈ cs ↔ c ∈ ps ∨ c ∈ es.map (·.1)) → lastO own es = ownF → listed.size = ops.size → Region.ready .any ops listed = [] → AtQ ops full base ps own (es.map (·.1)) listed σ → K σ := fun ps own es listed σ hcs hlo hs hr A => by
    have hl : ∀ i, i < ops.size → listed.getD i false = true := fun i hi => by
      rw [getD_two (by rw [hs]; exact hi) false true]
      cases hq : listed.getD i true with
      | true => rfl
      | false =>
        obtain ⟨j, hj⟩ := topo_ready ht (fun _ h => by cases h) hs ⟨i, hall i hi, hq⟩
        rw [hr] at hj; cases hj
    cases es with
    | cons e es =>
      have h1 := A.rl e.1 (by simp)
      rw [hl e.1 (D.lt e.1 ((hcs e.1).2 (.inr (by simp))))] at h1; cases h1
    | nil =>
      simp only [lastO] at hlo
      subst hlo
      refine hK σ A.o fun t => ?_
      by_cases hj : ∃ (j : Nat) (oj : Oper), ops[j]? = some oj ∧ oj.dst = some t
      · obtain ⟨j, oj, h1, h2⟩ := hj
        exact A.t1 j oj t h1 h2 (hl j (Array.getElem?_eq_some_iff.1 h1).1)
      · rw [A.t0 t fun j oj h1 h2 => absurd ⟨j, oj, h1, h2⟩ hj]
        unfold valT
        cases hf : look full t with
        | none => rfl
        | some x => obtain ⟨j, oj, h1, h2⟩ := D.key t (by rw [hf]; rfl); exact absurd ⟨j, oj, h1, h2⟩ hj
  intro n
  induction n with
  | zero =>
    intro ps own es listed σ hcs hio hst hlo hs hu hcl A
    have hr : Region.ready .any ops listed = [] := by
      cases hq : Region.ready .any ops listed with
      | nil => rfl
      | cons i l =>
        obtain ⟨h1, o, ho, _⟩ := mem_ready.1 (show i ∈ Region.ready .any ops listed by rw [hq]; exact List.mem_cons_self ..)
        have := unl_set hs (Array.getElem?_eq_some_iff.1 ho).1 h1
        omega
    exact ⟨hr, fin ps own es listed σ hcs hlo hs hr A⟩
  | succ n ih =>
    intro ps own es listed σ hcs hio hst hlo hs hu hcl A
    refine ⟨fun hr => fin ps own es listed σ hcs hlo hs hr A, fun i hi => ?_⟩
    obtain ⟨hl, o, ho, hr⟩ := mem_ready.1 hi
    have hin := (Array.getElem?_eq_some_iff.1 ho).1
    have hli : listed.getD i false = false := by rw [getD_two (by rw [hs]; exact hin) false true]; exact hl
    have hg := D.gd i o ho
    have hset : ∀ j, (listed.setIfInBounds i true).getD j false = if i = j then true else listed.getD j false := fun j => by
      by_cases e : i = j
      · subst e; simp [hs, hin]
      · rw [if_neg e]; exact getD_set_ne false e
    have hip : i ∉ ps := fun h => by rw [A.pl i h] at hli; cases hli
    have tt : ∀ (σ' : St) (ps' : List Nat) (own' : List (Nat × Ow)) (rest' : List Nat), σ'.h = look own' → (∀ p ∈ ps', p = i ∨ p ∈ ps) → (∀ c ∈ rest', c ≠ i ∧ c ∈ es.map (·.1)) → (∀ t, σ'.tmp t = if o.dst = some t then valT full base t else σ.tmp t) → AtQ ops full base ps' own' rest' (listed.setIfInBounds i true) σ' := fun σ' ps' own' rest' h1 h2 h3 h4 => by
      refine ⟨h1, fun p hp => ?_, fun c hc => ?_, fun j oj t hj hd hlj => ?_, fun t hno => ?_⟩
      · rw [hset]
        split
        · rfl
        · next e => exact A.pl p ((h2 p hp).resolve_left (Ne.symm e))
      · rw [hset, if_neg (Ne.symm (h3 c hc).1)]; exact A.rl c (h3 c hc).2
      · rw [h4]
        by_cases e : o.dst = some t
        · rw [if_pos e]
        · rw [if_neg e]
          rw [hset] at hlj
          by_cases ej : i = j
          · subst ej; rw [ho] at hj; cases hj; exact absurd hd e
          · rw [if_neg ej] at hlj; exact A.t1 j oj t hj hd hlj
      · rw [h4]
        have hne : o.dst ≠ some t := fun e => by
          have := hno i o ho e
          rw [hset, if_pos rfl] at this; cases this
        rw [if_neg hne]
        refine A.t0 t fun j oj hj hd => ?_
        have := hno j oj hj hd
        rw [hset] at this
        by_cases ej : i = j
        · rw [if_pos ej] at this; cases this
        · rw [if_neg ej] at this; exact this
    refine ⟨o, ho, ?_⟩
    unfold opX
    have hgo : guardA ops σ o = some true := by unfold guardA; rw [hg]
    rw [hgo]
    refine ⟨fun _ => ?_, fun h => by cases h⟩
    by_cases hic : i ∈ cs
    ·
      have hie : i ∈ es.map (·.1) := ((hcs i).1 hic).resolve_left hip
      cases es with
      | nil => cases hie
      | cons e es =>
        obtain ⟨c, own'⟩ := e
        have hci : i = c := by
          rcases List.mem_cons.1 hie with h | h
          · exact h
          · exfalso
            simp only [List.map_cons, inOrder, Bool.and_eq_true, List.all_eq_true] at hio
            have h1 := (hio.1 i h).1
            have := waits_listed hcl 64 i h1 fun o' ho' => by rw [ho] at ho'; cases ho'; exact hr
            rw [A.rl c (by simp)] at this; cases this
        subst hci
        obtain ⟨_, ⟨o', ho', heff⟩, hst'⟩ := hst
        have := op_of_nth ho'
        rw [ho] at this; cases this
        simp only [List.map_cons, inOrder, Bool.and_eq_true, List.all_eq_true] at hio
        refine heff σ A.o (A.sees D ho hr own) (fun t => ?_) _ fun σ' h1 h2 => ih (i :: ps) own' es _ σ' (fun c => ?_) hio.2 hst' hlo (by simp [hs]) (by have := unl_set hs hin hl; omega) (hcl.set hi) (tt σ' _ _ _ h1 (fun p hp => List.mem_cons.1 hp) (fun c hc => ⟨by have := (hio.1 c hc).2; simpa using this, by simp only [List.map_cons]; exact List.mem_cons_of_mem _ hc⟩) h2)
        · by_cases hj : ∃ (j : Nat) (oj : Oper), ops[j]? = some oj ∧ oj.dst = some t ∧ listed.getD j false = true
          · obtain ⟨j, oj, h1, h2, h3⟩ := hj
            exact .inl (A.t1 j oj t h1 h2 h3)
          · refine .inr (A.t0 t fun j oj h1 h2 => ?_)
            cases hq : listed.getD j false with
            | false => rfl
            | true => exact absurd ⟨j, oj, h1, h2, hq⟩ hj
        · rw [hcs c]; simp only [List.map_cons, List.mem_cons]; constructor
          · rintro (h | h | h)
            · exact .inl (.inr h)
            · exact .inl (.inl h)
            · exact .inr h
          · rintro ((h | h) | h)
            · exact .inr (.inl h)
            · exact .inl h
            · exact .inr (.inr h)
    · obtain ⟨hdk, hdd⟩ := D.dst i o ho
      obtain ⟨d, hd⟩ := hdd hic
      have hcf : cs.contains i = false := by simpa using hic
      have hpw : (ps.any fun p => waits ops 64 p i) = false := by
        cases hq : ps.any fun p => waits ops 64 p i with
        | false => rfl
        | true =>
          obtain ⟨p, hp, hw⟩ := List.any_eq_true.1 hq
          have := waits_listed hcl 64 p hw fun o' ho' => hcl p o' ho' (A.pl p hp)
          rw [hli] at this; cases this
      have hv : vval P ⟨full ++ base, own⟩ o = some (valT full base d) := by
        cases es with
        | nil => exact valsOk_spec hst i (hall i hin) (by rw [hcf, hpw]; rfl) o d ho hd
        | cons e es =>
          obtain ⟨c, own'⟩ := e
          have hw : waits ops 64 i c = false := by
            cases hq : waits ops 64 i c with
            | false => rfl
            | true =>
              have := waits_listed hcl 64 i hq fun o' ho' => by rw [ho] at ho'; cases ho'; exact hr
              rw [A.rl c (by simp)] at this; cases this
          exact valsOk_spec hst.1 i (hall i hin) (by rw [hcf, hpw, hw]; rfl) o d ho hd
      have hv' : vval P σ o = some (valT full base d) := by
        rw [← hv]
        exact vval_congr (A.sees D ho hr own) A.o
      refine ⟨hdk, ?_⟩
      rw [hv']
      refine ih ps own es _ _ hcs hio hst hlo (by simp [hs]) (by have := unl_set hs hin hl; omega) (hcl.set hi) (tt _ ps own _ (by rw [put_h]; exact A.o) (fun p hp => .inr hp) (fun c hc => ⟨fun e => ?_, hc⟩) fun t => ?_)
      · subst e; exact hic ((hcs c).2 (.inr hc))
      · rw [put_tmp]
        by_cases e : o.dst = some t
        · rw [if_pos e, if_pos e]
          rw [hd] at e; cases e; rfl
        · rw [if_neg e, if_neg e]
theorem aw_drawn_q {id : Nat} {l : List Oper} {Q : Exit → St → Prop} {base : List (Nat × Av)} {own0 : List (Nat × Ow)} (hm : P.follows .mixedOrders = true) (is : List Nat) (full : List (Nat × Av)) (es : List (Nat × List (Nat × Ow)))
    (hok : dqOk N l.toArray (es.map (·.1)) is (full.map (·.1)) = true) (hst : stOk P N l.toArray full base is (es.map (·.1)) [] own0 es)
    (h : Q .normal ⟨full ++ base, lastO own0 es⟩) : AWp P N w0 S0 (.region id l.toArray true) Q ⟨base, own0⟩ := fun β a w s => by
  simp only [dqOk, Bool.and_eq_true] at hok
  obtain ⟨⟨⟨⟨⟨k1, k2⟩, k3⟩, k4⟩, k5⟩, k6⟩ := hok
  have kk : ∀ i o, l.toArray[i]? = some o → o.guard = none ∧ dstOk N o = true ∧ (i ∉ es.map (·.1) → ∃ d, o.dst = some d) ∧ ∀ t ∈ o.looksAt l.toArray, ∀ (j : Nat) (oj : Oper), l.toArray[j]? = some oj → oj.dst = some t → ∃ e ∈ o.after, Region.binds .any e = true ∧ e.on = j := fun i o ho => by
    have := List.all_eq_true.1 k1 i (List.mem_range.2 (Array.getElem?_eq_some_iff.1 ho).1)
    rw [ho] at this
    simp only [Bool.and_eq_true] at this
    obtain ⟨⟨⟨h1, h2⟩, h3⟩, h4⟩ := this
    refine ⟨Option.isNone_iff_eq_none.1 h1, h2, fun hi => ?_, fun t ht j oj hj hd => ?_⟩
    · cases hd : o.dst with
      | none =>
        rw [hd] at h3
        exact absurd (by simpa using h3) hi
      | some d => exact ⟨d, rfl⟩
    · have h5 := List.all_eq_true.1 (List.all_eq_true.1 h4 t ht) j (List.mem_range.2 (Array.getElem?_eq_some_iff.1 hj).1)
      rw [hj] at h5
      simp only [hd, beq_self_eq_true, Bool.not_true, Bool.false_or] at h5
      obtain ⟨e, he, hb⟩ := Array.any_eq_true'.1 h5
      simp only [Bool.and_eq_true, beq_iff_eq] at hb
      exact ⟨e, he, hb.1, hb.2⟩
  have D : DQ N l.toArray (es.map (·.1)) full := ⟨fun i o ho => (kk i o ho).1, fun i o ho => ⟨(kk i o ho).2.1, (kk i o ho).2.2.1⟩, fun i o ho => (kk i o ho).2.2.2, fun t ht => by
    obtain ⟨x, hx⟩ := Option.isSome_iff_exists.1 ht
    have := List.all_eq_true.1 k2 t (List.mem_map.2 ⟨_, look_mem hx, rfl⟩)
    obtain ⟨j, hj, h6⟩ := List.any_eq_true.1 this
    cases ho : l.toArray[j]? with
    | none => rw [ho] at h6; cases h6
    | some oj => rw [ho] at h6; exact ⟨j, oj, ho, by simpa using h6⟩, fun c hc => by have := List.all_eq_true.1 k5 c hc; simpa using this⟩
  have hcl : Closed l.toArray (Array.replicate l.toArray.size false) := fun j o ho hl => by
    rw [Array.getD_eq_getD_getElem?, Array.getElem?_replicate] at hl
    split at hl <;> cases hl
  have hlf : ∀ i, (Array.replicate l.toArray.size false).getD i false = false := fun i => by
    rw [Array.getD_eq_getD_getElem?, Array.getElem?_replicate]; split <;> rfl
  have h1 := anyX_q (P := P) (base := base) (K := fun σ => ∃ τ, Eqv τ σ ∧ Q .normal τ) D k3 (fun i hi => by simpa using List.all_eq_true.1 k4 i (List.mem_range.2 hi))
    (fun σ h2 h3 => ⟨⟨full ++ base, lastO own0 es⟩, ⟨fun t => by rw [full_tmp, h3], h2.symm⟩, h⟩) l.toArray.size [] own0 es (Array.replicate l.toArray.size false) ⟨base, own0⟩ (fun c => by simp) k6 hst rfl (by simp) (by
      have := List.length_filter_le (fun i => !(Array.replicate l.toArray.size false).getD i true) (List.range l.toArray.size)
      rw [List.length_range] at this; exact this) hcl ⟨rfl, fun p h => (by cases h), fun c _ => hlf c, fun j oj t _ _ h => (by rw [hlf] at h; cases h), fun t _ => rfl⟩
  refine wp_region_any hm (anyX_run (fun β σ a w ⟨τ, e, hq⟩ s => ⟨β, τ, hq, s.eqv e.symm⟩) _ _ β _ a _ h1 (s.grow (w' := w.drew) ?_).1)
  exact (Ext.refl w).drew
theorem eff_w {full base : List (Nat × Av)} {o : Oper} {own : List (Nat × Ow)} {id : Nat} {x : Ow} {r : Av} (hdk : dstOk N o = true) (hW : isW o.op = true) {own' : List (Nat × Ow)} (hq : wres P ⟨full ++ base, own⟩ o = some (id, x, r)) (hoo : (id, x) :: own = own') (hv : ∀ d, o.dst = some d → valT full base d = r) : Eff P N full base o own own' := fun σ e0 e1 e2 K hK => by
  subst hoo
  refine ⟨hdk, ?_⟩
  rw [vval_W hW]
  have hq' : wres P σ o = some (id, x, r) := by rw [wres_congr e1 (τ := ⟨full ++ base, own⟩) e0]; exact hq
  simp only [wstep_of hq']
  refine hK _ ?_ fun t => ?_
  · rw [put_h, new_h, e0]; funext i
    simp only [look]
    by_cases e : id = i
    · subst e; simp
    · simp [e, Ne.symm e]
  · rw [put_tmp]
    by_cases e : o.dst = some t
    · rw [if_pos e, if_pos e]; exact (hv t e).symm
    · rw [if_neg e, if_neg e]; rfl
theorem eff_p {full base : List (Nat × Av)} {own own' : List (Nat × Ow)} {o : Oper} {f : FuncId} {xs args : List Av} {Ts : List TypeId} {ownA ownB : List (Nat × Ow)} {ρ : List (Nat × Nat)} {r0 : Av} {d : Tmp} (t : Nat) (hp : plainCall o.op = true) (hd : o.dst = some d) (hdk : dstOk N o = true)
    (hc : calleeOf P ⟨full ++ base, own⟩ o = some (f, xs, Ts)) (hx : argsC P [] (look own) xs Ts = args.map (Av.ren (renI ρ t))) (ho : handOk ρ args ownA = true) (hh : handed (look own) (renI ρ t) ownA) (hR : AProc P f args ownA fun r own' => r = r0 ∧ own' = ownB)
    (hb : backOk ⟨[], own⟩ ρ t ownB = true) (h1 : mapV (Ow.fix (look (backH ⟨[], own⟩ ρ t ownB))) (backH ⟨[], own⟩ ρ t ownB) = own') (hv : (r0.ren (renI ρ t)).fix (look (backH ⟨[], own⟩ ρ t ownB)) = valT full base d)
    (hfix : ∀ p ∈ full ++ base, p.2.fix (look (backH ⟨[], own⟩ ρ t ownB)) = p.2) : Eff P N full base o own own' := fun σ e0 e1 e2 K hK => by
  have key := eff_proc (P := P) (N := N) (σ := ⟨σ.tmps, own⟩) (full := full) (base := base) (own0 := own) (own1 := own') (o := o) (K := K) t hp hd hdk hc hx ho hh hR hb h1 hv hfix rfl (fun x hx => by rw [← e1 x hx]; cases x <;> rfl) (fun t' => e2 t') fun σ' h2 h3 => hK σ' h2 h3
  obtain ⟨k1, k2⟩ := key
  refine ⟨k1, ?_⟩
  rw [vval_plain hp, wstep_none (plain_notW hp)] at k2 ⊢
  have hsh : σ.h = look own := e0
  have hkk : ∀ i, hasKey σ.own i = hasKey own i := fun i => by
    have : look σ.own i = look own i := congrFun e0 i
    cases hq : hasKey own i with
    | true => obtain ⟨x, hx⟩ := hasKey_iff.1 hq; exact hasKey_iff.2 ⟨x, by rw [this, hx]⟩
    | false =>
      cases hq2 : hasKey σ.own i with
      | false => rfl
      | true => obtain ⟨x, hx⟩ := hasKey_iff.1 hq2; rw [this] at hx; rw [hasKey_iff.2 ⟨x, hx⟩] at hq; cases hq
  have hbo : ∀ own', backOk σ ρ t own' = backOk ⟨[], own⟩ ρ t own' := fun own' => by
    unfold backOk
    simp only [hkk]
  have hfil : ∀ (p : Nat → Bool) (l : List (Nat × Ow)) (i : Nat), look (filK p l) i = if p i then look l i else none := fun p l i => by
    induction l with
    | nil => simp [filK, look]
    | cons q l ih =>
      obtain ⟨k, x⟩ := q
      simp only [filK]
      cases hpk : p k with
      | true =>
        simp only [look]
        by_cases e : k = i
        · subst e; simp [hpk]
        · simp only [if_neg e]; exact ih
      | false =>
        simp only [look]
        by_cases e : k = i
        · subst e; rw [ih]; simp [hpk]
        · simp only [if_neg e]; exact ih
  have hbh : ∀ own', look (backH σ ρ t own') = look (backH ⟨[], own⟩ ρ t own') := fun own' => by
    funext i
    unfold backH
    rw [look_append, look_append, hfil, hfil]
    have : look σ.own i = look own i := congrFun e0 i
    simp only [this]
  have hfx : ∀ t', (σ.tmp t').fix (look (backH ⟨[], own⟩ ρ t ownB)) = σ.tmp t' := fun t' => by
    have hl : ∀ {l : List (Nat × Av)}, (∀ p ∈ l, p ∈ full ++ base) → ∀ x, look l t' = some x → x.fix (look (backH ⟨[], own⟩ ρ t ownB)) = x := fun {l} hl x hx => hfix _ (hl _ (look_mem hx))
    rcases e2 t' with h | h <;> rw [h]
    · unfold valT
      cases hq : look full t' with
      | some x => exact hl (fun p hp => List.mem_append_left _ hp) x hq
      | none =>
        cases hq2 : look base t' with
        | some x => exact hl (fun p hp => List.mem_append_right _ hp) x hq2
        | none => rfl
    · cases hq2 : look base t' with
      | some x => exact hl (fun p hp => List.mem_append_right _ hp) x hq2
      | none => rfl
  refine .inr (.proc (t := t) (ρ := ρ) (own0 := ownA) (args := args) (by rw [calleeOf_congr e1 hsh]; exact hc) (by rw [hsh]; exact hx) ho (by rw [hsh]; exact hh) hR ?_)
  rintro r own'' ⟨rfl, rfl⟩
  refine ⟨by rw [hbo]; exact hb, hK _ ?_ fun t' => ?_⟩
  · rw [put_h]
    show look (mapV (Ow.fix (look (backH σ ρ t own''))) (backH σ ρ t own'')) = look own'
    rw [← h1]
    funext i
    simp only [mapV_eq, look_map, hbh]
  · rw [put_tmp, hbh, hv, hd]
    by_cases e : some d = some t'
    · rw [if_pos e, if_pos e]; cases e; rfl
    · rw [if_neg e, if_neg e]
      have : (σ.back ρ t own'').tmp t' = (σ.tmp t').fix (look (backH σ ρ t own'')) := by
        unfold St.back St.tmp
        simp only [mapV_eq, look_map, look_dedup]
        cases look σ.tmps t' <;> rfl
      rw [this, hbh]; exact hfx t'
theorem eff_l {full base : List (Nat × Av)} {own : List (Nat × Ow)} {o : Oper} {f : FuncId} {args : List Av} {F : List Nat} {r : Av} {d : Tmp} (hp : plainCall o.op = true) (hd : o.dst = some d) (hdk : dstOk N o = true)
    (hc : callOf P ⟨full ++ base, own⟩ o = some (f, args, F)) (ha : args.all Av.isD = true) (hR : ACalls P f args fun x => x = r) (hpl : r.plain = true) {own' : List (Nat × Ow)} (hoo : own = own') (hv : r = valT full base d) : Eff P N full base o own own' := fun σ e0 e1 e2 K hK => by
  subst hoo
  refine ⟨hdk, ?_⟩
  rw [vval_plain hp, wstep_none (plain_notW hp)]
  refine .inr (.lend (by rw [callOf_congr e1 (τ := ⟨full ++ base, own⟩) e0]; exact hc) ha hR (fun x hx => by subst hx; exact hpl) ?_)
  rintro x rfl _
  refine hK _ (by rw [put_h]; exact e0) fun t => ?_
  rw [put_tmp, hd]
  by_cases e : some d = some t
  · rw [if_pos e, if_pos e]; cases e; exact hv
  · rw [if_neg e, if_neg e]
attribute [simp] lastO
end
end Go.Smd
end
section
set_option linter.unusedSimpArgs false
namespace Go.Smd
open Go.RowKit Go.Proofs
@[simp] theorem meth_0 : Tryz.prog.meth 221 "AsBool" = some (254, false) := by kernel_rfl
@[simp] theorem meth_1 : Tryz.prog.meth 221 "AsFloat" = some (255, false) := by kernel_rfl
@[simp] theorem meth_2 : Tryz.prog.meth 221 "AsInt" = some (256, false) := by kernel_rfl
@[simp] theorem meth_3 : Tryz.prog.meth 221 "AsList" = some (257, false) := by kernel_rfl
@[simp] theorem meth_4 : Tryz.prog.meth 221 "AsListUsing" = some (258, false) := by kernel_rfl
@[simp] theorem meth_5 : Tryz.prog.meth 221 "AsMap" = some (259, false) := by kernel_rfl
@[simp] theorem meth_6 : Tryz.prog.meth 221 "AsMapUsing" = some (260, false) := by kernel_rfl
@[simp] theorem meth_7 : Tryz.prog.meth 221 "AsString" = some (261, false) := by kernel_rfl
@[simp] theorem meth_8 : Tryz.prog.meth 221 "IsBool" = some (262, false) := by kernel_rfl
@[simp] theorem meth_9 : Tryz.prog.meth 221 "IsFloat" = some (263, false) := by kernel_rfl
@[simp] theorem meth_10 : Tryz.prog.meth 221 "IsInt" = some (264, false) := by kernel_rfl
@[simp] theorem meth_11 : Tryz.prog.meth 221 "IsList" = some (265, false) := by kernel_rfl
@[simp] theorem meth_12 : Tryz.prog.meth 221 "IsMap" = some (266, false) := by kernel_rfl
@[simp] theorem meth_13 : Tryz.prog.meth 221 "IsNull" = some (267, false) := by kernel_rfl
@[simp] theorem meth_14 : Tryz.prog.meth 221 "IsString" = some (268, false) := by kernel_rfl
@[simp] theorem meth_15 : Tryz.prog.meth 221 "Unstructured" = some (269, false) := by kernel_rfl
@[simp] theorem meth_16 : Tryz.prog.meth 358 "At" = some (274, false) := by kernel_rfl
@[simp] theorem meth_17 : Tryz.prog.meth 384 "At" = some (274, false) := by kernel_rfl
@[simp] theorem meth_18 : Tryz.prog.meth 358 "AtUsing" = some (275, false) := by kernel_rfl
@[simp] theorem meth_19 : Tryz.prog.meth 384 "AtUsing" = some (275, false) := by kernel_rfl
@[simp] theorem meth_20 : Tryz.prog.meth 358 "Equals" = some (276, false) := by kernel_rfl
@[simp] theorem meth_21 : Tryz.prog.meth 384 "Equals" = some (276, false) := by kernel_rfl
@[simp] theorem meth_22 : Tryz.prog.meth 358 "EqualsUsing" = some (277, false) := by kernel_rfl
@[simp] theorem meth_23 : Tryz.prog.meth 384 "EqualsUsing" = some (277, false) := by kernel_rfl
@[simp] theorem meth_24 : Tryz.prog.meth 358 "Length" = some (278, false) := by kernel_rfl
@[simp] theorem meth_25 : Tryz.prog.meth 384 "Length" = some (278, false) := by kernel_rfl
@[simp] theorem meth_26 : Tryz.prog.meth 358 "Range" = some (279, false) := by kernel_rfl
@[simp] theorem meth_27 : Tryz.prog.meth 384 "Range" = some (279, false) := by kernel_rfl
@[simp] theorem meth_28 : Tryz.prog.meth 358 "RangeUsing" = some (280, false) := by kernel_rfl
@[simp] theorem meth_29 : Tryz.prog.meth 384 "RangeUsing" = some (280, false) := by kernel_rfl
@[simp] theorem meth_30 : Tryz.prog.meth 359 "Delete" = some (282, false) := by kernel_rfl
@[simp] theorem meth_31 : Tryz.prog.meth 359 "Empty" = some (283, false) := by kernel_rfl
@[simp] theorem meth_32 : Tryz.prog.meth 359 "Equals" = some (284, false) := by kernel_rfl
@[simp] theorem meth_33 : Tryz.prog.meth 359 "EqualsUsing" = some (285, false) := by kernel_rfl
@[simp] theorem meth_34 : Tryz.prog.meth 359 "Get" = some (286, false) := by kernel_rfl
@[simp] theorem meth_35 : Tryz.prog.meth 359 "GetUsing" = some (287, false) := by kernel_rfl
@[simp] theorem meth_36 : Tryz.prog.meth 359 "Has" = some (288, false) := by kernel_rfl
@[simp] theorem meth_37 : Tryz.prog.meth 359 "Iterate" = some (289, false) := by kernel_rfl
@[simp] theorem meth_38 : Tryz.prog.meth 359 "IterateUsing" = some (290, false) := by kernel_rfl
@[simp] theorem meth_39 : Tryz.prog.meth 359 "Length" = some (291, false) := by kernel_rfl
@[simp] theorem meth_40 : Tryz.prog.meth 359 "Set" = some (292, false) := by kernel_rfl
@[simp] theorem meth_41 : Tryz.prog.meth 359 "Zip" = some (293, false) := by kernel_rfl
@[simp] theorem meth_42 : Tryz.prog.meth 359 "ZipUsing" = some (294, false) := by kernel_rfl
@[simp] theorem meth_43 : Tryz.prog.meth 385 "Next" = some (306, true) := by kernel_rfl
@[simp] theorem meth_44 : Tryz.prog.meth 382 "Next" = some (304, true) := by kernel_rfl
@[simp] theorem meth_45 : Tryz.prog.meth 385 "Item" = some (305, true) := by kernel_rfl
@[simp] theorem meth_46 : Tryz.prog.meth 382 "Item" = some (303, true) := by kernel_rfl
@[simp] theorem meth_47 : Tryz.prog.meth 222 "Free" = some (270, true) := by kernel_rfl
@[simp] theorem meth_48 : Tryz.prog.meth 222 "pub-coparcener/pub/structuredmerge/value.allocValueUnstructured" = some (157, true) := by kernel_rfl
@[simp] theorem meth_49 : Tryz.prog.meth 222 "pub-coparcener/pub/structuredmerge/value.allocListUnstructuredRange" = some (271, true) := by kernel_rfl
@[simp] theorem treeOk_p : treeOk Tryz.prog = true := by kernel_rfl
@[simp] theorem treeMap_a : Tryz.prog.treeMap 227 = true := by kernel_rfl
@[simp] theorem treeMap_b : Tryz.prog.treeMap 359 = true := by kernel_rfl
abbrev dAlloc : D := .ifc 222 (.pt [])
abbrev aAlloc : Av := .c (.d dAlloc)
abbrev dV (t : Tree) : D := .ifc 221 (.pt [.tr t])
abbrev dM (m : List (ByteArray × Tree)) : D := .ifc 359 (.mp m)
abbrev dL (l : List Tree) : D := .ifc 358 (.sl 20 (l.map fun t => [.tr t]))
theorem idle_free (y : Value) (us : Array Value) : Idle Tryz.prog { target := .fn (.method "Free") #[], args := #[.iface 222 y] ++ us } :=
  idle_of (E := 224) (f := 270) (by kernel_rfl) (by kernel_rfl) Tryz.func270 (by kernel_rfl) rfl Tryz.results270 y us
theorem free_any {xs : List D} : IdleAv Tryz.prog "Free" (.c (.d (.ifc 222 (.pt xs)))) := fun S β h w v us hv => by
  cases (show RepD Tryz.prog w S (.ifc 222 (.pt xs)) v from hv) with
  | ifc hv => exact idle_free _ us.toArray
end Go.Smd
end
