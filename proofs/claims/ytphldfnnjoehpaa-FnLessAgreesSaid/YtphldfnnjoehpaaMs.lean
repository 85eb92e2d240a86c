/- What simp works the machine by. -/
import Derived.Test.YtphldfnnjoehpaaMn
import Derived.Test.YtphldfnnjoehpaaAk
set_option linter.unusedSimpArgs false
namespace Go.Smd
open Go.RowKit

section
variable {P : Program} {N : Nat} {tl : List (Nat × Av)} {hl : List (Nat × Ow)} {σ : St}
theorem dst_mk {d : Option Tmp} {op : Op} {ty : TypeId} {pos : String} {af : Array Edge} {g : Option (Nat × Bool)} : Oper.dst ⟨d, op, ty, pos, af, g⟩ = d := _root_.id rfl
theorem op_mk {d : Option Tmp} {op : Op} {ty : TypeId} {pos : String} {af : Array Edge} {g : Option (Nat × Bool)} : Oper.op ⟨d, op, ty, pos, af, g⟩ = op := _root_.id rfl
theorem guard_mk {d : Option Tmp} {op : Op} {ty : TypeId} {pos : String} {af : Array Edge} {g : Option (Nat × Bool)} : Oper.guard ⟨d, op, ty, pos, af, g⟩ = g := _root_.id rfl
theorem give_nil : σ.give P [] = σ := _root_.id rfl
theorem give_cons {i : Nat} {F : List Nat} : (St.mk tl hl).give P (i :: F) = ⟨mapV (frzA P (i :: F) (look hl)) tl, mapV (frzO P (i :: F) (look hl)) (filK (fun j => !(i :: F).contains j) hl)⟩ := _root_.id rfl
theorem BkR_of {d : Option Tmp} {K : St → Prop} {t : Tg (σ, d, K)} {r : Av} {own' : List (Nat × Ow)} : BkR σ d K t r own' = Must (backOk σ (inR σ.own) (d.getD 0) own') (K ((σ.back (inR σ.own) (d.getD 0) own').put d ((r.ren (renI (inR σ.own) (d.getD 0))).fix (look (backH σ (inR σ.own) (d.getD 0) own'))))) () := _root_.id rfl
theorem own_mk : St.own ⟨tl, hl⟩ = hl := _root_.id rfl
theorem tmps_mk : St.tmps ⟨tl, hl⟩ = tl := _root_.id rfl
theorem back_mk {ρ : List (Nat × Nat)} {t : Nat} {own' : List (Nat × Ow)} : (St.mk tl hl).back ρ t own' = ⟨mapV (Av.fix (look (mapKV (renI ρ t) (Ow.ren (renI ρ t)) own' ++ filK (fun i => !(ρ.map (·.2)).contains i) hl))) (dedupK tl), mapV (Ow.fix (look (mapKV (renI ρ t) (Ow.ren (renI ρ t)) own' ++ filK (fun i => !(ρ.map (·.2)).contains i) hl))) (mapKV (renI ρ t) (Ow.ren (renI ρ t)) own' ++ filK (fun i => !(ρ.map (·.2)).contains i) hl)⟩ := _root_.id rfl
theorem backH_mk {ρ : List (Nat × Nat)} {t : Nat} {own' : List (Nat × Ow)} : backH (St.mk tl hl) ρ t own' = mapKV (renI ρ t) (Ow.ren (renI ρ t)) own' ++ filK (fun i => !(ρ.map (·.2)).contains i) hl := _root_.id rfl
theorem backOk_mk {ρ : List (Nat × Nat)} {t : Nat} {own' : List (Nat × Ow)} : backOk (St.mk tl hl) ρ t own' = keysO own' fun k _ => hasKey ρ k || (!hasKey hl (renI ρ t k) && decide (renI ρ t k < zed) && decide (k < zed)) := _root_.id rfl
end
attribute [simp] zed litA newArr makeA app1 appA appCall baseA rowA minA intsA reps chunk capArgs invokeA isIfc nilIfc nilIs isNilT isConst binA_nil binA_trn binA_ifn binA_ion mapLen lookA assertA assertD okTup newClo funcV funcA capsA trD loadA fieldAddrA partA storeA newCells cellsA indexAddrA lenA extractA sliceA boundA buildA fillA placeS makeIfcA binA_lss binA_gtr binA_leq binA_geq binA_eql binA_neq binA_add binA_sub binA_beq binA_bne binA_seq binA_sne binA_slt binA_sgt binA_feq binA_flt binA_fgt unop_not okVb okInt startL
attribute [simp ↓] tmpL_nil tmpL_eq tmpL_ne tmp_tmpL look_nil look_eq look_ne h_mk put_some put_none new_mk ev_tmp ev_func ev_bool ev_nilIface ev_nilPtr ev_nilFunc ev_nilSlice ev_nilMap dst_mk op_mk guard_mk own_mk tmps_mk
attribute [simp] ev_const
attribute [simp ↓] vv_move vv_assign vv_pick vv_unOp vv_binOp vv_convert vv_field vv_fieldAddr vv_load vv_indexAddr vv_extract vv_nilCheck vv_typeAssert vv_makeFunc vv_lookup vv_makeInterface vv_build vv_slice vv_call len_value len_invoke len_len len_min len_append vv_alloc vv_box vv_store vv_buildSlice vv_makeSlice vv_range vv_next vv_entry vv_defer
attribute [simp] pick_b un_v conv_v field_agg chk_own chk_pt chk_io chk_ifc
attribute [simp] resW_some resW_none callF_some callF_none argsC_nil0 argsC_none argsC_cons
attribute [simp ↓] ws_of ws_alloc ws_box ws_store ws_buildSlice ws_makeSlice ws_append ws_callv ws_calli ws_makeFunc ws_range ws_next ws_entry ws_defer clo_call clo_range clo_next clo_entry clo_defer clo_make co_of ce_func ce_tmp ce_invoke ce_range ce_next ce_entry ce_defer
attribute [simp] gd_b gd_tup gdD_some
attribute [simp ↓] gd_none gd_some nth_zero nth_succ dst_ok dst_none ex_nil ex_lp ex_blk ex_ops_nil ex_ops ex_drw_nil ex_drw ex_seq ex_skip ex_label ex_block ex_ret ex_cond ex_region ex_drawn ex_exit unw_blk unw_ne unw_code unw_ops unw_lp FinX_n FinX_r FinPX_n FinPX_r BkX_n BkX_r
attribute [simp] cls_fold fix1_mk Fx_of eqS_some asX exD_some BkR_of
attribute [simp ↓] gs_nil gs_none gs_some
attribute [simp] Sel_true Sel_false Kv_true Kv_false
attribute [simp 900] Kv_b
attribute [simp 800] Kv_any
attribute [simp] Br_true Br_false Ob_some Ov_some Ov_none Tst_b Must_true
attribute [simp] frzA frzC frzN frzG frzO toDs Av.deep Cl.deep Cl.deepN argC coL coC noT Av.isD Cl.isD resAll resOne toParts toPart resA dedupK gaOk gaFree isApp isW isA plainCall give_nil give_cons mapV mapKV filK
attribute [simp] inOk inK inR mapR keysO hasKey Av.ren Ow.ren Cl.ren Av.ids Ow.ids Cl.ids Av.fix Ow.fix Cl.fix renI backOk_mk backH_mk back_mk handOk nodupB handed Cl.plain Av.plain
end Go.Smd
