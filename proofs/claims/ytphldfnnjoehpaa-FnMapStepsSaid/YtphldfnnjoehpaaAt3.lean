/- laws.isKey, laws.zzFits2 by value. -/
import Derived.Test.YtphldfnnjoehpaaAs
set_option linter.unusedSimpArgs false
namespace Go.Smd
open Go.RowKit Go.Proofs

set_option maxRecDepth 20000 in
set_option maxHeartbeats 400000 in
theorem isKey_a (keys : List ByteArray) (k : ByteArray) : ACalls Try.prog 47 [.c (.d (dStrs keys)), aS k] (fun r => r = aV (.bool (hasK k keys))) := by
  refine acalls_of Try.func47 (by kernel_rfl) rfl Try.ntmps47 Try.results47 (Nat.le_of_ble_eq_true (by kernel_rfl)) ?_
  intro hok w0 S0
  have hl := (strs_ok (okA_c (hok _ (List.mem_cons_self ..)))).1
  have hl2 : keys.length ≤ 9223372036854775807 := by omega
  clear hok
  repeat' (first
    | ((with_reducible apply ops_g); (case hg => simp [guardA, dstOk, vval, wstep, wres, litA, newArr, makeA, app1, appA, appCall, baseA, rowA, minA, intsA, reps, chunk, callOf, St.ev, St.tmp, St.put, St.h, St.new, look, loadA, fieldAddrA, partA, storeA, newCells, cellsA, indexAddrA, lenCall, lenA, extractA, sliceA, boundA, buildA, fillA, placeS, makeIfcA, binA_lss, binA_gtr, binA_leq, binA_geq, binA_eql, binA_neq, binA_add, binA_sub, binA_beq, binA_bne, binA_seq, binA_sne, binA_slt, binA_sgt, binA_feq, binA_flt, binA_fgt, unop_not, okVb, okInt, St.start, startL, cls_fold, hl2]; with_reducible rfl))
    | ((with_reducible apply gk_t); (case he => first | (dsimp only; done) | (dsimp only; rfl)); (case hd => rfl); (case hv => simp [guardA, dstOk, vval, wstep, wres, litA, newArr, makeA, app1, appA, appCall, baseA, rowA, minA, intsA, reps, chunk, callOf, St.ev, St.tmp, St.put, St.h, St.new, look, loadA, fieldAddrA, partA, storeA, newCells, cellsA, indexAddrA, lenCall, lenA, extractA, sliceA, boundA, buildA, fillA, placeS, makeIfcA, binA_lss, binA_gtr, binA_leq, binA_geq, binA_eql, binA_neq, binA_add, binA_sub, binA_beq, binA_bne, binA_seq, binA_sne, binA_slt, binA_sgt, binA_feq, binA_flt, binA_fgt, unop_not, okVb, okInt, St.start, startL, cls_fold, hl2]; with_reducible rfl))
    | ((with_reducible apply vk_lt))
    | ((with_reducible apply vk_lf))
    | ((with_reducible apply vk_d); (case hs => rfl))
    | ((with_reducible apply vk_b); (case hs => rfl))
    | ((with_reducible apply vk_s))
    | ((with_reducible apply vk_w); (case hw => simp [guardA, dstOk, vval, wstep, wres, litA, newArr, makeA, app1, appA, appCall, baseA, rowA, minA, intsA, reps, chunk, callOf, St.ev, St.tmp, St.put, St.h, St.new, look, loadA, fieldAddrA, partA, storeA, newCells, cellsA, indexAddrA, lenCall, lenA, extractA, sliceA, boundA, buildA, fillA, placeS, makeIfcA, binA_lss, binA_gtr, binA_leq, binA_geq, binA_eql, binA_neq, binA_add, binA_sub, binA_beq, binA_bne, binA_seq, binA_sne, binA_slt, binA_sgt, binA_feq, binA_flt, binA_fgt, unop_not, okVb, okInt, St.start, startL, cls_fold, hl2]; with_reducible rfl))
    | ((with_reducible apply gk_f); (case he => first | (dsimp only; done) | (dsimp only; rfl)); (case hd => rfl))
    | ((with_reducible apply ops_nil))
    | ((with_reducible apply aw_sq))
    | ((with_reducible apply th_n))
    | ((with_reducible apply th_r))
    | ((with_reducible apply th_e))
    | ((with_reducible apply ib_n))
    | ((with_reducible apply ib_r))
    | ((with_reducible apply ib_e))
    | ((with_reducible apply ib_o); (case hij => rfl))
    | ((with_reducible apply fq_r))
    | ((with_reducible apply fq_n))
    | ((with_reducible apply fin_of); (case h1 => simp [resA, resAll, resOne, toParts, toPart, argC, coL, coC, guardA, dstOk, vval, wstep, wres, litA, newArr, makeA, app1, appA, appCall, baseA, rowA, minA, intsA, reps, chunk, callOf, St.ev, St.tmp, St.put, St.h, St.new, look, loadA, fieldAddrA, partA, storeA, newCells, cellsA, indexAddrA, lenCall, lenA, extractA, sliceA, boundA, buildA, fillA, placeS, makeIfcA, binA_lss, binA_gtr, binA_leq, binA_geq, binA_eql, binA_neq, binA_add, binA_sub, binA_beq, binA_bne, binA_seq, binA_sne, binA_slt, binA_sgt, binA_feq, binA_flt, binA_fgt, unop_not, okVb, okInt, St.start, startL, cls_fold]; with_reducible rfl); (case h4 => simp [frzA, frzC, frzG, Av.deep, Cl.deep, Cl.ids, argC, coL, coC, guardA, dstOk, vval, wstep, wres, litA, newArr, makeA, app1, appA, appCall, baseA, rowA, minA, intsA, reps, chunk, callOf, St.ev, St.tmp, St.put, St.h, St.new, look, loadA, fieldAddrA, partA, storeA, newCells, cellsA, indexAddrA, lenCall, lenA, extractA, sliceA, boundA, buildA, fillA, placeS, makeIfcA, binA_lss, binA_gtr, binA_leq, binA_geq, binA_eql, binA_neq, binA_add, binA_sub, binA_beq, binA_bne, binA_seq, binA_sne, binA_slt, binA_sgt, binA_feq, binA_flt, binA_fgt, unop_not, okVb, okInt, St.start, startL, cls_fold]; with_reducible rfl); (case h2 => first | rfl | simp [Av.isD, Cl.isD]))
    | ((with_reducible apply aw_region))
    | ((with_reducible apply aw_cond_r); (case hc => simp [guardA, dstOk, vval, wstep, wres, litA, newArr, makeA, app1, appA, appCall, baseA, rowA, minA, intsA, reps, chunk, callOf, St.ev, St.tmp, St.put, St.h, St.new, look, loadA, fieldAddrA, partA, storeA, newCells, cellsA, indexAddrA, lenCall, lenA, extractA, sliceA, boundA, buildA, fillA, placeS, makeIfcA, binA_lss, binA_gtr, binA_leq, binA_geq, binA_eql, binA_neq, binA_add, binA_sub, binA_beq, binA_bne, binA_seq, binA_sne, binA_slt, binA_sgt, binA_feq, binA_flt, binA_fgt, unop_not, okVb, okInt, St.start, startL, cls_fold, hl2]; with_reducible rfl))
    | ((with_reducible apply ck_t))
    | ((with_reducible apply ck_f))
    | ((with_reducible apply ck_d))
    | ((with_reducible apply ck_b))
    | ((with_reducible apply aw_skip))
    | ((with_reducible apply aw_ret))
    | ((with_reducible apply aw_exit))
    | ((with_reducible apply aw_block))
    | ((with_reducible intro _)))
  refine aw_loop (fun i : Nat => ⟨[(1, aS k), (7, .c (.d (dStrs keys))), (8, aV (.int .i64 keys.length)), (9, aV (.int .i64 i))], []⟩) (fun i => i ≤ keys.length ∧ ∀ (j : Nat) (h : j < keys.length), j < i → keys[j] ≠ k) (fun i => keys.length - i) 0 ?_ ⟨Nat.zero_le _, fun j x h => by omega⟩ ?_
  · exact Weak.same (by simp [St.tmp, St.put, look, St.start, startL]) (by simp [St.h, St.put, look]) (by first | rfl | (simp [closedSt, Av.ids, Ow.ids, Cl.ids, Go.Smd.keys]; done))
  · rintro i ⟨hi, hall⟩ K hK
    by_cases hlt : i < keys.length
    · have hw : IntKind.wrap .i64 ((i : Int) + 1) = ((i + 1 : Nat) : Int) := by rw [wrap_i64] <;> omega
      repeat' (first
    | ((with_reducible apply ops_g); (case hg => simp [guardA, dstOk, vval, wstep, wres, litA, newArr, makeA, app1, appA, appCall, baseA, rowA, minA, intsA, reps, chunk, callOf, St.ev, St.tmp, St.put, St.h, St.new, look, loadA, fieldAddrA, partA, storeA, newCells, cellsA, indexAddrA, lenCall, lenA, extractA, sliceA, boundA, buildA, fillA, placeS, makeIfcA, binA_lss, binA_gtr, binA_leq, binA_geq, binA_eql, binA_neq, binA_add, binA_sub, binA_beq, binA_bne, binA_seq, binA_sne, binA_slt, binA_sgt, binA_feq, binA_flt, binA_fgt, unop_not, okVb, okInt, St.start, startL, cls_fold, hl2, hlt, hw, rowS]; with_reducible rfl))
    | ((with_reducible apply gk_t); (case he => first | (dsimp only; done) | (dsimp only; rfl)); (case hd => rfl); (case hv => simp [guardA, dstOk, vval, wstep, wres, litA, newArr, makeA, app1, appA, appCall, baseA, rowA, minA, intsA, reps, chunk, callOf, St.ev, St.tmp, St.put, St.h, St.new, look, loadA, fieldAddrA, partA, storeA, newCells, cellsA, indexAddrA, lenCall, lenA, extractA, sliceA, boundA, buildA, fillA, placeS, makeIfcA, binA_lss, binA_gtr, binA_leq, binA_geq, binA_eql, binA_neq, binA_add, binA_sub, binA_beq, binA_bne, binA_seq, binA_sne, binA_slt, binA_sgt, binA_feq, binA_flt, binA_fgt, unop_not, okVb, okInt, St.start, startL, cls_fold, hl2, hlt, hw, rowS]; with_reducible rfl))
    | ((with_reducible apply vk_lt))
    | ((with_reducible apply vk_lf))
    | ((with_reducible apply vk_d); (case hs => rfl))
    | ((with_reducible apply vk_b); (case hs => rfl))
    | ((with_reducible apply vk_s))
    | ((with_reducible apply vk_w); (case hw => simp [guardA, dstOk, vval, wstep, wres, litA, newArr, makeA, app1, appA, appCall, baseA, rowA, minA, intsA, reps, chunk, callOf, St.ev, St.tmp, St.put, St.h, St.new, look, loadA, fieldAddrA, partA, storeA, newCells, cellsA, indexAddrA, lenCall, lenA, extractA, sliceA, boundA, buildA, fillA, placeS, makeIfcA, binA_lss, binA_gtr, binA_leq, binA_geq, binA_eql, binA_neq, binA_add, binA_sub, binA_beq, binA_bne, binA_seq, binA_sne, binA_slt, binA_sgt, binA_feq, binA_flt, binA_fgt, unop_not, okVb, okInt, St.start, startL, cls_fold, hl2, hlt, hw, rowS]; with_reducible rfl))
    | ((with_reducible apply gk_f); (case he => first | (dsimp only; done) | (dsimp only; rfl)); (case hd => rfl))
    | ((with_reducible apply ops_nil))
    | ((with_reducible apply aw_sq))
    | ((with_reducible apply th_n))
    | ((with_reducible apply th_r))
    | ((with_reducible apply th_e))
    | ((with_reducible apply ib_n))
    | ((with_reducible apply ib_r))
    | ((with_reducible apply ib_e))
    | ((with_reducible apply ib_o); (case hij => rfl))
    | ((with_reducible apply fq_r))
    | ((with_reducible apply fq_n))
    | ((with_reducible apply fin_of); (case h1 => simp [resA, resAll, resOne, toParts, toPart, argC, coL, coC, guardA, dstOk, vval, wstep, wres, litA, newArr, makeA, app1, appA, appCall, baseA, rowA, minA, intsA, reps, chunk, callOf, St.ev, St.tmp, St.put, St.h, St.new, look, loadA, fieldAddrA, partA, storeA, newCells, cellsA, indexAddrA, lenCall, lenA, extractA, sliceA, boundA, buildA, fillA, placeS, makeIfcA, binA_lss, binA_gtr, binA_leq, binA_geq, binA_eql, binA_neq, binA_add, binA_sub, binA_beq, binA_bne, binA_seq, binA_sne, binA_slt, binA_sgt, binA_feq, binA_flt, binA_fgt, unop_not, okVb, okInt, St.start, startL, cls_fold]; with_reducible rfl); (case h4 => simp [frzA, frzC, frzG, Av.deep, Cl.deep, Cl.ids, argC, coL, coC, guardA, dstOk, vval, wstep, wres, litA, newArr, makeA, app1, appA, appCall, baseA, rowA, minA, intsA, reps, chunk, callOf, St.ev, St.tmp, St.put, St.h, St.new, look, loadA, fieldAddrA, partA, storeA, newCells, cellsA, indexAddrA, lenCall, lenA, extractA, sliceA, boundA, buildA, fillA, placeS, makeIfcA, binA_lss, binA_gtr, binA_leq, binA_geq, binA_eql, binA_neq, binA_add, binA_sub, binA_beq, binA_bne, binA_seq, binA_sne, binA_slt, binA_sgt, binA_feq, binA_flt, binA_fgt, unop_not, okVb, okInt, St.start, startL, cls_fold]; with_reducible rfl); (case h2 => first | rfl | simp [Av.isD, Cl.isD]))
    | ((with_reducible apply aw_region))
    | ((with_reducible apply aw_cond_r); (case hc => simp [guardA, dstOk, vval, wstep, wres, litA, newArr, makeA, app1, appA, appCall, baseA, rowA, minA, intsA, reps, chunk, callOf, St.ev, St.tmp, St.put, St.h, St.new, look, loadA, fieldAddrA, partA, storeA, newCells, cellsA, indexAddrA, lenCall, lenA, extractA, sliceA, boundA, buildA, fillA, placeS, makeIfcA, binA_lss, binA_gtr, binA_leq, binA_geq, binA_eql, binA_neq, binA_add, binA_sub, binA_beq, binA_bne, binA_seq, binA_sne, binA_slt, binA_sgt, binA_feq, binA_flt, binA_fgt, unop_not, okVb, okInt, St.start, startL, cls_fold, hl2, hlt, hw, rowS]; with_reducible rfl))
    | ((with_reducible apply ck_t))
    | ((with_reducible apply ck_f))
    | ((with_reducible apply ck_d))
    | ((with_reducible apply ck_b))
    | ((with_reducible apply aw_skip))
    | ((with_reducible apply aw_ret))
    | ((with_reducible apply aw_exit))
    | ((with_reducible apply aw_block))
    | ((with_reducible intro _)))
      · rename_i hn
        rw [hasK_iff.2 (List.mem_of_getElem (by simpa using hn))]
      · rename_i hn
        refine hK _ (i + 1) ?_ ⟨by omega, fun j h hj => ?_⟩ (by omega)
        · exact Weak.same (by simp [St.tmp, St.put, look, St.start, startL]) (by simp [St.h, St.put, look]) (by first | rfl | (simp [closedSt, Av.ids, Ow.ids, Cl.ids, Go.Smd.keys]; done))
        · by_cases e : j = i
          · subst e; simpa using hn
          · exact hall j h (by omega)
    · repeat' (first
    | ((with_reducible apply ops_g); (case hg => simp [guardA, dstOk, vval, wstep, wres, litA, newArr, makeA, app1, appA, appCall, baseA, rowA, minA, intsA, reps, chunk, callOf, St.ev, St.tmp, St.put, St.h, St.new, look, loadA, fieldAddrA, partA, storeA, newCells, cellsA, indexAddrA, lenCall, lenA, extractA, sliceA, boundA, buildA, fillA, placeS, makeIfcA, binA_lss, binA_gtr, binA_leq, binA_geq, binA_eql, binA_neq, binA_add, binA_sub, binA_beq, binA_bne, binA_seq, binA_sne, binA_slt, binA_sgt, binA_feq, binA_flt, binA_fgt, unop_not, okVb, okInt, St.start, startL, cls_fold, hl2, hlt]; with_reducible rfl))
    | ((with_reducible apply gk_t); (case he => first | (dsimp only; done) | (dsimp only; rfl)); (case hd => rfl); (case hv => simp [guardA, dstOk, vval, wstep, wres, litA, newArr, makeA, app1, appA, appCall, baseA, rowA, minA, intsA, reps, chunk, callOf, St.ev, St.tmp, St.put, St.h, St.new, look, loadA, fieldAddrA, partA, storeA, newCells, cellsA, indexAddrA, lenCall, lenA, extractA, sliceA, boundA, buildA, fillA, placeS, makeIfcA, binA_lss, binA_gtr, binA_leq, binA_geq, binA_eql, binA_neq, binA_add, binA_sub, binA_beq, binA_bne, binA_seq, binA_sne, binA_slt, binA_sgt, binA_feq, binA_flt, binA_fgt, unop_not, okVb, okInt, St.start, startL, cls_fold, hl2, hlt]; with_reducible rfl))
    | ((with_reducible apply vk_lt))
    | ((with_reducible apply vk_lf))
    | ((with_reducible apply vk_d); (case hs => rfl))
    | ((with_reducible apply vk_b); (case hs => rfl))
    | ((with_reducible apply vk_s))
    | ((with_reducible apply vk_w); (case hw => simp [guardA, dstOk, vval, wstep, wres, litA, newArr, makeA, app1, appA, appCall, baseA, rowA, minA, intsA, reps, chunk, callOf, St.ev, St.tmp, St.put, St.h, St.new, look, loadA, fieldAddrA, partA, storeA, newCells, cellsA, indexAddrA, lenCall, lenA, extractA, sliceA, boundA, buildA, fillA, placeS, makeIfcA, binA_lss, binA_gtr, binA_leq, binA_geq, binA_eql, binA_neq, binA_add, binA_sub, binA_beq, binA_bne, binA_seq, binA_sne, binA_slt, binA_sgt, binA_feq, binA_flt, binA_fgt, unop_not, okVb, okInt, St.start, startL, cls_fold, hl2, hlt]; with_reducible rfl))
    | ((with_reducible apply gk_f); (case he => first | (dsimp only; done) | (dsimp only; rfl)); (case hd => rfl))
    | ((with_reducible apply ops_nil))
    | ((with_reducible apply aw_sq))
    | ((with_reducible apply th_n))
    | ((with_reducible apply th_r))
    | ((with_reducible apply th_e))
    | ((with_reducible apply ib_n))
    | ((with_reducible apply ib_r))
    | ((with_reducible apply ib_e))
    | ((with_reducible apply ib_o); (case hij => rfl))
    | ((with_reducible apply fq_r))
    | ((with_reducible apply fq_n))
    | ((with_reducible apply fin_of); (case h1 => simp [resA, resAll, resOne, toParts, toPart, argC, coL, coC, guardA, dstOk, vval, wstep, wres, litA, newArr, makeA, app1, appA, appCall, baseA, rowA, minA, intsA, reps, chunk, callOf, St.ev, St.tmp, St.put, St.h, St.new, look, loadA, fieldAddrA, partA, storeA, newCells, cellsA, indexAddrA, lenCall, lenA, extractA, sliceA, boundA, buildA, fillA, placeS, makeIfcA, binA_lss, binA_gtr, binA_leq, binA_geq, binA_eql, binA_neq, binA_add, binA_sub, binA_beq, binA_bne, binA_seq, binA_sne, binA_slt, binA_sgt, binA_feq, binA_flt, binA_fgt, unop_not, okVb, okInt, St.start, startL, cls_fold]; with_reducible rfl); (case h4 => simp [frzA, frzC, frzG, Av.deep, Cl.deep, Cl.ids, argC, coL, coC, guardA, dstOk, vval, wstep, wres, litA, newArr, makeA, app1, appA, appCall, baseA, rowA, minA, intsA, reps, chunk, callOf, St.ev, St.tmp, St.put, St.h, St.new, look, loadA, fieldAddrA, partA, storeA, newCells, cellsA, indexAddrA, lenCall, lenA, extractA, sliceA, boundA, buildA, fillA, placeS, makeIfcA, binA_lss, binA_gtr, binA_leq, binA_geq, binA_eql, binA_neq, binA_add, binA_sub, binA_beq, binA_bne, binA_seq, binA_sne, binA_slt, binA_sgt, binA_feq, binA_flt, binA_fgt, unop_not, okVb, okInt, St.start, startL, cls_fold]; with_reducible rfl); (case h2 => first | rfl | simp [Av.isD, Cl.isD]))
    | ((with_reducible apply aw_region))
    | ((with_reducible apply aw_cond_r); (case hc => simp [guardA, dstOk, vval, wstep, wres, litA, newArr, makeA, app1, appA, appCall, baseA, rowA, minA, intsA, reps, chunk, callOf, St.ev, St.tmp, St.put, St.h, St.new, look, loadA, fieldAddrA, partA, storeA, newCells, cellsA, indexAddrA, lenCall, lenA, extractA, sliceA, boundA, buildA, fillA, placeS, makeIfcA, binA_lss, binA_gtr, binA_leq, binA_geq, binA_eql, binA_neq, binA_add, binA_sub, binA_beq, binA_bne, binA_seq, binA_sne, binA_slt, binA_sgt, binA_feq, binA_flt, binA_fgt, unop_not, okVb, okInt, St.start, startL, cls_fold, hl2, hlt]; with_reducible rfl))
    | ((with_reducible apply ck_t))
    | ((with_reducible apply ck_f))
    | ((with_reducible apply ck_d))
    | ((with_reducible apply ck_b))
    | ((with_reducible apply aw_skip))
    | ((with_reducible apply aw_ret))
    | ((with_reducible apply aw_exit))
    | ((with_reducible apply aw_block))
    | ((with_reducible intro _)))
      have : hasK k keys = false := by
        rw [Bool.eq_false_iff]
        intro h
        obtain ⟨j, hj, he⟩ := List.getElem_of_mem (hasK_iff.1 h)
        exact hall j hj (by omega) he
      rw [this]
set_option maxRecDepth 20000 in
set_option maxHeartbeats 400000 in
theorem zzFits2_a (keys : List ByteArray) : ACalls Try.prog 44 [.c (.d (dStrs keys))] (fun r => r = aV (.bool (fits2 keys))) := by
  refine acalls_of Try.func44 (by kernel_rfl) rfl Try.ntmps44 Try.results44 (Nat.le_of_ble_eq_true (by kernel_rfl)) ?_
  intro hok w0 S0
  obtain ⟨hl, hs⟩ := strs_ok (okA_c (hok _ (List.mem_cons_self ..)))
  have hl2 : keys.length ≤ 9223372036854775807 := by omega
  clear hok
  repeat' (first
    | ((with_reducible apply ops_g); (case hg => simp [guardA, dstOk, vval, wstep, wres, litA, newArr, makeA, app1, appA, appCall, baseA, rowA, minA, intsA, reps, chunk, callOf, St.ev, St.tmp, St.put, St.h, St.new, look, loadA, fieldAddrA, partA, storeA, newCells, cellsA, indexAddrA, lenCall, lenA, extractA, sliceA, boundA, buildA, fillA, placeS, makeIfcA, binA_lss, binA_gtr, binA_leq, binA_geq, binA_eql, binA_neq, binA_add, binA_sub, binA_beq, binA_bne, binA_seq, binA_sne, binA_slt, binA_sgt, binA_feq, binA_flt, binA_fgt, unop_not, okVb, okInt, St.start, startL, cls_fold, hl2]; with_reducible rfl))
    | ((with_reducible apply gk_t); (case he => first | (dsimp only; done) | (dsimp only; rfl)); (case hd => rfl); (case hv => simp [guardA, dstOk, vval, wstep, wres, litA, newArr, makeA, app1, appA, appCall, baseA, rowA, minA, intsA, reps, chunk, callOf, St.ev, St.tmp, St.put, St.h, St.new, look, loadA, fieldAddrA, partA, storeA, newCells, cellsA, indexAddrA, lenCall, lenA, extractA, sliceA, boundA, buildA, fillA, placeS, makeIfcA, binA_lss, binA_gtr, binA_leq, binA_geq, binA_eql, binA_neq, binA_add, binA_sub, binA_beq, binA_bne, binA_seq, binA_sne, binA_slt, binA_sgt, binA_feq, binA_flt, binA_fgt, unop_not, okVb, okInt, St.start, startL, cls_fold, hl2]; with_reducible rfl))
    | ((with_reducible apply vk_lt))
    | ((with_reducible apply vk_lf))
    | ((with_reducible apply vk_d); (case hs => rfl))
    | ((with_reducible apply vk_b); (case hs => rfl))
    | ((with_reducible apply vk_s))
    | ((with_reducible apply vk_w); (case hw => simp [guardA, dstOk, vval, wstep, wres, litA, newArr, makeA, app1, appA, appCall, baseA, rowA, minA, intsA, reps, chunk, callOf, St.ev, St.tmp, St.put, St.h, St.new, look, loadA, fieldAddrA, partA, storeA, newCells, cellsA, indexAddrA, lenCall, lenA, extractA, sliceA, boundA, buildA, fillA, placeS, makeIfcA, binA_lss, binA_gtr, binA_leq, binA_geq, binA_eql, binA_neq, binA_add, binA_sub, binA_beq, binA_bne, binA_seq, binA_sne, binA_slt, binA_sgt, binA_feq, binA_flt, binA_fgt, unop_not, okVb, okInt, St.start, startL, cls_fold, hl2]; with_reducible rfl))
    | ((with_reducible apply gk_f); (case he => first | (dsimp only; done) | (dsimp only; rfl)); (case hd => rfl))
    | ((with_reducible apply ops_nil))
    | ((with_reducible apply aw_sq))
    | ((with_reducible apply th_n))
    | ((with_reducible apply th_r))
    | ((with_reducible apply th_e))
    | ((with_reducible apply ib_n))
    | ((with_reducible apply ib_r))
    | ((with_reducible apply ib_e))
    | ((with_reducible apply ib_o); (case hij => rfl))
    | ((with_reducible apply fq_r))
    | ((with_reducible apply fq_n))
    | ((with_reducible apply fin_of); (case h1 => simp [resA, resAll, resOne, toParts, toPart, argC, coL, coC, guardA, dstOk, vval, wstep, wres, litA, newArr, makeA, app1, appA, appCall, baseA, rowA, minA, intsA, reps, chunk, callOf, St.ev, St.tmp, St.put, St.h, St.new, look, loadA, fieldAddrA, partA, storeA, newCells, cellsA, indexAddrA, lenCall, lenA, extractA, sliceA, boundA, buildA, fillA, placeS, makeIfcA, binA_lss, binA_gtr, binA_leq, binA_geq, binA_eql, binA_neq, binA_add, binA_sub, binA_beq, binA_bne, binA_seq, binA_sne, binA_slt, binA_sgt, binA_feq, binA_flt, binA_fgt, unop_not, okVb, okInt, St.start, startL, cls_fold]; with_reducible rfl); (case h4 => simp [frzA, frzC, frzG, Av.deep, Cl.deep, Cl.ids, argC, coL, coC, guardA, dstOk, vval, wstep, wres, litA, newArr, makeA, app1, appA, appCall, baseA, rowA, minA, intsA, reps, chunk, callOf, St.ev, St.tmp, St.put, St.h, St.new, look, loadA, fieldAddrA, partA, storeA, newCells, cellsA, indexAddrA, lenCall, lenA, extractA, sliceA, boundA, buildA, fillA, placeS, makeIfcA, binA_lss, binA_gtr, binA_leq, binA_geq, binA_eql, binA_neq, binA_add, binA_sub, binA_beq, binA_bne, binA_seq, binA_sne, binA_slt, binA_sgt, binA_feq, binA_flt, binA_fgt, unop_not, okVb, okInt, St.start, startL, cls_fold]; with_reducible rfl); (case h2 => first | rfl | simp [Av.isD, Cl.isD]))
    | ((with_reducible apply aw_region))
    | ((with_reducible apply aw_cond_r); (case hc => simp [guardA, dstOk, vval, wstep, wres, litA, newArr, makeA, app1, appA, appCall, baseA, rowA, minA, intsA, reps, chunk, callOf, St.ev, St.tmp, St.put, St.h, St.new, look, loadA, fieldAddrA, partA, storeA, newCells, cellsA, indexAddrA, lenCall, lenA, extractA, sliceA, boundA, buildA, fillA, placeS, makeIfcA, binA_lss, binA_gtr, binA_leq, binA_geq, binA_eql, binA_neq, binA_add, binA_sub, binA_beq, binA_bne, binA_seq, binA_sne, binA_slt, binA_sgt, binA_feq, binA_flt, binA_fgt, unop_not, okVb, okInt, St.start, startL, cls_fold, hl2]; with_reducible rfl))
    | ((with_reducible apply ck_t))
    | ((with_reducible apply ck_f))
    | ((with_reducible apply ck_d))
    | ((with_reducible apply ck_b))
    | ((with_reducible apply aw_skip))
    | ((with_reducible apply aw_ret))
    | ((with_reducible apply aw_exit))
    | ((with_reducible apply aw_block))
    | ((with_reducible intro _)))
  · rename_i hn
    have : fits2 keys = false := by simp [fits2]; omega
    rw [this]
  · rename_i hn
    refine aw_loop (fun i : Nat => ⟨[(8, .c (.d (dStrs keys))), (9, aV (.int .i64 keys.length)), (10, aV (.int .i64 i))], []⟩) (fun i => i ≤ keys.length ∧ ∀ (j : Nat) (h : j < keys.length), j < i → keys[j].size ≤ 2147483647) (fun i => keys.length - i) 0 ?_ ⟨Nat.zero_le _, fun j x h => by omega⟩ ?_
    · exact Weak.same (by simp [St.tmp, St.put, look, St.start, startL]) (by simp [St.h, St.put, look]) (by first | rfl | (simp [closedSt, Av.ids, Ow.ids, Cl.ids, Go.Smd.keys]; done))
    · rintro i ⟨hi, hall⟩ K hK
      by_cases hlt : i < keys.length
      · have hw : IntKind.wrap .i64 ((i : Int) + 1) = ((i + 1 : Nat) : Int) := by rw [wrap_i64] <;> omega
        have hsz := hs keys[i] (List.getElem_mem hlt)
        repeat' (first
    | ((with_reducible apply ops_g); (case hg => simp [guardA, dstOk, vval, wstep, wres, litA, newArr, makeA, app1, appA, appCall, baseA, rowA, minA, intsA, reps, chunk, callOf, St.ev, St.tmp, St.put, St.h, St.new, look, loadA, fieldAddrA, partA, storeA, newCells, cellsA, indexAddrA, lenCall, lenA, extractA, sliceA, boundA, buildA, fillA, placeS, makeIfcA, binA_lss, binA_gtr, binA_leq, binA_geq, binA_eql, binA_neq, binA_add, binA_sub, binA_beq, binA_bne, binA_seq, binA_sne, binA_slt, binA_sgt, binA_feq, binA_flt, binA_fgt, unop_not, okVb, okInt, St.start, startL, cls_fold, hl2, hlt, hw, rowS]; with_reducible rfl))
    | ((with_reducible apply gk_t); (case he => first | (dsimp only; done) | (dsimp only; rfl)); (case hd => rfl); (case hv => simp [guardA, dstOk, vval, wstep, wres, litA, newArr, makeA, app1, appA, appCall, baseA, rowA, minA, intsA, reps, chunk, callOf, St.ev, St.tmp, St.put, St.h, St.new, look, loadA, fieldAddrA, partA, storeA, newCells, cellsA, indexAddrA, lenCall, lenA, extractA, sliceA, boundA, buildA, fillA, placeS, makeIfcA, binA_lss, binA_gtr, binA_leq, binA_geq, binA_eql, binA_neq, binA_add, binA_sub, binA_beq, binA_bne, binA_seq, binA_sne, binA_slt, binA_sgt, binA_feq, binA_flt, binA_fgt, unop_not, okVb, okInt, St.start, startL, cls_fold, hl2, hlt, hw, rowS]; with_reducible rfl))
    | ((with_reducible apply vk_lt))
    | ((with_reducible apply vk_lf))
    | ((with_reducible apply vk_d); (case hs => rfl))
    | ((with_reducible apply vk_b); (case hs => rfl))
    | ((with_reducible apply vk_s))
    | ((with_reducible apply vk_w); (case hw => simp [guardA, dstOk, vval, wstep, wres, litA, newArr, makeA, app1, appA, appCall, baseA, rowA, minA, intsA, reps, chunk, callOf, St.ev, St.tmp, St.put, St.h, St.new, look, loadA, fieldAddrA, partA, storeA, newCells, cellsA, indexAddrA, lenCall, lenA, extractA, sliceA, boundA, buildA, fillA, placeS, makeIfcA, binA_lss, binA_gtr, binA_leq, binA_geq, binA_eql, binA_neq, binA_add, binA_sub, binA_beq, binA_bne, binA_seq, binA_sne, binA_slt, binA_sgt, binA_feq, binA_flt, binA_fgt, unop_not, okVb, okInt, St.start, startL, cls_fold, hl2, hlt, hw, rowS]; with_reducible rfl))
    | ((with_reducible apply gk_f); (case he => first | (dsimp only; done) | (dsimp only; rfl)); (case hd => rfl))
    | ((with_reducible apply ops_nil))
    | ((with_reducible apply aw_sq))
    | ((with_reducible apply th_n))
    | ((with_reducible apply th_r))
    | ((with_reducible apply th_e))
    | ((with_reducible apply ib_n))
    | ((with_reducible apply ib_r))
    | ((with_reducible apply ib_e))
    | ((with_reducible apply ib_o); (case hij => rfl))
    | ((with_reducible apply fq_r))
    | ((with_reducible apply fq_n))
    | ((with_reducible apply fin_of); (case h1 => simp [resA, resAll, resOne, toParts, toPart, argC, coL, coC, guardA, dstOk, vval, wstep, wres, litA, newArr, makeA, app1, appA, appCall, baseA, rowA, minA, intsA, reps, chunk, callOf, St.ev, St.tmp, St.put, St.h, St.new, look, loadA, fieldAddrA, partA, storeA, newCells, cellsA, indexAddrA, lenCall, lenA, extractA, sliceA, boundA, buildA, fillA, placeS, makeIfcA, binA_lss, binA_gtr, binA_leq, binA_geq, binA_eql, binA_neq, binA_add, binA_sub, binA_beq, binA_bne, binA_seq, binA_sne, binA_slt, binA_sgt, binA_feq, binA_flt, binA_fgt, unop_not, okVb, okInt, St.start, startL, cls_fold]; with_reducible rfl); (case h4 => simp [frzA, frzC, frzG, Av.deep, Cl.deep, Cl.ids, argC, coL, coC, guardA, dstOk, vval, wstep, wres, litA, newArr, makeA, app1, appA, appCall, baseA, rowA, minA, intsA, reps, chunk, callOf, St.ev, St.tmp, St.put, St.h, St.new, look, loadA, fieldAddrA, partA, storeA, newCells, cellsA, indexAddrA, lenCall, lenA, extractA, sliceA, boundA, buildA, fillA, placeS, makeIfcA, binA_lss, binA_gtr, binA_leq, binA_geq, binA_eql, binA_neq, binA_add, binA_sub, binA_beq, binA_bne, binA_seq, binA_sne, binA_slt, binA_sgt, binA_feq, binA_flt, binA_fgt, unop_not, okVb, okInt, St.start, startL, cls_fold]; with_reducible rfl); (case h2 => first | rfl | simp [Av.isD, Cl.isD]))
    | ((with_reducible apply aw_region))
    | ((with_reducible apply aw_cond_r); (case hc => simp [guardA, dstOk, vval, wstep, wres, litA, newArr, makeA, app1, appA, appCall, baseA, rowA, minA, intsA, reps, chunk, callOf, St.ev, St.tmp, St.put, St.h, St.new, look, loadA, fieldAddrA, partA, storeA, newCells, cellsA, indexAddrA, lenCall, lenA, extractA, sliceA, boundA, buildA, fillA, placeS, makeIfcA, binA_lss, binA_gtr, binA_leq, binA_geq, binA_eql, binA_neq, binA_add, binA_sub, binA_beq, binA_bne, binA_seq, binA_sne, binA_slt, binA_sgt, binA_feq, binA_flt, binA_fgt, unop_not, okVb, okInt, St.start, startL, cls_fold, hl2, hlt, hw, rowS]; with_reducible rfl))
    | ((with_reducible apply ck_t))
    | ((with_reducible apply ck_f))
    | ((with_reducible apply ck_d))
    | ((with_reducible apply ck_b))
    | ((with_reducible apply aw_skip))
    | ((with_reducible apply aw_ret))
    | ((with_reducible apply aw_exit))
    | ((with_reducible apply aw_block))
    | ((with_reducible intro _)))
        · rename_i hq
          have : fits2 keys = false := by
            rw [Bool.eq_false_iff]; intro h
            simp only [fits2, Bool.and_eq_true, List.all_eq_true, decide_eq_true_eq] at h
            have := h.2 keys[i] (List.getElem_mem hlt)
            omega
          rw [this]
        · rename_i hq
          refine hK _ (i + 1) ?_ ⟨by omega, fun j h hj => ?_⟩ (by omega)
          · exact Weak.same (by simp [St.tmp, St.put, look, St.start, startL]) (by simp [St.h, St.put, look]) (by first | rfl | (simp [closedSt, Av.ids, Ow.ids, Cl.ids, Go.Smd.keys]; done))
          · by_cases e : j = i
            · subst e; omega
            · exact hall j h (by omega)
      · repeat' (first
    | ((with_reducible apply ops_g); (case hg => simp [guardA, dstOk, vval, wstep, wres, litA, newArr, makeA, app1, appA, appCall, baseA, rowA, minA, intsA, reps, chunk, callOf, St.ev, St.tmp, St.put, St.h, St.new, look, loadA, fieldAddrA, partA, storeA, newCells, cellsA, indexAddrA, lenCall, lenA, extractA, sliceA, boundA, buildA, fillA, placeS, makeIfcA, binA_lss, binA_gtr, binA_leq, binA_geq, binA_eql, binA_neq, binA_add, binA_sub, binA_beq, binA_bne, binA_seq, binA_sne, binA_slt, binA_sgt, binA_feq, binA_flt, binA_fgt, unop_not, okVb, okInt, St.start, startL, cls_fold, hl2, hlt]; with_reducible rfl))
    | ((with_reducible apply gk_t); (case he => first | (dsimp only; done) | (dsimp only; rfl)); (case hd => rfl); (case hv => simp [guardA, dstOk, vval, wstep, wres, litA, newArr, makeA, app1, appA, appCall, baseA, rowA, minA, intsA, reps, chunk, callOf, St.ev, St.tmp, St.put, St.h, St.new, look, loadA, fieldAddrA, partA, storeA, newCells, cellsA, indexAddrA, lenCall, lenA, extractA, sliceA, boundA, buildA, fillA, placeS, makeIfcA, binA_lss, binA_gtr, binA_leq, binA_geq, binA_eql, binA_neq, binA_add, binA_sub, binA_beq, binA_bne, binA_seq, binA_sne, binA_slt, binA_sgt, binA_feq, binA_flt, binA_fgt, unop_not, okVb, okInt, St.start, startL, cls_fold, hl2, hlt]; with_reducible rfl))
    | ((with_reducible apply vk_lt))
    | ((with_reducible apply vk_lf))
    | ((with_reducible apply vk_d); (case hs => rfl))
    | ((with_reducible apply vk_b); (case hs => rfl))
    | ((with_reducible apply vk_s))
    | ((with_reducible apply vk_w); (case hw => simp [guardA, dstOk, vval, wstep, wres, litA, newArr, makeA, app1, appA, appCall, baseA, rowA, minA, intsA, reps, chunk, callOf, St.ev, St.tmp, St.put, St.h, St.new, look, loadA, fieldAddrA, partA, storeA, newCells, cellsA, indexAddrA, lenCall, lenA, extractA, sliceA, boundA, buildA, fillA, placeS, makeIfcA, binA_lss, binA_gtr, binA_leq, binA_geq, binA_eql, binA_neq, binA_add, binA_sub, binA_beq, binA_bne, binA_seq, binA_sne, binA_slt, binA_sgt, binA_feq, binA_flt, binA_fgt, unop_not, okVb, okInt, St.start, startL, cls_fold, hl2, hlt]; with_reducible rfl))
    | ((with_reducible apply gk_f); (case he => first | (dsimp only; done) | (dsimp only; rfl)); (case hd => rfl))
    | ((with_reducible apply ops_nil))
    | ((with_reducible apply aw_sq))
    | ((with_reducible apply th_n))
    | ((with_reducible apply th_r))
    | ((with_reducible apply th_e))
    | ((with_reducible apply ib_n))
    | ((with_reducible apply ib_r))
    | ((with_reducible apply ib_e))
    | ((with_reducible apply ib_o); (case hij => rfl))
    | ((with_reducible apply fq_r))
    | ((with_reducible apply fq_n))
    | ((with_reducible apply fin_of); (case h1 => simp [resA, resAll, resOne, toParts, toPart, argC, coL, coC, guardA, dstOk, vval, wstep, wres, litA, newArr, makeA, app1, appA, appCall, baseA, rowA, minA, intsA, reps, chunk, callOf, St.ev, St.tmp, St.put, St.h, St.new, look, loadA, fieldAddrA, partA, storeA, newCells, cellsA, indexAddrA, lenCall, lenA, extractA, sliceA, boundA, buildA, fillA, placeS, makeIfcA, binA_lss, binA_gtr, binA_leq, binA_geq, binA_eql, binA_neq, binA_add, binA_sub, binA_beq, binA_bne, binA_seq, binA_sne, binA_slt, binA_sgt, binA_feq, binA_flt, binA_fgt, unop_not, okVb, okInt, St.start, startL, cls_fold]; with_reducible rfl); (case h4 => simp [frzA, frzC, frzG, Av.deep, Cl.deep, Cl.ids, argC, coL, coC, guardA, dstOk, vval, wstep, wres, litA, newArr, makeA, app1, appA, appCall, baseA, rowA, minA, intsA, reps, chunk, callOf, St.ev, St.tmp, St.put, St.h, St.new, look, loadA, fieldAddrA, partA, storeA, newCells, cellsA, indexAddrA, lenCall, lenA, extractA, sliceA, boundA, buildA, fillA, placeS, makeIfcA, binA_lss, binA_gtr, binA_leq, binA_geq, binA_eql, binA_neq, binA_add, binA_sub, binA_beq, binA_bne, binA_seq, binA_sne, binA_slt, binA_sgt, binA_feq, binA_flt, binA_fgt, unop_not, okVb, okInt, St.start, startL, cls_fold]; with_reducible rfl); (case h2 => first | rfl | simp [Av.isD, Cl.isD]))
    | ((with_reducible apply aw_region))
    | ((with_reducible apply aw_cond_r); (case hc => simp [guardA, dstOk, vval, wstep, wres, litA, newArr, makeA, app1, appA, appCall, baseA, rowA, minA, intsA, reps, chunk, callOf, St.ev, St.tmp, St.put, St.h, St.new, look, loadA, fieldAddrA, partA, storeA, newCells, cellsA, indexAddrA, lenCall, lenA, extractA, sliceA, boundA, buildA, fillA, placeS, makeIfcA, binA_lss, binA_gtr, binA_leq, binA_geq, binA_eql, binA_neq, binA_add, binA_sub, binA_beq, binA_bne, binA_seq, binA_sne, binA_slt, binA_sgt, binA_feq, binA_flt, binA_fgt, unop_not, okVb, okInt, St.start, startL, cls_fold, hl2, hlt]; with_reducible rfl))
    | ((with_reducible apply ck_t))
    | ((with_reducible apply ck_f))
    | ((with_reducible apply ck_d))
    | ((with_reducible apply ck_b))
    | ((with_reducible apply aw_skip))
    | ((with_reducible apply aw_ret))
    | ((with_reducible apply aw_exit))
    | ((with_reducible apply aw_block))
    | ((with_reducible intro _)))
        have : fits2 keys = true := by
          simp only [fits2, Bool.and_eq_true, List.all_eq_true, decide_eq_true_eq]
          refine ⟨by omega, fun x hx => ?_⟩
          obtain ⟨j, hj, rfl⟩ := List.getElem_of_mem hx
          exact hall j hj (by omega)
        rw [this]
end Go.Smd
