/- Part 20 of the proof: Pt Meth Ident Pb. -/
import Derived.Test.YtphldfnnjoehpaaQC17
import Derived.Test.YtphldfnnjoehpaaQC01
import Derived.Test.YtphldfnnjoehpaaQC15
import Derived.Laws.Externs
import Derived.Test.YtphldfnnjoehpaaQC16
set_option linter.unusedVariables false
section
set_option linter.unusedSimpArgs false
set_option maxRecDepth 100000
set_option maxHeartbeats 8000000
namespace Go.Smd
open Go.RowKit Go.Proofs
structure EVs (e : EV) : Prop where
  hk : e.keys.length * 16 ≤ 140737488351232
  hl : e.l.length * 88 ≤ 140737488351232
end Go.Smd
end
section
namespace Go.Smd
open Go.RowKit Go.Proofs
theorem wrapNil_some (ts : Array TypeId) (t : TypeId) (a : Addr) (s n : String) : Builtin.ssaWrapNilChk_ ts t #[.pointer (some a), strVal s, strVal n] = (pure (.pointer (some a)) : Sem Value) := rfl
theorem run_method_ptr {P : Program} {T E : TypeId} {f : Nat} {name : String} (hm : (((P.info? T).bind fun i => i.methods.find? (·.name == name)).map fun m => (m.path.toList, m.func)) = some ([], some (f, false)))
    (hu : P.underlying T = some (.pointer E)) (n : Nat) {a : Addr} {v : Value} {w : World} (hl : (loadVar E a).run P w = .ok v w) :
    (method (n + 1) T (.pointer (some a)) name).run P w = .ok (f, v) w := by
  obtain ⟨m, hm, hmm⟩ := Option.map_eq_some_iff.1 hm
  obtain ⟨i, hi, hf⟩ := Option.bind_eq_some_iff.1 hm
  simp only [Prod.mk.injEq] at hmm
  unfold method
  simp [typeInfo, hi, hf, hmm.2, follow, receiverAt, run_underlying hu, Place.get, hl, wrapNil_some, asAddr, show m.path = #[] from by simpa using hmm.1]
theorem run_loadV {a : Nat} {x : Value} {w : World} (h : w.cell? ⟨a, 0, none⟩ = some x) : (loadVar 216 ⟨a, 0, none⟩).run Try.prog w = .ok (.agg #[x]) w := by
  have h1 : (isAgg 216).run Try.prog w = .ok true w := by simp [isAgg, run_underlying Try.underlying216]
  simp [loadVar, h1, loadCells, loadCellsFrom, h, Addr.add, go_sem]
@[go_sem] theorem v_AsBool (n a : Nat) {x : Value} {w : World} (h : w.cell? ⟨a, 0, none⟩ = some x) : (method (n + 1) 193 (.pointer (some ⟨a, 0, none⟩)) "AsBool").run Try.prog w = .ok (157, .agg #[x]) w := run_method_ptr (by kernel_rfl) Try.underlying193 n (run_loadV h)
@[go_sem] theorem v_AsFloat (n a : Nat) {x : Value} {w : World} (h : w.cell? ⟨a, 0, none⟩ = some x) : (method (n + 1) 193 (.pointer (some ⟨a, 0, none⟩)) "AsFloat").run Try.prog w = .ok (158, .agg #[x]) w := run_method_ptr (by kernel_rfl) Try.underlying193 n (run_loadV h)
@[go_sem] theorem v_AsInt (n a : Nat) {x : Value} {w : World} (h : w.cell? ⟨a, 0, none⟩ = some x) : (method (n + 1) 193 (.pointer (some ⟨a, 0, none⟩)) "AsInt").run Try.prog w = .ok (159, .agg #[x]) w := run_method_ptr (by kernel_rfl) Try.underlying193 n (run_loadV h)
@[go_sem] theorem v_AsList (n a : Nat) {x : Value} {w : World} (h : w.cell? ⟨a, 0, none⟩ = some x) : (method (n + 1) 193 (.pointer (some ⟨a, 0, none⟩)) "AsList").run Try.prog w = .ok (160, .agg #[x]) w := run_method_ptr (by kernel_rfl) Try.underlying193 n (run_loadV h)
@[go_sem] theorem v_AsListUsing (n a : Nat) {x : Value} {w : World} (h : w.cell? ⟨a, 0, none⟩ = some x) : (method (n + 1) 193 (.pointer (some ⟨a, 0, none⟩)) "AsListUsing").run Try.prog w = .ok (161, .agg #[x]) w := run_method_ptr (by kernel_rfl) Try.underlying193 n (run_loadV h)
@[go_sem] theorem v_AsMap (n a : Nat) {x : Value} {w : World} (h : w.cell? ⟨a, 0, none⟩ = some x) : (method (n + 1) 193 (.pointer (some ⟨a, 0, none⟩)) "AsMap").run Try.prog w = .ok (162, .agg #[x]) w := run_method_ptr (by kernel_rfl) Try.underlying193 n (run_loadV h)
@[go_sem] theorem v_AsMapUsing (n a : Nat) {x : Value} {w : World} (h : w.cell? ⟨a, 0, none⟩ = some x) : (method (n + 1) 193 (.pointer (some ⟨a, 0, none⟩)) "AsMapUsing").run Try.prog w = .ok (163, .agg #[x]) w := run_method_ptr (by kernel_rfl) Try.underlying193 n (run_loadV h)
@[go_sem] theorem v_AsString (n a : Nat) {x : Value} {w : World} (h : w.cell? ⟨a, 0, none⟩ = some x) : (method (n + 1) 193 (.pointer (some ⟨a, 0, none⟩)) "AsString").run Try.prog w = .ok (164, .agg #[x]) w := run_method_ptr (by kernel_rfl) Try.underlying193 n (run_loadV h)
@[go_sem] theorem v_IsBool (n a : Nat) {x : Value} {w : World} (h : w.cell? ⟨a, 0, none⟩ = some x) : (method (n + 1) 193 (.pointer (some ⟨a, 0, none⟩)) "IsBool").run Try.prog w = .ok (165, .agg #[x]) w := run_method_ptr (by kernel_rfl) Try.underlying193 n (run_loadV h)
@[go_sem] theorem v_IsFloat (n a : Nat) {x : Value} {w : World} (h : w.cell? ⟨a, 0, none⟩ = some x) : (method (n + 1) 193 (.pointer (some ⟨a, 0, none⟩)) "IsFloat").run Try.prog w = .ok (166, .agg #[x]) w := run_method_ptr (by kernel_rfl) Try.underlying193 n (run_loadV h)
@[go_sem] theorem v_IsInt (n a : Nat) {x : Value} {w : World} (h : w.cell? ⟨a, 0, none⟩ = some x) : (method (n + 1) 193 (.pointer (some ⟨a, 0, none⟩)) "IsInt").run Try.prog w = .ok (167, .agg #[x]) w := run_method_ptr (by kernel_rfl) Try.underlying193 n (run_loadV h)
@[go_sem] theorem v_IsList (n a : Nat) {x : Value} {w : World} (h : w.cell? ⟨a, 0, none⟩ = some x) : (method (n + 1) 193 (.pointer (some ⟨a, 0, none⟩)) "IsList").run Try.prog w = .ok (168, .agg #[x]) w := run_method_ptr (by kernel_rfl) Try.underlying193 n (run_loadV h)
@[go_sem] theorem v_IsMap (n a : Nat) {x : Value} {w : World} (h : w.cell? ⟨a, 0, none⟩ = some x) : (method (n + 1) 193 (.pointer (some ⟨a, 0, none⟩)) "IsMap").run Try.prog w = .ok (169, .agg #[x]) w := run_method_ptr (by kernel_rfl) Try.underlying193 n (run_loadV h)
@[go_sem] theorem v_IsNull (n a : Nat) {x : Value} {w : World} (h : w.cell? ⟨a, 0, none⟩ = some x) : (method (n + 1) 193 (.pointer (some ⟨a, 0, none⟩)) "IsNull").run Try.prog w = .ok (170, .agg #[x]) w := run_method_ptr (by kernel_rfl) Try.underlying193 n (run_loadV h)
@[go_sem] theorem v_IsString (n a : Nat) {x : Value} {w : World} (h : w.cell? ⟨a, 0, none⟩ = some x) : (method (n + 1) 193 (.pointer (some ⟨a, 0, none⟩)) "IsString").run Try.prog w = .ok (171, .agg #[x]) w := run_method_ptr (by kernel_rfl) Try.underlying193 n (run_loadV h)
@[go_sem] theorem v_Unstructured (n a : Nat) {x : Value} {w : World} (h : w.cell? ⟨a, 0, none⟩ = some x) : (method (n + 1) 193 (.pointer (some ⟨a, 0, none⟩)) "Unstructured").run Try.prog w = .ok (172, .agg #[x]) w := run_method_ptr (by kernel_rfl) Try.underlying193 n (run_loadV h)
theorem run_len_map {P : Program} {t k e : TypeId} (ht : P.underlying t = some (.map k e)) (ty : TypeId) {r : Nat} {es : Array MapEntry} {clock : Nat} {w : World} (h : w.heap[r]? = some (.map es clock)) : (Builtin.len_ #[t] ty #[.map (some r)]).run P w = .ok (.int .i64 es.size) w := by
  simp [Builtin.len_, run_underlying ht, goInt, MapKept.run_getObj_map h, Result.andThen, go_sem]
@[go_sem] theorem run_len_mus (ty : TypeId) {r : Nat} {es : Array MapEntry} {clock : Nat} {w : World} (h : w.heap[r]? = some (.map es clock)) : (Builtin.len_ #[293] ty #[.map (some r)]).run Try.prog w = .ok (.int .i64 es.size) w := run_len_map Try.underlying293 ty h
@[go_sem] theorem run_len_msi (ty : TypeId) {r : Nat} {es : Array MapEntry} {clock : Nat} {w : World} (h : w.heap[r]? = some (.map es clock)) : (Builtin.len_ #[154] ty #[.map (some r)]).run Try.prog w = .ok (.int .i64 es.size) w := run_len_map Try.underlying154 ty h
theorem run_field1 {P : Program} {T : TypeId} {i off : Nat} (h : (match P.underlying T with | some (.struct fs) => (match fs[i]? with | some f => (match P.underlying f.type with | some (.struct _) => none | some (.array _ _) => none | some _ => some f.offset | none => none) | none => none) | _ => none) = some off) {cs : Array Value} {v : Value} (hv : cs[off]? = some v) (w : World) :
    (Instr.field T (.agg cs) i).run P w = .ok v w := by
  unfold Instr.field
  cases hu : P.underlying T with
  | none => simp [hu] at h
  | some d =>
    cases d with
    | struct fs =>
      simp only [hu] at h
      cases hf : fs[i]? with
      | none => simp [hf] at h
      | some f =>
        simp only [hf] at h
        cases hd : P.underlying f.type with
        | none => simp [hd] at h
        | some d2 =>
          have hag : (isAgg f.type).run P w = .ok false w ∧ f.offset = off := by
            simp only [hd] at h
            unfold isAgg
            rw [Sem.run_bind, run_underlying hd w]
            cases d2 <;> simp_all
          simp [Sem.run_bind, run_underlying hu, hf, part, asAgg, hag.1, hag.2, hv]
    | _ => simp [hu] at h
@[go_sem] theorem run_field_val0 (c0 c1 c2 c3 c4 c5 : Value) (w : World) : (Instr.field 26 (.agg #[c0, c1, c2, c3, c4, c5]) 0).run Try.prog w = .ok c0 w := run_field1 (off := 0) (by kernel_rfl) rfl w
@[go_sem] theorem run_field_val1 (c0 c1 c2 c3 c4 c5 : Value) (w : World) : (Instr.field 26 (.agg #[c0, c1, c2, c3, c4, c5]) 1).run Try.prog w = .ok c1 w := run_field1 (off := 1) (by kernel_rfl) rfl w
@[go_sem] theorem run_field_val2 (c0 c1 c2 c3 c4 c5 : Value) (w : World) : (Instr.field 26 (.agg #[c0, c1, c2, c3, c4, c5]) 2).run Try.prog w = .ok c2 w := run_field1 (off := 2) (by kernel_rfl) rfl w
@[go_sem] theorem run_field_val3 (c0 c1 c2 c3 c4 c5 : Value) (w : World) : (Instr.field 26 (.agg #[c0, c1, c2, c3, c4, c5]) 3).run Try.prog w = .ok c3 w := run_field1 (off := 3) (by kernel_rfl) rfl w
@[go_sem] theorem run_field_val4 (c0 c1 c2 c3 c4 c5 : Value) (w : World) : (Instr.field 26 (.agg #[c0, c1, c2, c3, c4, c5]) 4).run Try.prog w = .ok c4 w := run_field1 (off := 4) (by kernel_rfl) rfl w
@[go_sem] theorem run_field_val5 (c0 c1 c2 c3 c4 c5 : Value) (w : World) : (Instr.field 26 (.agg #[c0, c1, c2, c3, c4, c5]) 5).run Try.prog w = .ok c5 w := run_field1 (off := 5) (by kernel_rfl) rfl w
end Go.Smd
end
section
set_option linter.unusedSimpArgs false
namespace Go.Smd
open Go.RowKit Go.Proofs
open Go.Extern in
@[go_sem] theorem run_bits (f : Nat) (w : World) : (callFunc 95 #[.float .f64 f]).run Try.prog w = .ok (.value (.int .u64 f)) w := by
  rw [run_callFunc_extern Try.func95 (by kernel_rfl) (by kernel_rfl) (by kernel_rfl) (e := MathFloatBits.float64bits) (by kernel_rfl)]
  rfl
def IdentC (v : GV) : Prop := ∀ (cs1 cs2 : List Value) (w : World) (S : Nat → Prop), RepGV S w v cs1 → RepGV S w v cs2 → Calls Try.prog 55 #[.agg cs1.toArray, .agg cs2.toArray] w (Makes (fun _ u => u = .bool true) w)
set_option maxRecDepth 100000 in
set_option maxHeartbeats 4000000 in
theorem ident_c : ∀ v, IdentC v := by
  intro v
  induction v using GV.ind with
  | h kind n f s keys l IH =>
  intro cs1 cs2 w S h1 h2
  obtain ⟨ka, kc, la, lc, rfl, ok, hkc, hlc, hks, hls⟩ := h1.open
  obtain ⟨ka', kc', la', lc', rfl, -, hkc', hlc', hks', hls'⟩ := h2.open
  obtain ⟨nk, hnk⟩ : ∃ n, keys.length = n := ⟨_, rfl⟩
  obtain ⟨nl, hnl⟩ : ∃ n, l.length = n := ⟨_, rfl⟩
  have hm1 := ok.okKeys
  have hm2 := ok.okL
  rw [hnk] at hm1 hkc hkc' ⊢; rw [hnl] at hm2 hlc hlc' ⊢
  have Hk := Lib.hid hnk; have Hl := Lib.hid hnl
  have Hks := Lib.hid hks; have Hls := Lib.hid hls; have Hks' := Lib.hid hks'; have Hls' := Lib.hid hls'
  clear h1 h2 ok hnk hnl hks hls hks' hls'
  have hE0 : Ext w (((w.alloc (.cells #[.int .i64 kind, .int .i64 n, .float .f64 f, .string s, .slice ka nk kc, .slice la nl lc] 26)).alloc (.cells #[.int .i64 kind, .int .i64 n, .float .f64 f, .string s, .slice ka' nk kc', .slice la' nl lc'] 26))) := ((Ext.refl w).alloc _).alloc _
  have hA0 := old_at (.cells #[.int .i64 kind, .int .i64 n, .float .f64 f, .string s, .slice ka' nk kc', .slice la' nl lc'] 26) (new_at (w := w) (.cells #[.int .i64 kind, .int .i64 n, .float .f64 f, .string s, .slice ka nk kc, .slice la nl lc] 26) rfl)
  have hB0 := new_at (w := w.alloc (.cells #[.int .i64 kind, .int .i64 n, .float .f64 f, .string s, .slice ka nk kc, .slice la nl lc] 26)) (.cells #[.int .i64 kind, .int .i64 n, .float .f64 f, .string s, .slice ka' nk kc', .slice la' nl lc'] 26) (size_alloc _ _)
  have b1 : (kind != kind) = false := by simp
  have b2 : (n != n) = false := by simp
  have b3 : (s.toList == s.toList) = true := by simp
  have b4 : ((f : Int) != (f : Int)) = false := by simp
  go_enter Try.func55, Try.ntmps55
  go_upto_region 1 with fail
  generalize (w.alloc (.cells #[.int .i64 kind, .int .i64 n, .float .f64 f, .string s, .slice ka nk kc, .slice la nl lc] 26)).alloc (.cells #[.int .i64 kind, .int .i64 n, .float .f64 f, .string s, .slice ka' nk kc', .slice la' nl lc'] 26) = w2 at hE0 hA0 hB0 ⊢
  have HE := Lib.hid hE0; have HA := Lib.hid hA0; have HB := Lib.hid hB0
  clear hE0 hA0 hB0
  have a0 := cell_of HA.out (i := 0) rfl; have a1 := cell_of HA.out (i := 1) rfl; have a2 := cell_of HA.out (i := 2) rfl; have a3 := cell_of HA.out (i := 3) rfl; have a4 := cell_of HA.out (i := 4) rfl; have a5 := cell_of HA.out (i := 5) rfl
  have d0 := cell_of HB.out (i := 0) rfl; have d1 := cell_of HB.out (i := 1) rfl; have d2 := cell_of HB.out (i := 2) rfl; have d3 := cell_of HB.out (i := 3) rfl; have d4 := cell_of HB.out (i := 4) rfl; have d5 := cell_of HB.out (i := 5) rfl
  refine wp_region_E [] (by kernel_rfl) ?_
  refine E_takes (listed' := lst 28 [0, 1, 2, 3, 4, 5, 6, 7, 8, 9, 10, 11, 12, 13, 14, 15, 16, 17, 18, 19, 20, 21, 23, 24]) [0, 1, 2, 3, 4, 5, 6, 7, 8, 9, 10, 11, 12, 13, 14, 15, 16, 17, 18, 19, 20, 21, 23, 24] 4 (by kernel_rfl) (fun _ _ _ _ h => h) (by kernel_rfl) rfl (by kernel_rfl) ?_
  repeat (refine qIdx_step rfl ?_; go_big_quiet_step (fail); refine wpQuiet_nil ?_)
  refine qIdx_nil ?_
  refine E_one (n := 3) (i := 22) (listed' := lst 28 [0, 1, 2, 3, 4, 5, 6, 7, 8, 9, 10, 11, 12, 13, 14, 15, 16, 17, 18, 19, 20, 21, 22, 23, 24]) (by kernel_rfl) rfl rfl (by kernel_rfl) ?_
  go_wp2
  refine ⟨Ext.refl _, ?_⟩
  refine E_one (n := 2) (i := 25) (listed' := lst 28 [0, 1, 2, 3, 4, 5, 6, 7, 8, 9, 10, 11, 12, 13, 14, 15, 16, 17, 18, 19, 20, 21, 22, 23, 24, 25]) (by kernel_rfl) rfl rfl (by kernel_rfl) ?_
  go_wp2
  refine ⟨Ext.refl _, ?_⟩
  refine E_takes (listed' := lst 28 [0, 1, 2, 3, 4, 5, 6, 7, 8, 9, 10, 11, 12, 13, 14, 15, 16, 17, 18, 19, 20, 21, 22, 23, 24, 25, 26, 27]) [26, 27] 0 (by kernel_rfl) (fun _ _ _ _ h => h) (by kernel_rfl) rfl (by kernel_rfl) ?_
  repeat (refine qIdx_step rfl ?_; go_big_quiet_step (fail); refine wpQuiet_nil ?_)
  refine qIdx_nil ?_
  refine E_done (by kernel_rfl) ?_
  have HE' := Lib.hid HE.out.drew
  have e0 : w2.drew.heap = w2.heap := rfl
  rw [← e0] at HA HB
  generalize w2.drew = w3 at *
  clear HE e0 a0 a1 a2 a3 a4 a5 d0 d1 d2 d3 d4 d5
  have a4 := cell_of HA.out (i := 4) rfl; have a5 := cell_of HA.out (i := 5) rfl
  have d4 := cell_of HB.out (i := 4) rfl; have d5 := cell_of HB.out (i := 5) rfl
  go_wp2
  go_loopw [54] (fun i wr => ∃ k : Nat, k ≤ nk ∧ i = .int .i64 k ∧ Hid (Ext w3 wr)) (fun i _ => nk - (intOf i).toNat)
  case atStart => exact ⟨0, Nat.zero_le _, rfl, Ext.refl _⟩
  case round =>
    obtain ⟨k, hk, rfl, hE⟩ := hrel
    have hA := hE.out.heap HA.out; have hB := hE.out.heap HB.out
    have a4 := cell_of hA (i := 4) rfl; have a5 := cell_of hA (i := 5) rfl
    have d4 := cell_of hB (i := 4) rfl; have d5 := cell_of hB (i := 5) rfl
    clear hA hB
    have hk0 : (0 : Int) ≤ (k : Int) := by omega
    by_cases hlt : k < nk
    · obtain ⟨q, hq⟩ : ∃ q, keys[k]? = some q := ⟨keys[k]'(by rw [Hk.out]; exact hlt), List.getElem?_eq_getElem _⟩
      obtain ⟨ad, rfl, cq⟩ := (Hks.out.ext (HE'.out.trans hE.out)).at hq
      obtain ⟨ad', rfl, cq'⟩ := (Hks'.out.ext (HE'.out.trans hE.out)).at hq
      have hqq : (q.toList == q.toList) = true := by simp
      have hk3 : (k : Int) < (nk : Int) := by omega
      clear hq
      go_wp2
      refine wp_region_E [] (by kernel_rfl) ?_
      refine E_takes (listed' := lst 11 [0, 1, 2, 3, 4, 5, 6, 7, 8, 9, 10]) [0, 1, 2, 3, 4, 5, 6, 7, 8, 9, 10] 0 (by kernel_rfl) (fun _ _ _ _ h => h) (by kernel_rfl) rfl (by kernel_rfl) ?_
      repeat (refine qIdx_step rfl ?_; go_big_quiet_step (fail); refine wpQuiet_nil ?_)
      refine qIdx_nil ?_
      refine E_done (by kernel_rfl) ?_
      have hE2 := Lib.hid hE.out.drew
      go_wp2
      go_roundw
      case rel => exact ⟨k + 1, by omega, by go_num, hE2⟩
      case measure => simp [intOf]; omega
    · have hk3 : ¬ (k : Int) < (nk : Int) := by omega
      have HE3 := Lib.hid (HE'.out.trans hE.out)
      have HA3 := Lib.hid (hE.out.heap HA.out); have HB3 := Lib.hid (hE.out.heap HB.out)
      go_wp2
      go_loopw [72] (fun i wq => ∃ k : Nat, k ≤ nl ∧ i = .int .i64 k ∧ Hid (Ext wr wq)) (fun i _ => nl - (intOf i).toNat)
      case atStart => exact ⟨0, Nat.zero_le _, rfl, Ext.refl _⟩
      case round =>
        obtain ⟨j, hj, rfl, hEj⟩ := hrel
        have hA := hEj.out.heap HA3.out; have hB := hEj.out.heap HB3.out
        clear a4 a5 d4 d5
        have a4 := cell_of hA (i := 4) rfl; have a5 := cell_of hA (i := 5) rfl
        have d4 := cell_of hB (i := 4) rfl; have d5 := cell_of hB (i := 5) rfl
        clear hA hB
        have hj0 : (0 : Int) ≤ (j : Int) := by omega
        by_cases hjt : j < nl
        · obtain ⟨x, hx⟩ : ∃ x, l[j]? = some x := ⟨l[j]'(by rw [Hl.out]; exact hjt), List.getElem?_eq_getElem _⟩
          have hj3 : (j : Int) < (nl : Int) := by omega
          obtain ⟨bd, c0, c1, c2, c3, c4, c5, rfl, _, hxr, hxc⟩ := (RepGVs.ext Hls.out (HE3.out.trans hEj.out)).at hx
          obtain ⟨pa, hpa⟩ : ∃ pa, bd.add (j * 6) = pa := ⟨_, rfl⟩
          rw [hpa] at hxc
          obtain ⟨e0, e1, e2, e3, e4, e5⟩ := hxc.six
          obtain ⟨o0, o1, o2, o3, o4, o5⟩ := hxr.six
          obtain ⟨bd', t0, t1, t2, t3, t4, t5, rfl, _, hxr', hxc'⟩ := (RepGVs.ext Hls'.out (HE3.out.trans hEj.out)).at hx
          obtain ⟨pb, hpb⟩ : ∃ pa, bd'.add (j * 6) = pa := ⟨_, rfl⟩
          rw [hpb] at hxc'
          obtain ⟨r0, r1, r2, r3, r4, r5⟩ := hxc'.six
          obtain ⟨q0, q1, q2, q3, q4, q5⟩ := hxr'.six
          have HX := Lib.hid (List.mem_of_getElem? hx)
          clear hx
          go_wp2
          refine wp_region_E [] (by kernel_rfl) ?_
          refine E_takes (listed' := lst 12 [0, 1, 2, 3, 4, 5, 6, 7, 8, 9]) [0, 1, 2, 3, 4, 5, 6, 7, 8, 9] 2 (by kernel_rfl) (fun _ _ _ _ h => h) (by kernel_rfl) rfl (by kernel_rfl) ?_
          repeat (refine qIdx_step rfl ?_; go_big_quiet_step (fail); refine wpQuiet_nil ?_)
          refine qIdx_nil ?_
          refine E_one (n := 1) (i := 10) (listed' := lst 12 [0, 1, 2, 3, 4, 5, 6, 7, 8, 9, 10]) (by kernel_rfl) rfl rfl (by kernel_rfl) ?_
          go_wp2_with fail
          refine (IH x HX.out [c0, c1, c2, c3, c4, c5] [t0, t1, t2, t3, t4, t5] _ S (hxr.ext (Ext.refl _).drew) (hxr'.ext (Ext.refl _).drew)).mono ?_
          rintro e w4 ⟨u, rfl, rfl, hE4⟩
          have HE4 := Lib.hid (hEj.out.trans ((Ext.refl _).drew.trans hE4))
          go_wp2_with fail
          refine ⟨hE4, ?_⟩
          refine E_takes (listed' := lst 12 [0, 1, 2, 3, 4, 5, 6, 7, 8, 9, 10, 11]) [11] 0 (by kernel_rfl) (fun _ _ _ _ h => h) (by kernel_rfl) rfl (by kernel_rfl) ?_
          repeat (refine qIdx_step rfl ?_; go_big_quiet_step (fail); refine wpQuiet_nil ?_)
          refine qIdx_nil ?_
          refine E_done (by kernel_rfl) ?_
          clear hE4
          go_wp2
          go_roundw
          case rel => exact ⟨j + 1, by omega, by go_num, HE4⟩
          case measure => simp [intOf]; omega
        · have hj3 : ¬ (j : Int) < (nl : Int) := by omega
          have HEF := Lib.hid (HE3.out.trans hEj.out)
          go_wp2
          go_ret
          exact ⟨_, rfl, rfl, HEF.out⟩
end Go.Smd
end
section
set_option linter.unusedSimpArgs false
set_option maxRecDepth 100000
set_option maxHeartbeats 8000000
namespace Go.Smd
open Go.RowKit Go.Proofs
theorem raw_b {S : Nat → Prop} {w : World} {x : Value} (hx : okVb x = true) {e : Ending} {w' : World} (h : Makes (fun _ u => u = x) w e w') : ∃ v r, e = .returned v ∧ r = aV x ∧ RepA Try.prog (fun b => S b ∨ w.heap.size ≤ b) noB noH w' r v ∧ Ext w w' := by
  obtain ⟨v, rfl, rfl, hE⟩ := h
  exact ⟨_, _, rfl, rfl, RepD.v hx, hE⟩
theorem identical_a (g : GV) : ACalls Try.prog 55 [gvA g, gvA g] (fun r => r = aV (.bool true)) := by
  refine ⟨⟨_, Try.func55, by kernel_rfl, rfl⟩, fun w S vs hS ha => ?_⟩
  obtain ⟨v, _, rfl, h, ha⟩ := ha.inv
  obtain ⟨u, _, rfl, h2, ha⟩ := ha.inv
  cases ha.inv0
  obtain ⟨cs, rfl, hg⟩ := gvA_iff.1 h
  obtain ⟨cv, rfl, hg2⟩ := gvA_iff.1 h2
  exact (ident_c g cs cv w S hg hg2).mono fun e w' h => raw_b rfl h
theorem identical_x (k n : Int) (f : Nat) (s : ByteArray) (ks : List ByteArray) (l : List GV) : ACalls Try.prog 55 [gvX k n f s ks l, gvX k n f s ks l] (fun r => r = aV (.bool true)) := by
  have h := identical_a (.mk k n f s ks l)
  rw [gvA_x] at h; exact h
end Go.Smd
end
