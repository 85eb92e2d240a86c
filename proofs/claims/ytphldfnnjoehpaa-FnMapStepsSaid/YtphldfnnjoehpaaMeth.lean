/- The methods of a value that the library holds behind a pointer. -/
import Derived.Test.YtphldfnnjoehpaaBase
namespace Go.Smd
open Go.RowKit Go.Proofs

theorem wrapNil_some (ts : Array TypeId) (t : TypeId) (a : Addr) (s n : String) : Builtin.ssaWrapNilChk_ ts t #[.pointer (some a), strVal s, strVal n] = (pure (.pointer (some a)) : Sem Value) := rfl
theorem run_method_ptr {P : Program} {T E : TypeId} {f : Nat} {name : String} (hm : (((P.info? T).bind fun i => i.methods.find? (·.name == name)).map fun m => (m.path.toList, m.func)) = some ([], some (f, false)))
    (hu : P.underlying T = some (.pointer E)) (n : Nat) {a : Addr} {v : Value} {w : World} (hl : (loadVar E a).run P w = .ok v w) :
    (method (n + 1) T (.pointer (some a)) name).run P w = .ok (f, v) w := by
  obtain ⟨m, hm, hmm⟩ := Option.map_eq_some_iff.1 hm
  obtain ⟨i, hi, hf⟩ := Option.bind_eq_some_iff.1 hm
  simp only [Prod.mk.injEq] at hmm
  unfold method
  simp [typeInfo, hi, hf, hmm.2, follow, receiverAt, run_underlying hu, Place.get, hl, wrapNil_some, asAddr, show m.path = #[] from by simpa using hmm.1]
theorem run_loadV {a : Nat} {x : Value} {w : World} (h : w.cell? ⟨a, 0, none⟩ = some x) : (loadVar 216 ⟨a, 0, none⟩).run Try.prog w = .ok (.agg #[x]) w := by
  have h1 : (isAgg 216).run Try.prog w = .ok true w := by simp [isAgg, run_underlying Try.underlying216]
  simp [loadVar, h1, loadCells, loadCellsFrom, h, Addr.add, go_sem]
@[go_sem] theorem v_AsBool (n a : Nat) {x : Value} {w : World} (h : w.cell? ⟨a, 0, none⟩ = some x) : (method (n + 1) 193 (.pointer (some ⟨a, 0, none⟩)) "AsBool").run Try.prog w = .ok (157, .agg #[x]) w := run_method_ptr (by kernel_rfl) Try.underlying193 n (run_loadV h)
@[go_sem] theorem v_AsFloat (n a : Nat) {x : Value} {w : World} (h : w.cell? ⟨a, 0, none⟩ = some x) : (method (n + 1) 193 (.pointer (some ⟨a, 0, none⟩)) "AsFloat").run Try.prog w = .ok (158, .agg #[x]) w := run_method_ptr (by kernel_rfl) Try.underlying193 n (run_loadV h)
@[go_sem] theorem v_AsInt (n a : Nat) {x : Value} {w : World} (h : w.cell? ⟨a, 0, none⟩ = some x) : (method (n + 1) 193 (.pointer (some ⟨a, 0, none⟩)) "AsInt").run Try.prog w = .ok (159, .agg #[x]) w := run_method_ptr (by kernel_rfl) Try.underlying193 n (run_loadV h)
@[go_sem] theorem v_AsList (n a : Nat) {x : Value} {w : World} (h : w.cell? ⟨a, 0, none⟩ = some x) : (method (n + 1) 193 (.pointer (some ⟨a, 0, none⟩)) "AsList").run Try.prog w = .ok (160, .agg #[x]) w := run_method_ptr (by kernel_rfl) Try.underlying193 n (run_loadV h)
@[go_sem] theorem v_AsListUsing (n a : Nat) {x : Value} {w : World} (h : w.cell? ⟨a, 0, none⟩ = some x) : (method (n + 1) 193 (.pointer (some ⟨a, 0, none⟩)) "AsListUsing").run Try.prog w = .ok (161, .agg #[x]) w := run_method_ptr (by kernel_rfl) Try.underlying193 n (run_loadV h)
@[go_sem] theorem v_AsMap (n a : Nat) {x : Value} {w : World} (h : w.cell? ⟨a, 0, none⟩ = some x) : (method (n + 1) 193 (.pointer (some ⟨a, 0, none⟩)) "AsMap").run Try.prog w = .ok (162, .agg #[x]) w := run_method_ptr (by kernel_rfl) Try.underlying193 n (run_loadV h)
@[go_sem] theorem v_AsMapUsing (n a : Nat) {x : Value} {w : World} (h : w.cell? ⟨a, 0, none⟩ = some x) : (method (n + 1) 193 (.pointer (some ⟨a, 0, none⟩)) "AsMapUsing").run Try.prog w = .ok (163, .agg #[x]) w := run_method_ptr (by kernel_rfl) Try.underlying193 n (run_loadV h)
@[go_sem] theorem v_AsString (n a : Nat) {x : Value} {w : World} (h : w.cell? ⟨a, 0, none⟩ = some x) : (method (n + 1) 193 (.pointer (some ⟨a, 0, none⟩)) "AsString").run Try.prog w = .ok (164, .agg #[x]) w := run_method_ptr (by kernel_rfl) Try.underlying193 n (run_loadV h)
@[go_sem] theorem v_IsBool (n a : Nat) {x : Value} {w : World} (h : w.cell? ⟨a, 0, none⟩ = some x) : (method (n + 1) 193 (.pointer (some ⟨a, 0, none⟩)) "IsBool").run Try.prog w = .ok (165, .agg #[x]) w := run_method_ptr (by kernel_rfl) Try.underlying193 n (run_loadV h)
@[go_sem] theorem v_IsFloat (n a : Nat) {x : Value} {w : World} (h : w.cell? ⟨a, 0, none⟩ = some x) : (method (n + 1) 193 (.pointer (some ⟨a, 0, none⟩)) "IsFloat").run Try.prog w = .ok (166, .agg #[x]) w := run_method_ptr (by kernel_rfl) Try.underlying193 n (run_loadV h)
@[go_sem] theorem v_IsInt (n a : Nat) {x : Value} {w : World} (h : w.cell? ⟨a, 0, none⟩ = some x) : (method (n + 1) 193 (.pointer (some ⟨a, 0, none⟩)) "IsInt").run Try.prog w = .ok (167, .agg #[x]) w := run_method_ptr (by kernel_rfl) Try.underlying193 n (run_loadV h)
@[go_sem] theorem v_IsList (n a : Nat) {x : Value} {w : World} (h : w.cell? ⟨a, 0, none⟩ = some x) : (method (n + 1) 193 (.pointer (some ⟨a, 0, none⟩)) "IsList").run Try.prog w = .ok (168, .agg #[x]) w := run_method_ptr (by kernel_rfl) Try.underlying193 n (run_loadV h)
@[go_sem] theorem v_IsMap (n a : Nat) {x : Value} {w : World} (h : w.cell? ⟨a, 0, none⟩ = some x) : (method (n + 1) 193 (.pointer (some ⟨a, 0, none⟩)) "IsMap").run Try.prog w = .ok (169, .agg #[x]) w := run_method_ptr (by kernel_rfl) Try.underlying193 n (run_loadV h)
@[go_sem] theorem v_IsNull (n a : Nat) {x : Value} {w : World} (h : w.cell? ⟨a, 0, none⟩ = some x) : (method (n + 1) 193 (.pointer (some ⟨a, 0, none⟩)) "IsNull").run Try.prog w = .ok (170, .agg #[x]) w := run_method_ptr (by kernel_rfl) Try.underlying193 n (run_loadV h)
@[go_sem] theorem v_IsString (n a : Nat) {x : Value} {w : World} (h : w.cell? ⟨a, 0, none⟩ = some x) : (method (n + 1) 193 (.pointer (some ⟨a, 0, none⟩)) "IsString").run Try.prog w = .ok (171, .agg #[x]) w := run_method_ptr (by kernel_rfl) Try.underlying193 n (run_loadV h)
@[go_sem] theorem v_Unstructured (n a : Nat) {x : Value} {w : World} (h : w.cell? ⟨a, 0, none⟩ = some x) : (method (n + 1) 193 (.pointer (some ⟨a, 0, none⟩)) "Unstructured").run Try.prog w = .ok (172, .agg #[x]) w := run_method_ptr (by kernel_rfl) Try.underlying193 n (run_loadV h)
theorem run_len_map {P : Program} {t k e : TypeId} (ht : P.underlying t = some (.map k e)) (ty : TypeId) {r : Nat} {es : Array MapEntry} {clock : Nat} {w : World} (h : w.heap[r]? = some (.map es clock)) : (Builtin.len_ #[t] ty #[.map (some r)]).run P w = .ok (.int .i64 es.size) w := by
  simp [Builtin.len_, run_underlying ht, goInt, MapKept.run_getObj_map h, Result.andThen, go_sem]
@[go_sem] theorem run_len_mus (ty : TypeId) {r : Nat} {es : Array MapEntry} {clock : Nat} {w : World} (h : w.heap[r]? = some (.map es clock)) : (Builtin.len_ #[293] ty #[.map (some r)]).run Try.prog w = .ok (.int .i64 es.size) w := run_len_map Try.underlying293 ty h
@[go_sem] theorem run_len_msi (ty : TypeId) {r : Nat} {es : Array MapEntry} {clock : Nat} {w : World} (h : w.heap[r]? = some (.map es clock)) : (Builtin.len_ #[154] ty #[.map (some r)]).run Try.prog w = .ok (.int .i64 es.size) w := run_len_map Try.underlying154 ty h
/-- A field of a struct value, of one cell. -/
theorem run_field1 {P : Program} {T : TypeId} {i off : Nat} (h : (match P.underlying T with | some (.struct fs) => (match fs[i]? with | some f => (match P.underlying f.type with | some (.struct _) => none | some (.array _ _) => none | some _ => some f.offset | none => none) | none => none) | _ => none) = some off) {cs : Array Value} {v : Value} (hv : cs[off]? = some v) (w : World) :
    (Instr.field T (.agg cs) i).run P w = .ok v w := by
  unfold Instr.field
  cases hu : P.underlying T with
  | none => simp [hu] at h
  | some d =>
    cases d with
    | struct fs =>
      simp only [hu] at h
      cases hf : fs[i]? with
      | none => simp [hf] at h
      | some f =>
        simp only [hf] at h
        cases hd : P.underlying f.type with
        | none => simp [hd] at h
        | some d2 =>
          have hag : (isAgg f.type).run P w = .ok false w ∧ f.offset = off := by
            simp only [hd] at h
            unfold isAgg
            rw [Sem.run_bind, run_underlying hd w]
            cases d2 <;> simp_all
          simp [Sem.run_bind, run_underlying hu, hf, part, asAgg, hag.1, hag.2, hv]
    | _ => simp [hu] at h
@[go_sem] theorem run_field_val0 (c0 c1 c2 c3 c4 c5 : Value) (w : World) : (Instr.field 26 (.agg #[c0, c1, c2, c3, c4, c5]) 0).run Try.prog w = .ok c0 w := run_field1 (off := 0) (by kernel_rfl) rfl w
@[go_sem] theorem run_field_val1 (c0 c1 c2 c3 c4 c5 : Value) (w : World) : (Instr.field 26 (.agg #[c0, c1, c2, c3, c4, c5]) 1).run Try.prog w = .ok c1 w := run_field1 (off := 1) (by kernel_rfl) rfl w
@[go_sem] theorem run_field_val2 (c0 c1 c2 c3 c4 c5 : Value) (w : World) : (Instr.field 26 (.agg #[c0, c1, c2, c3, c4, c5]) 2).run Try.prog w = .ok c2 w := run_field1 (off := 2) (by kernel_rfl) rfl w
@[go_sem] theorem run_field_val3 (c0 c1 c2 c3 c4 c5 : Value) (w : World) : (Instr.field 26 (.agg #[c0, c1, c2, c3, c4, c5]) 3).run Try.prog w = .ok c3 w := run_field1 (off := 3) (by kernel_rfl) rfl w
@[go_sem] theorem run_field_val4 (c0 c1 c2 c3 c4 c5 : Value) (w : World) : (Instr.field 26 (.agg #[c0, c1, c2, c3, c4, c5]) 4).run Try.prog w = .ok c4 w := run_field1 (off := 4) (by kernel_rfl) rfl w
@[go_sem] theorem run_field_val5 (c0 c1 c2 c3 c4 c5 : Value) (w : World) : (Instr.field 26 (.agg #[c0, c1, c2, c3, c4, c5]) 5).run Try.prog w = .ok c5 w := run_field1 (off := 5) (by kernel_rfl) rfl w
end Go.Smd
