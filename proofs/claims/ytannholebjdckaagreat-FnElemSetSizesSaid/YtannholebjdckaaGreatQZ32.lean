/- Part 32 of the proof: Meth Ident Pa Ex. -/
import Derived.Test.YtannholebjdckaaGreatQZ01
import Derived.Test.YtannholebjdckaaGreatQZ22
import Derived.Laws.Externs
import Derived.Test.YtannholebjdckaaGreatQZ25
import Derived.Test.YtannholebjdckaaGreatQZ31
import Derived.Test.YtannholebjdckaaGreatQZ30
set_option linter.unusedVariables false
section
namespace Go.Smd
open Go.RowKit Go.Proofs
theorem wrapNil_some (ts : Array TypeId) (t : TypeId) (a : Addr) (s n : String) : Builtin.ssaWrapNilChk_ ts t #[.pointer (some a), strVal s, strVal n] = (pure (.pointer (some a)) : Sem Value) := rfl
theorem run_method_ptr {P : Program} {T E : TypeId} {f : Nat} {name : String} (hm : (((P.info? T).bind fun i => i.methods.find? (·.name == name)).map fun m => (m.path.toList, m.func)) = some ([], some (f, false)))
    (hu : P.underlying T = some (.pointer E)) (n : Nat) {a : Addr} {v : Value} {w : World} (hl : (loadVar E a).run P w = .ok v w) :
    (method (n + 1) T (.pointer (some a)) name).run P w = .ok (f, v) w := by
  obtain ⟨m, hm, hmm⟩ := Option.map_eq_some_iff.1 hm
  obtain ⟨i, hi, hf⟩ := Option.bind_eq_some_iff.1 hm
  simp only [Prod.mk.injEq] at hmm
  unfold method
  simp [typeInfo, hi, hf, hmm.2, follow, receiverAt, run_underlying hu, Place.get, hl, wrapNil_some, asAddr, show m.path = #[] from by simpa using hmm.1]
theorem run_loadV {a : Nat} {x : Value} {w : World} (h : w.cell? ⟨a, 0, none⟩ = some x) : (loadVar 267 ⟨a, 0, none⟩).run Tryz.prog w = .ok (.agg #[x]) w := by
  have h1 : (isAgg 267).run Tryz.prog w = .ok true w := by simp [isAgg, run_underlying Tryz.underlying267]
  simp [loadVar, h1, loadCells, loadCellsFrom, h, Addr.add, go_sem]
@[go_sem] theorem v_AsBool (n a : Nat) {x : Value} {w : World} (h : w.cell? ⟨a, 0, none⟩ = some x) : (method (n + 1) 221 (.pointer (some ⟨a, 0, none⟩)) "AsBool").run Tryz.prog w = .ok (254, .agg #[x]) w := run_method_ptr (by kernel_rfl) Tryz.underlying221 n (run_loadV h)
@[go_sem] theorem v_AsFloat (n a : Nat) {x : Value} {w : World} (h : w.cell? ⟨a, 0, none⟩ = some x) : (method (n + 1) 221 (.pointer (some ⟨a, 0, none⟩)) "AsFloat").run Tryz.prog w = .ok (255, .agg #[x]) w := run_method_ptr (by kernel_rfl) Tryz.underlying221 n (run_loadV h)
@[go_sem] theorem v_AsInt (n a : Nat) {x : Value} {w : World} (h : w.cell? ⟨a, 0, none⟩ = some x) : (method (n + 1) 221 (.pointer (some ⟨a, 0, none⟩)) "AsInt").run Tryz.prog w = .ok (256, .agg #[x]) w := run_method_ptr (by kernel_rfl) Tryz.underlying221 n (run_loadV h)
@[go_sem] theorem v_AsList (n a : Nat) {x : Value} {w : World} (h : w.cell? ⟨a, 0, none⟩ = some x) : (method (n + 1) 221 (.pointer (some ⟨a, 0, none⟩)) "AsList").run Tryz.prog w = .ok (257, .agg #[x]) w := run_method_ptr (by kernel_rfl) Tryz.underlying221 n (run_loadV h)
@[go_sem] theorem v_AsListUsing (n a : Nat) {x : Value} {w : World} (h : w.cell? ⟨a, 0, none⟩ = some x) : (method (n + 1) 221 (.pointer (some ⟨a, 0, none⟩)) "AsListUsing").run Tryz.prog w = .ok (258, .agg #[x]) w := run_method_ptr (by kernel_rfl) Tryz.underlying221 n (run_loadV h)
@[go_sem] theorem v_AsMap (n a : Nat) {x : Value} {w : World} (h : w.cell? ⟨a, 0, none⟩ = some x) : (method (n + 1) 221 (.pointer (some ⟨a, 0, none⟩)) "AsMap").run Tryz.prog w = .ok (259, .agg #[x]) w := run_method_ptr (by kernel_rfl) Tryz.underlying221 n (run_loadV h)
@[go_sem] theorem v_AsMapUsing (n a : Nat) {x : Value} {w : World} (h : w.cell? ⟨a, 0, none⟩ = some x) : (method (n + 1) 221 (.pointer (some ⟨a, 0, none⟩)) "AsMapUsing").run Tryz.prog w = .ok (260, .agg #[x]) w := run_method_ptr (by kernel_rfl) Tryz.underlying221 n (run_loadV h)
@[go_sem] theorem v_AsString (n a : Nat) {x : Value} {w : World} (h : w.cell? ⟨a, 0, none⟩ = some x) : (method (n + 1) 221 (.pointer (some ⟨a, 0, none⟩)) "AsString").run Tryz.prog w = .ok (261, .agg #[x]) w := run_method_ptr (by kernel_rfl) Tryz.underlying221 n (run_loadV h)
@[go_sem] theorem v_IsBool (n a : Nat) {x : Value} {w : World} (h : w.cell? ⟨a, 0, none⟩ = some x) : (method (n + 1) 221 (.pointer (some ⟨a, 0, none⟩)) "IsBool").run Tryz.prog w = .ok (262, .agg #[x]) w := run_method_ptr (by kernel_rfl) Tryz.underlying221 n (run_loadV h)
@[go_sem] theorem v_IsFloat (n a : Nat) {x : Value} {w : World} (h : w.cell? ⟨a, 0, none⟩ = some x) : (method (n + 1) 221 (.pointer (some ⟨a, 0, none⟩)) "IsFloat").run Tryz.prog w = .ok (263, .agg #[x]) w := run_method_ptr (by kernel_rfl) Tryz.underlying221 n (run_loadV h)
@[go_sem] theorem v_IsInt (n a : Nat) {x : Value} {w : World} (h : w.cell? ⟨a, 0, none⟩ = some x) : (method (n + 1) 221 (.pointer (some ⟨a, 0, none⟩)) "IsInt").run Tryz.prog w = .ok (264, .agg #[x]) w := run_method_ptr (by kernel_rfl) Tryz.underlying221 n (run_loadV h)
@[go_sem] theorem v_IsList (n a : Nat) {x : Value} {w : World} (h : w.cell? ⟨a, 0, none⟩ = some x) : (method (n + 1) 221 (.pointer (some ⟨a, 0, none⟩)) "IsList").run Tryz.prog w = .ok (265, .agg #[x]) w := run_method_ptr (by kernel_rfl) Tryz.underlying221 n (run_loadV h)
@[go_sem] theorem v_IsMap (n a : Nat) {x : Value} {w : World} (h : w.cell? ⟨a, 0, none⟩ = some x) : (method (n + 1) 221 (.pointer (some ⟨a, 0, none⟩)) "IsMap").run Tryz.prog w = .ok (266, .agg #[x]) w := run_method_ptr (by kernel_rfl) Tryz.underlying221 n (run_loadV h)
@[go_sem] theorem v_IsNull (n a : Nat) {x : Value} {w : World} (h : w.cell? ⟨a, 0, none⟩ = some x) : (method (n + 1) 221 (.pointer (some ⟨a, 0, none⟩)) "IsNull").run Tryz.prog w = .ok (267, .agg #[x]) w := run_method_ptr (by kernel_rfl) Tryz.underlying221 n (run_loadV h)
@[go_sem] theorem v_IsString (n a : Nat) {x : Value} {w : World} (h : w.cell? ⟨a, 0, none⟩ = some x) : (method (n + 1) 221 (.pointer (some ⟨a, 0, none⟩)) "IsString").run Tryz.prog w = .ok (268, .agg #[x]) w := run_method_ptr (by kernel_rfl) Tryz.underlying221 n (run_loadV h)
@[go_sem] theorem v_Unstructured (n a : Nat) {x : Value} {w : World} (h : w.cell? ⟨a, 0, none⟩ = some x) : (method (n + 1) 221 (.pointer (some ⟨a, 0, none⟩)) "Unstructured").run Tryz.prog w = .ok (269, .agg #[x]) w := run_method_ptr (by kernel_rfl) Tryz.underlying221 n (run_loadV h)
theorem run_len_map {P : Program} {t k e : TypeId} (ht : P.underlying t = some (.map k e)) (ty : TypeId) {r : Nat} {es : Array MapEntry} {clock : Nat} {w : World} (h : w.heap[r]? = some (.map es clock)) : (Builtin.len_ #[t] ty #[.map (some r)]).run P w = .ok (.int .i64 es.size) w := by
  simp [Builtin.len_, run_underlying ht, goInt, MapKept.run_getObj_map h, Result.andThen, go_sem]
@[go_sem] theorem run_len_mus (ty : TypeId) {r : Nat} {es : Array MapEntry} {clock : Nat} {w : World} (h : w.heap[r]? = some (.map es clock)) : (Builtin.len_ #[359] ty #[.map (some r)]).run Tryz.prog w = .ok (.int .i64 es.size) w := run_len_map Tryz.underlying359 ty h
@[go_sem] theorem run_len_msi (ty : TypeId) {r : Nat} {es : Array MapEntry} {clock : Nat} {w : World} (h : w.heap[r]? = some (.map es clock)) : (Builtin.len_ #[227] ty #[.map (some r)]).run Tryz.prog w = .ok (.int .i64 es.size) w := run_len_map Tryz.underlying227 ty h
theorem run_field1 {P : Program} {T : TypeId} {i off : Nat} (h : (match P.underlying T with | some (.struct fs) => (match fs[i]? with | some f => (match P.underlying f.type with | some (.struct _) => none | some (.array _ _) => none | some _ => some f.offset | none => none) | none => none) | _ => none) = some off) {cs : Array Value} {v : Value} (hv : cs[off]? = some v) (w : World) :
    (Instr.field T (.agg cs) i).run P w = .ok v w := by
  unfold Instr.field
  cases hu : P.underlying T with
  | none => simp [hu] at h
  | some d =>
    cases d with
    | struct fs =>
      simp only [hu] at h
      cases hf : fs[i]? with
      | none => simp [hf] at h
      | some f =>
        simp only [hf] at h
        cases hd : P.underlying f.type with
        | none => simp [hd] at h
        | some d2 =>
          have hag : (isAgg f.type).run P w = .ok false w ∧ f.offset = off := by
            simp only [hd] at h
            unfold isAgg
            rw [Sem.run_bind, run_underlying hd w]
            cases d2 <;> simp_all
          simp [Sem.run_bind, run_underlying hu, hf, part, asAgg, hag.1, hag.2, hv]
    | _ => simp [hu] at h
@[go_sem] theorem run_field_val0 (c0 c1 c2 c3 c4 c5 : Value) (w : World) : (Instr.field 31 (.agg #[c0, c1, c2, c3, c4, c5]) 0).run Tryz.prog w = .ok c0 w := run_field1 (off := 0) (by kernel_rfl) rfl w
@[go_sem] theorem run_field_val1 (c0 c1 c2 c3 c4 c5 : Value) (w : World) : (Instr.field 31 (.agg #[c0, c1, c2, c3, c4, c5]) 1).run Tryz.prog w = .ok c1 w := run_field1 (off := 1) (by kernel_rfl) rfl w
@[go_sem] theorem run_field_val2 (c0 c1 c2 c3 c4 c5 : Value) (w : World) : (Instr.field 31 (.agg #[c0, c1, c2, c3, c4, c5]) 2).run Tryz.prog w = .ok c2 w := run_field1 (off := 2) (by kernel_rfl) rfl w
@[go_sem] theorem run_field_val3 (c0 c1 c2 c3 c4 c5 : Value) (w : World) : (Instr.field 31 (.agg #[c0, c1, c2, c3, c4, c5]) 3).run Tryz.prog w = .ok c3 w := run_field1 (off := 3) (by kernel_rfl) rfl w
@[go_sem] theorem run_field_val4 (c0 c1 c2 c3 c4 c5 : Value) (w : World) : (Instr.field 31 (.agg #[c0, c1, c2, c3, c4, c5]) 4).run Tryz.prog w = .ok c4 w := run_field1 (off := 4) (by kernel_rfl) rfl w
@[go_sem] theorem run_field_val5 (c0 c1 c2 c3 c4 c5 : Value) (w : World) : (Instr.field 31 (.agg #[c0, c1, c2, c3, c4, c5]) 5).run Tryz.prog w = .ok c5 w := run_field1 (off := 5) (by kernel_rfl) rfl w
end Go.Smd
end
section
set_option linter.unusedSimpArgs false
namespace Go.Smd
open Go.RowKit Go.Proofs
open Go.Extern in
@[go_sem] theorem run_bits (f : Nat) (w : World) : (callFunc 123 #[.float .f64 f]).run Tryz.prog w = .ok (.value (.int .u64 f)) w := by
  rw [run_callFunc_extern Tryz.func123 (by kernel_rfl) (by kernel_rfl) (by kernel_rfl) (e := MathFloatBits.float64bits) (by kernel_rfl)]
  rfl
end Go.Smd
end
section
set_option linter.unusedSimpArgs false
set_option maxRecDepth 100000
set_option maxHeartbeats 8000000
namespace Go.Smd
open Go.RowKit Go.Proofs
def zGV : GV := .mk 0 0 0 ⟨#[]⟩ [] []
def fromLE : LE → EV
  | .name s => ⟨0, s, [], [], zGV, 0⟩
  | .key l => ⟨1, ⟨#[]⟩, l.map (·.1), l.map fun p => fromT p.2, zGV, 0⟩
  | .val t => ⟨2, ⟨#[]⟩, [], [], fromT t, 0⟩
  | .idx n => ⟨3, ⟨#[]⟩, [], [], zGV, n⟩
def shortLE : LE → Prop
  | .key l => l.length * 88 ≤ 140737488351232
  | _ => True
theorem fromValue_x (t : Tree) (ht : Fits t) {a b : Int} {c : Nat} {d : ByteArray} {e : List ByteArray} {f : List GV} (h : fromT t = .mk a b c d e f) : ACalls Tryz.prog 68 [.c (.d (dV t))] (fun r => r = gvX a b c d e f) := by
  have := fromValue_a t ht
  rw [h, gvA_x] at this; exact this
theorem fromElem_a (p : LE) (hf : fitsLE p) (hs : shortLE p) : ACalls Tryz.prog 77 [leA p] (fun r => r = evA (fromLE p)) := by
  cases p with
  | name s =>
    simp only [fromLE, zGV]
    rw [evA_x]
    refine acalls_ex [(9, ([], [(0, []), (1, []), (2, []), (3, []), (4, []), (5, []), (6, []), (7, []), (8, [])]))] Tryz.func77 (by kernel_rfl) rfl Tryz.ntmps77 Tryz.results77 (Nat.le_of_ble_eq_true (by kernel_rfl)) ?_; intro hok w0 S0
    clear hok
    (repeat' (first | (with_reducible refine br_d (fun _ => ?_) (fun _ => ?_)) | (with_reducible refine br_i (fun _ => ?_) (fun _ => ?_)) | (with_reducible refine dn_i follows_any (by kernel_rfl) ?_) | (with_reducible exact done_eq rfl) | (simp -dsimp))); (all_goals try with_reducible refine done_eq ?_)
  | idx n =>
    simp only [fromLE, zGV]
    rw [evA_x]
    refine acalls_ex [(9, ([], [(0, []), (1, []), (2, []), (3, []), (4, []), (5, []), (6, []), (7, []), (8, [])]))] Tryz.func77 (by kernel_rfl) rfl Tryz.ntmps77 Tryz.results77 (Nat.le_of_ble_eq_true (by kernel_rfl)) ?_; intro hok w0 S0
    clear hok
    (repeat' (first | (with_reducible refine br_d (fun _ => ?_) (fun _ => ?_)) | (with_reducible refine br_i (fun _ => ?_) (fun _ => ?_)) | (with_reducible refine dn_i follows_any (by kernel_rfl) ?_) | (with_reducible exact done_eq rfl) | (simp -dsimp))); (all_goals try with_reducible refine done_eq ?_)
  | val t =>
    simp only [fitsLE] at hf
    simp only [fromLE]
    cases hg : fromT t with
    | mk a b c d e f =>
      rw [evA_x]
      refine acalls_ex [(9, ([], [(0, []), (1, []), (2, []), (3, []), (4, []), (5, []), (6, []), (7, []), (8, [])]))] Tryz.func77 (by kernel_rfl) rfl Tryz.ntmps77 Tryz.results77 (Nat.le_of_ble_eq_true (by kernel_rfl)) ?_; intro hok w0 S0
      clear hok
      (repeat' (first | (with_reducible refine br_d (fun _ => ?_) (fun _ => ?_)) | (with_reducible refine br_i (fun _ => ?_) (fun _ => ?_)) | (with_reducible refine nd_v (fromValue_x t hf hg) (by first | rfl | (simp -dsimp; done)) ?_) | (with_reducible refine nw_v (fromValue_x t hf hg) rfl (by first | rfl | (simp -dsimp; done)) (by first | rfl | (simp -dsimp; done)) ?_) | (with_reducible refine dn_i follows_any (by kernel_rfl) ?_) | (with_reducible exact done_eq rfl) | (simp -dsimp))); (all_goals try with_reducible refine done_eq ?_)
  | key l =>
    simp only [fitsLE, shortLE] at hf hs
    simp only [fromLE, zGV]
    rw [evA_x]
    obtain ⟨KS, hKS⟩ : ∃ KS, KS = l.map fun p => [dS p.1] := ⟨_, rfl⟩
    obtain ⟨VS, hVS⟩ : ∃ VS, VS = l.map fun p => gvD (fromT p.2) := ⟨_, rfl⟩
    have e1 : dStrs (l.map (·.1)) = .sl 9 KS := by simp only [hKS, dStrs, rowS, List.map_map]; rfl
    have e2 : dGVs (l.map fun p => fromT p.2) = .sl 31 VS := by simp only [hVS, dGVs, List.map_map]; rfl
    have k1 : KS.length = l.length := by simp [hKS]
    have v1 : VS.length = l.length := by simp [hVS]
    rw [evX, e1, e2]
    refine acalls_ex [(9, ([], [(0, []), (1, []), (2, []), (3, []), (4, []), (5, []), (6, []), (7, []), (8, [])]))] Tryz.func77 (by kernel_rfl) rfl Tryz.ntmps77 Tryz.results77 (Nat.le_of_ble_eq_true (by kernel_rfl)) ?_; intro hok w0 S0
    clear hok
    have b1 : l.length ≤ 9223372036854775807 := by omega
    (repeat' (first | (with_reducible refine br_d (fun _ => ?_) (fun _ => ?_)) | (with_reducible refine br_i (fun _ => ?_) (fun _ => ?_)) | (with_reducible refine dn_i follows_any (by kernel_rfl) ?_) | (with_reducible exact done_eq rfl) | (simp -dsimp [b1]))); (all_goals try with_reducible refine done_eq ?_)
    refine ex_loop (fun i : Nat => match i with
      | 0 => ⟨[(2, .c (.own 2 0)), (3, .c (.own 3 0)), (23, .c (.d (dFds l))), (24, aI l.length), (25, aI 0)], [(2, .cells [.d (dI 0), .d (dS ⟨#[]⟩), .d (.v (.slice none 0 0)), .d (.v (.slice none 0 0)), .d (dI 0), .d (dI 0), .d (dF 0), .d (dS ⟨#[]⟩), .d (.v (.slice none 0 0)), .d (.v (.slice none 0 0)), .d (dI 0)] 33), (3, .cells [.d (dI 1), .d (dS ⟨#[]⟩), .d (.v (.slice none 0 0)), .d (.v (.slice none 0 0)), .d (dI 0), .d (dI 0), .d (dF 0), .d (dS ⟨#[]⟩), .d (.v (.slice none 0 0)), .d (.v (.slice none 0 0)), .d (dI 0)] 33)]⟩
      | i + 1 => ⟨[(2, .c (.own 2 0)), (3, .c (.own 3 0)), (23, .c (.d (dFds l))), (24, aI l.length), (25, aI ((i + 1 : Nat) : Int))], [(34, .arr (i + 1) 9 (KS.take (i + 1))), (42, .arr (i + 1) 31 (VS.take (i + 1))), (2, .cells [.d (dI 0), .d (dS ⟨#[]⟩), .d (.v (.slice none 0 0)), .d (.v (.slice none 0 0)), .d (dI 0), .d (dI 0), .d (dF 0), .d (dS ⟨#[]⟩), .d (.v (.slice none 0 0)), .d (.v (.slice none 0 0)), .d (dI 0)] 33), (3, .cells [.d (dI 1), .d (dS ⟨#[]⟩), .gs 34 (i + 1), .gs 42 (i + 1), .d (dI 0), .d (dI 0), .d (dF 0), .d (dS ⟨#[]⟩), .d (.v (.slice none 0 0)), .d (.v (.slice none 0 0)), .d (dI 0)] 33)]⟩)
      (fun i => i ≤ l.length) (fun i => l.length - i) 0 ?_ (Nat.zero_le _) ?_
    · exact Weak.same (by simp -dsimp) (by simp -dsimp) (by first | rfl | (simp [closedSt, Av.ids, Ow.ids, Cl.ids, Go.Smd.keys]; done))
    · rintro i hi K hK
      have kT : ∀ (j : Nat) (h : j < l.length), KS.take (j + 1) = KS.take j ++ [[dS l[j].1]] := fun j h => by
        rw [List.take_succ_eq_append_getElem (by omega)]; simp [hKS]
      have vT : ∀ (j : Nat) (h : j < l.length), VS.take (j + 1) = VS.take j ++ [gvD (fromT l[j].2)] := fun j h => by
        rw [List.take_succ_eq_append_getElem (by omega)]; simp [hVS]
      cases i with
      | zero =>
        dsimp only
        by_cases hlt : 0 < l.length
        · have IH0 := fromValue_a l[0].2 (hf _ (List.getElem_mem hlt))
          (repeat' (first | (with_reducible refine br_d (fun _ => ?_) (fun _ => ?_)) | (with_reducible refine br_i (fun _ => ?_) (fun _ => ?_)) | (with_reducible refine nd_v (IH0) (by first | rfl | (simp -dsimp [hlt, toDs, fdRow]; done)) ?_) | (with_reducible refine nw_v (IH0) rfl (by first | rfl | (simp -dsimp [hlt, toDs, fdRow]; done)) (by first | rfl | (simp -dsimp [hlt, toDs, fdRow]; done)) ?_) | (with_reducible refine dn_i follows_any (by kernel_rfl) ?_) | (with_reducible exact done_eq rfl) | (simp -dsimp [hlt, toDs, fdRow]))); (all_goals try with_reducible refine done_eq ?_)
          refine hK _ 1 ?_ (by omega) (by omega)
          dsimp only
          rw [kT 0 hlt, vT 0 hlt]
          exact Weak.same (by simp -dsimp [w1]) (by simp -dsimp [w1]) (by first | rfl | (simp [closedSt, Av.ids, Ow.ids, Cl.ids, Go.Smd.keys]; done))
        · have e : l = [] := List.eq_nil_of_length_eq_zero (by omega)
          subst e
          simp only [List.map_nil] at hKS hVS
          subst hKS; subst hVS
          (repeat' (first | (with_reducible refine br_d (fun _ => ?_) (fun _ => ?_)) | (with_reducible refine br_i (fun _ => ?_) (fun _ => ?_)) | (with_reducible refine dn_i follows_any (by kernel_rfl) ?_) | (with_reducible exact done_eq rfl) | (simp -dsimp))); (all_goals try with_reducible refine done_eq ?_)
      | succ i =>
        dsimp only
        have r1 : (KS.take (i + 1)).length = i + 1 := by simp; omega
        have r2 : (VS.take (i + 1)).length = i + 1 := by simp; omega
        obtain ⟨R1, hR1⟩ : ∃ R, R = KS.take (i + 1) := ⟨_, rfl⟩
        obtain ⟨R2, hR2⟩ : ∃ R, R = VS.take (i + 1) := ⟨_, rfl⟩
        rw [← hR1] at r1 ⊢
        rw [← hR2] at r2 ⊢
        by_cases hlt : i + 1 < l.length
        · have IH0 := fromValue_a l[i + 1].2 (hf _ (List.getElem_mem hlt))
          have hw : IntKind.wrap .i64 (((i + 1 : Nat) : Int) + 1) = ((i + 1 + 1 : Nat) : Int) := by rw [wrap_i64] <;> omega
          have hw2 : IntKind.wrap .i64 ((i : Int) + 1 + 1) = ((i + 1 + 1 : Nat) : Int) := by rw [wrap_i64] <;> omega
          have hb : (i + 1 + 1) * 88 ≤ 140737488351232 := by omega
          have hb2 : (i + 1 + 1) * 16 ≤ 140737488351232 := by omega
          have h1 : (i : Int) + 1 < l.length := by omega
          have h2 : (0 : Int) ≤ (i : Int) + 1 := by omega
          have h3 : ((i : Int) + 1).toNat = i + 1 := by omega
          (repeat' (first | (with_reducible refine br_d (fun _ => ?_) (fun _ => ?_)) | (with_reducible refine br_i (fun _ => ?_) (fun _ => ?_)) | (with_reducible refine nd_v (IH0) (by first | rfl | (simp -dsimp [hlt, r1, r2, hw, hw2, hb, hb2, h1, h2, h3, toDs, fdRow]; done)) ?_) | (with_reducible refine nw_v (IH0) rfl (by first | rfl | (simp -dsimp [hlt, r1, r2, hw, hw2, hb, hb2, h1, h2, h3, toDs, fdRow]; done)) (by first | rfl | (simp -dsimp [hlt, r1, r2, hw, hw2, hb, hb2, h1, h2, h3, toDs, fdRow]; done)) ?_) | (with_reducible refine dn_i follows_any (by kernel_rfl) ?_) | (with_reducible exact done_eq rfl) | (simp -dsimp [hlt, r1, r2, hw, hw2, hb, hb2, h1, h2, h3, toDs, fdRow]))); (all_goals try with_reducible refine done_eq ?_)
          refine hK _ (i + 1 + 1) ?_ (by omega) (by omega)
          dsimp only
          rw [kT (i + 1) hlt, vT (i + 1) hlt, ← hR1, ← hR2]
          exact Weak.same (by simp -dsimp) (by simp -dsimp) (by first | rfl | (simp [closedSt, Av.ids, Ow.ids, Cl.ids, Go.Smd.keys]; done))
        · have h1 : ¬ (i : Int) + 1 < l.length := by omega
          have e3 : R1 = KS := by rw [hR1, List.take_of_length_le (by omega)]
          have e4 : R2 = VS := by rw [hR2, List.take_of_length_le (by omega)]
          (repeat' (first | (with_reducible refine br_d (fun _ => ?_) (fun _ => ?_)) | (with_reducible refine br_i (fun _ => ?_) (fun _ => ?_)) | (with_reducible refine dn_i follows_any (by kernel_rfl) ?_) | (with_reducible exact done_eq rfl) | (simp -dsimp [h1]))); (all_goals try with_reducible refine done_eq ?_)
          rw [e3, e4]
          rfl
theorem short_of {e : EV} (hl : e.l.length * 88 ≤ 140737488351232) : shortLE (toLE e) := by
  unfold toLE
  split
  · simp only [shortLE, zipF]; simp; omega
  · split
    · trivial
    · split <;> trivial
end Go.Smd
end
section
set_option linter.unusedSimpArgs false
set_option maxRecDepth 100000
set_option maxHeartbeats 8000000
namespace Go.Smd
open Go.RowKit Go.Proofs
theorem evD_x (k : Int) (s : ByteArray) (keys : List ByteArray) (l : List GV) (a b : Int) (c : Nat) (d : ByteArray) (e : List ByteArray) (f : List GV) (n : Int) : evD ⟨k, s, keys, l, .mk a b c d e f, n⟩ = [dI k, dS s, dStrs keys, dGVs l, dI a, dI b, dF c, dS d, dStrs e, dGVs f, dI n] := by
  simp only [evD, gvD_mk, List.cons_append, List.nil_append]
theorem fes1_p (ver : Nat) (R : List (List D)) (p : LE) (hf : fitsLE p) (hs : shortLE p) (hb : (R.length + 1) * 168 ≤ 140737488351232) :
    AProc Tryz.prog 142 [leA p, .c (.own 1000000000 0)] [(1000000000, .cells [.gs 1000000001 ver] 26), (1000000001, .arr ver 33 R)]
      (fun r own' => r = .tup [] ∧ own' = [(2, .cells (cls (leD p)) 98), (6, .arr 0 33 [evD (fromLE p)]), (1000000000, .cells [.gs 1000000001 (ver + 1)] 26), (1000000001, .arr (ver + 1) 33 (R ++ [evD (fromLE p)]))]) := by
  have hc := fromElem_a p hf hs
  obtain ⟨e0, e1, e2, e3, he, he'⟩ := leD_four p
  obtain ⟨k, s, keys, l, a, b, c, d, e, f, n, hE⟩ : ∃ k s keys l a b c d e f n, fromLE p = ⟨k, s, keys, l, .mk a b c d e f, n⟩ := by
    obtain ⟨k, s, keys, l, ⟨a, b, c, d, e, f⟩, n⟩ := fromLE p
    exact ⟨_, _, _, _, _, _, _, _, _, _, _, rfl⟩
  rw [hE, he', evA_x] at hc
  rw [he', he, hE, evD_x]
  refine aproc_ex [] Tryz.func142 (by kernel_rfl) rfl Tryz.ntmps142 Tryz.results142 (Nat.le_of_ble_eq_true (by kernel_rfl)) ?_; intro hok w0 S0
  (repeat' (first | (with_reducible refine br_d (fun _ => ?_) (fun _ => ?_)) | (with_reducible refine br_i (fun _ => ?_) (fun _ => ?_)) | (with_reducible refine dn_i follows_any (by kernel_rfl) ?_) | (with_reducible exact done_eq rfl) | (simp -dsimp))); (all_goals try with_reducible refine done_eq ?_)
  refine exD_p ?_
  refine aw_drawn_n follows_any [[], [], [1], [1, 2], [0, 1, 2, 3], [0, 1, 2, 3, 4]] [0, 1, 2, 3, 4, 5] [3, 4, 5] [([], ⟨[(3, ?m3u1), (4, ?m4u1), (5, ?m5u1), (6, ?m6u1), (7, ?m7u1)], ?bu1, ?o0u1⟩), ([3], ⟨[(3, ?m3u1), (4, ?m4u1), (5, ?m5u1), (6, ?m6u1), (7, ?m7u1)], ?bu1, ?o1u1⟩), ([3, 4], ⟨[(3, ?m3u1), (4, ?m4u1), (5, ?m5u1), (6, ?m6u1), (7, ?m7u1)], ?bu1, ?o2u1⟩), ([3, 4, 5], ⟨[(3, ?m3u1), (4, ?m4u1), (5, ?m5u1), (6, ?m6u1), (7, ?m7u1)], ?bu1, ?o3u1⟩)] ?hoku1 rfl rfl ?hbu1 ?hou1 ?hstu1 ?hku1
  case' hbu1 => rfl
  case' hou1 => rfl
  case' hstu1 => refine ⟨⟨?v0u1, ?s0u1⟩, ⟨⟨?v1u1, ?s1u1⟩, ⟨⟨?v2u1, ?s2u1⟩, ⟨⟨?v3u1, ?s3u1⟩, True.intro⟩⟩⟩⟩
  case v0u1 =>
    refine ⟨.inr ⟨_, rfl, effN_self (eff_v rfl rfl (by simp -dsimp [valT, toDs, hb] <;> with_reducible rfl))⟩, ?_⟩
    refine ⟨.inr ⟨_, rfl, effN_self (eff_v rfl rfl (by simp -dsimp [valT, toDs, hb] <;> with_reducible rfl))⟩, ?_⟩
    refine ⟨.inr ⟨_, rfl, effN_self (eff_c (d := 5) (hc) rfl rfl rfl (by simp -dsimp [valT, toDs, hb] <;> (first | done | rfl | exact ⟨rfl, rfl⟩ | exact ⟨rfl, rfl, rfl⟩)) (by simp -dsimp [valT, toDs, hb]) (by simp -dsimp [valT, toDs, hb] <;> with_reducible rfl))⟩, ?_⟩
    refine ⟨.inl (by kernel_rfl), ?_⟩
    refine ⟨.inl (by kernel_rfl), ?_⟩
    refine ⟨.inl (by kernel_rfl), ?_⟩
    exact True.intro
  case s0u1 =>
    refine ⟨.inr ⟨_, _, rfl, rfl, effN_of (eff_w (hdk := rfl) (hW := rfl) (hq := by simp -dsimp [valT, toDs, hb] <;> (first | done | rfl | exact ⟨rfl, rfl⟩ | exact ⟨rfl, rfl, rfl⟩)) (hoo := rfl) (hv := by simp -dsimp [valT, toDs, hb] <;> with_reducible rfl)) (by simp -dsimp [valT, canonO, insO, toDs, hb] <;> with_reducible rfl)⟩, ?_⟩
    refine ⟨.inl (by kernel_rfl), ?_⟩
    refine ⟨.inl (by kernel_rfl), ?_⟩
    exact True.intro
  case v1u1 =>
    refine ⟨.inr ⟨_, rfl, effN_self (eff_v rfl rfl (by simp -dsimp [valT, toDs, hb] <;> with_reducible rfl))⟩, ?_⟩
    refine ⟨.inl (by kernel_rfl), ?_⟩
    refine ⟨.inl (by kernel_rfl), ?_⟩
    refine ⟨.inl (by kernel_rfl), ?_⟩
    refine ⟨.inl (by kernel_rfl), ?_⟩
    refine ⟨.inl (by kernel_rfl), ?_⟩
    exact True.intro
  case s1u1 =>
    refine ⟨.inl (by kernel_rfl), ?_⟩
    refine ⟨.inr ⟨_, _, rfl, rfl, effN_of (eff_w (hdk := rfl) (hW := rfl) (hq := by simp -dsimp [valT, toDs, hb] <;> (first | done | rfl | exact ⟨rfl, rfl⟩ | exact ⟨rfl, rfl, rfl⟩)) (hoo := rfl) (hv := by simp -dsimp [valT, toDs, hb] <;> with_reducible rfl)) (by simp -dsimp [valT, canonO, insO, toDs, hb] <;> with_reducible rfl)⟩, ?_⟩
    refine ⟨.inl (by kernel_rfl), ?_⟩
    exact True.intro
  case v2u1 =>
    refine ⟨.inl (by kernel_rfl), ?_⟩
    refine ⟨.inl (by kernel_rfl), ?_⟩
    refine ⟨.inl (by kernel_rfl), ?_⟩
    refine ⟨.inl (by kernel_rfl), ?_⟩
    refine ⟨.inl (by kernel_rfl), ?_⟩
    refine ⟨.inl (by kernel_rfl), ?_⟩
    exact True.intro
  case s2u1 =>
    refine ⟨.inl (by kernel_rfl), ?_⟩
    refine ⟨.inl (by kernel_rfl), ?_⟩
    refine ⟨.inr ⟨_, _, rfl, rfl, effN_of (eff_w (hdk := rfl) (hW := rfl) (hq := by simp -dsimp [valT, toDs, hb] <;> (first | done | rfl | exact ⟨rfl, rfl⟩ | exact ⟨rfl, rfl, rfl⟩)) (hoo := rfl) (hv := by simp -dsimp [valT, toDs, hb] <;> with_reducible rfl)) (by simp -dsimp [valT, canonO, insO, toDs, hb] <;> with_reducible rfl)⟩, ?_⟩
    exact True.intro
  case v3u1 =>
    refine ⟨.inl (by kernel_rfl), ?_⟩
    refine ⟨.inl (by kernel_rfl), ?_⟩
    refine ⟨.inl (by kernel_rfl), ?_⟩
    refine ⟨.inl (by kernel_rfl), ?_⟩
    refine ⟨.inl (by kernel_rfl), ?_⟩
    refine ⟨.inl (by kernel_rfl), ?_⟩
    exact True.intro
  case s3u1 =>
    refine ⟨.inl (by kernel_rfl), ?_⟩
    refine ⟨.inl (by kernel_rfl), ?_⟩
    refine ⟨.inl (by kernel_rfl), ?_⟩
    exact True.intro
  case hoku1 => kernel_rfl
  refine ⟨rfl, ?_⟩
  (repeat' (first | (with_reducible refine br_d (fun _ => ?_) (fun _ => ?_)) | (with_reducible refine br_i (fun _ => ?_) (fun _ => ?_)) | (with_reducible refine dn_i follows_any (by kernel_rfl) ?_) | (with_reducible exact done_eq rfl) | (simp -dsimp))); (all_goals try with_reducible refine done_eq ?_)
  exact ⟨rfl, rfl⟩
abbrev cloES : Ow := .clo (.fn 142) [.own 1000000001 0]
theorem esIterate_p (A : List LE) (hl : A.length * 168 ≤ 140737488351232) (hA : ∀ x ∈ A, fitsLE x ∧ shortLE x) :
    AProc Tryz.prog 141 [.c (.d (.pt [dLPath A])), .c (.fn 1000000000)] [(1000000000, cloES), (1000000001, .cells [.d (.v (.slice none 0 0))] 26)]
      (fun r own' => r = .tup [] ∧ own' = [(1000000000, cloES), (1000000001, .cells [.gs 77 A.length] 26), (77, .arr A.length 33 (A.map (evD ∘ fromLE)))]) := by
  have b1 : A.length ≤ 9223372036854775807 := by omega
  refine aproc_ex [] Tryz.func141 (by kernel_rfl) rfl Tryz.ntmps141 Tryz.results141 (Nat.le_of_ble_eq_true (by kernel_rfl)) ?_; intro hok w0 S0
  (repeat' (first | (with_reducible refine br_d (fun _ => ?_) (fun _ => ?_)) | (with_reducible refine br_i (fun _ => ?_) (fun _ => ?_)) | (with_reducible refine dn_i follows_any (by kernel_rfl) ?_) | (with_reducible exact done_eq rfl) | (simp -dsimp [b1]))); (all_goals try with_reducible refine done_eq ?_)
  refine ex_loop (fun i : Nat => ⟨[(1, .c (.fn 1000000000)), (9, .c (.d (dLPath A))), (10, aI A.length), (11, aI i)], [(1000000000, cloES), (1000000001, .cells [.gs 77 i] 26), (77, .arr i 33 ((A.map (evD ∘ fromLE)).take i))]⟩) (fun i => i ≤ A.length) (fun i => A.length - i) 0 ?_ (Nat.zero_le _) ?_
  · refine Weak.trans (Weak.adopt (z := 1000000001) (id := 77) (T := 26) (E := 33) rfl rfl (by decide)) ?_
    exact Weak.same (by simp -dsimp) (by simp -dsimp) (by first | rfl | (simp [closedSt, Av.ids, Ow.ids, Cl.ids, Go.Smd.keys]; done))
  · rintro i hi K hK
    by_cases hlt : i < A.length
    · have hw : IntKind.wrap .i64 ((i : Int) + 1) = ((i + 1 : Nat) : Int) := by rw [wrap_i64] <;> omega
      obtain ⟨R, hR⟩ : ∃ R, R = (A.map (evD ∘ fromLE)).take i := ⟨_, rfl⟩
      have hRl : R.length = i := by rw [hR]; simp; omega
      have hx := hA _ (List.getElem_mem hlt)
      have hc := fes1_p i R A[i] hx.1 hx.2 (by omega)
      have h1 : (A.map (evD ∘ fromLE)).take (i + 1) = R ++ [evD (fromLE A[i])] := by
        rw [hR, List.take_succ_eq_append_getElem (by simpa using hlt)]; simp
      obtain ⟨e0, e1, e2, e3, he, he'⟩ := leD_four A[i]
      rw [he', he] at hc
      rw [← hR]
      (repeat' (first | (with_reducible refine br_d (fun _ => ?_) (fun _ => ?_)) | (with_reducible refine br_i (fun _ => ?_) (fun _ => ?_)) | ((with_reducible apply nd_q (ρ := [(1000000000, 1000000001), (1000000001, 77)]) 7 (hc)); (case hc => simp -dsimp [b1, hlt, hw, he] <;> first | exact ⟨rfl, rfl, rfl⟩ | exact ⟨rfl, rfl⟩ | done); (case hx => simp -dsimp [b1, hlt, hw, he] <;> with_reducible rfl); (case ho => simp -dsimp [b1, hlt, hw, he]); (case hh => simp -dsimp [b1, hlt, hw, he]); (case hb => simp -dsimp [b1, hlt, hw, he])) | (with_reducible refine dn_i follows_any (by kernel_rfl) ?_) | (with_reducible exact done_eq rfl) | (simp -dsimp [b1, hlt, hw, he]))); (all_goals try with_reducible refine done_eq ?_)
      refine hK _ (i + 1) ?_ (by omega) (by omega)
      rw [h1]
      exact Weak.same (by simp -dsimp) (by simp -dsimp) (by first | rfl | (simp [closedSt, Av.ids, Ow.ids, Cl.ids, Go.Smd.keys]; done))
    · have hi2 : i = A.length := by omega
      subst hi2
      rw [List.take_of_length_le (by simp)]
      (repeat' (first | (with_reducible refine br_d (fun _ => ?_) (fun _ => ?_)) | (with_reducible refine br_i (fun _ => ?_) (fun _ => ?_)) | (with_reducible refine dn_i follows_any (by kernel_rfl) ?_) | (with_reducible exact done_eq rfl) | (simp -dsimp [b1]))); (all_goals try with_reducible refine done_eq ?_)
      exact ⟨rfl, rfl⟩
theorem fromElemSet_a (A : List LE) (hl : A.length * 168 ≤ 140737488351232) (hA : ∀ x ∈ A, fitsLE x ∧ shortLE x) :
    ACalls Tryz.prog 94 [.c (.d (.pt [dLPath A]))] (fun r => r = .c (.d (dPath (A.map fromLE)))) := by
  have hi := esIterate_p A hl hA
  have ct : ctys Tryz.prog 204 = [none] := by kernel_rfl
  refine acalls_ex [] Tryz.func94 (by kernel_rfl) rfl Tryz.ntmps94 Tryz.results94 (Nat.le_of_ble_eq_true (by kernel_rfl)) ?_; intro hok w0 S0
  clear hok
  (repeat' (first | (with_reducible refine br_d (fun _ => ?_) (fun _ => ?_)) | (with_reducible refine br_i (fun _ => ?_) (fun _ => ?_)) | ((with_reducible apply nd_q (ρ := [(1000000000, 5), (1000000001, 3)]) 7 (hi)); (case hc => simp -dsimp [funcV, ct] <;> first | exact ⟨rfl, rfl, rfl⟩ | exact ⟨rfl, rfl⟩ | done); (case hx => simp -dsimp [funcV, ct] <;> with_reducible rfl); (case ho => simp -dsimp [funcV, ct]); (case hh => simp -dsimp [funcV, ct]); (case hb => simp -dsimp [funcV, ct])) | (with_reducible refine dn_i follows_any (by kernel_rfl) ?_) | (with_reducible exact done_eq rfl) | (simp -dsimp [funcV, ct]))); (all_goals try with_reducible refine done_eq ?_)
  simp only [dPath, List.map_map]
end Go.Smd
end
