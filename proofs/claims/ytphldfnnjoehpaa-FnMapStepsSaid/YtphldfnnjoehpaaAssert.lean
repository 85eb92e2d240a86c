/- Type assertions to a type that is no interface. -/
import Derived.Test.YtphldfnnjoehpaaBase
namespace Go.Smd
open Go.RowKit Go.Proofs

theorem run_assert_same {P : Program} {U : TypeId} {d : TypeDesc} (hu : P.underlying U = some d) (hd : (match d with | .interface _ => false | _ => true) = true) (v : Value) (x : TypeId) (w : World) :
    (Instr.typeAssert (.iface U v) x U true).run P w = .ok (.tuple #[v, .bool true]) w := by
  unfold Instr.typeAssert
  simp only [Sem.run_bind, run_underlying hu, Result.andThen_ok]
  cases d <;> simp_all
theorem run_assert_same1 {P : Program} {U : TypeId} {d : TypeDesc} (hu : P.underlying U = some d) (hd : (match d with | .interface _ => false | _ => true) = true) (v : Value) (x : TypeId) (w : World) :
    (Instr.typeAssert (.iface U v) x U false).run P w = .ok v w := by
  unfold Instr.typeAssert
  simp only [Sem.run_bind, run_underlying hu, Result.andThen_ok]
  cases d <;> simp_all
theorem run_assert_other {P : Program} {U : TypeId} {d : TypeDesc} {z : Value} (hu : P.underlying U = some d) (hd : (match d with | .interface _ => false | _ => true) = true) (hz : (P.info? U).map (·.zero) = some (some z)) {t : TypeId} (ht : t ≠ U) (v : Value) (x : TypeId) (w : World) :
    (Instr.typeAssert (.iface t v) x U true).run P w = .ok (.tuple #[z, .bool false]) w := by
  obtain ⟨i, hi, hz'⟩ := Option.map_eq_some_iff.1 hz
  unfold Instr.typeAssert
  simp only [Sem.run_bind, run_underlying hu, Result.andThen_ok]
  cases d <;> simp_all [zeroValue, typeInfo]
theorem run_assert_nil {P : Program} {U : TypeId} {d : TypeDesc} {z : Value} (hu : P.underlying U = some d) (hd : (match d with | .interface _ => false | _ => true) = true) (hz : (P.info? U).map (·.zero) = some (some z)) (x : TypeId) (w : World) :
    (Instr.typeAssert .nilIface x U true).run P w = .ok (.tuple #[z, .bool false]) w := by
  obtain ⟨i, hi, hz'⟩ := Option.map_eq_some_iff.1 hz
  unfold Instr.typeAssert
  simp only [Sem.run_bind, run_underlying hu, Result.andThen_ok]
  cases d <;> simp_all [zeroValue, typeInfo]
@[go_sem] theorem as_list_same (v : Value) (x : TypeId) (w : World) : (Instr.typeAssert (.iface 128 v) x 128 true).run Try.prog w = .ok (.tuple #[v, .bool true]) w := run_assert_same (d := _) Try.underlying128 rfl v x w
@[go_sem] theorem as_list_one (v : Value) (x : TypeId) (w : World) : (Instr.typeAssert (.iface 128 v) x 128 false).run Try.prog w = .ok v w := run_assert_same1 (d := _) Try.underlying128 rfl v x w
@[go_sem] theorem as_list_other (t : TypeId) (ht : (t == 128) = false) (v : Value) (x : TypeId) (w : World) : (Instr.typeAssert (.iface t v) x 128 true).run Try.prog w = .ok (.tuple #[.slice none 0 0, .bool false]) w := run_assert_other (d := _) Try.underlying128 rfl (by kernel_rfl) (by simpa using ht) v x w
@[go_sem] theorem as_list_nil (x : TypeId) (w : World) : (Instr.typeAssert .nilIface x 128 true).run Try.prog w = .ok (.tuple #[.slice none 0 0, .bool false]) w := run_assert_nil (d := _) Try.underlying128 rfl (by kernel_rfl) x w
@[go_sem] theorem as_map_same (v : Value) (x : TypeId) (w : World) : (Instr.typeAssert (.iface 154 v) x 154 true).run Try.prog w = .ok (.tuple #[v, .bool true]) w := run_assert_same (d := _) Try.underlying154 rfl v x w
@[go_sem] theorem as_map_one (v : Value) (x : TypeId) (w : World) : (Instr.typeAssert (.iface 154 v) x 154 false).run Try.prog w = .ok v w := run_assert_same1 (d := _) Try.underlying154 rfl v x w
@[go_sem] theorem as_map_other (t : TypeId) (ht : (t == 154) = false) (v : Value) (x : TypeId) (w : World) : (Instr.typeAssert (.iface t v) x 154 true).run Try.prog w = .ok (.tuple #[.map none, .bool false]) w := run_assert_other (d := _) Try.underlying154 rfl (by kernel_rfl) (by simpa using ht) v x w
@[go_sem] theorem as_map_nil (x : TypeId) (w : World) : (Instr.typeAssert .nilIface x 154 true).run Try.prog w = .ok (.tuple #[.map none, .bool false]) w := run_assert_nil (d := _) Try.underlying154 rfl (by kernel_rfl) x w
@[go_sem] theorem as_i64_same (v : Value) (x : TypeId) (w : World) : (Instr.typeAssert (.iface 2 v) x 2 true).run Try.prog w = .ok (.tuple #[v, .bool true]) w := run_assert_same (d := _) Try.underlying2 rfl v x w
@[go_sem] theorem as_i64_one (v : Value) (x : TypeId) (w : World) : (Instr.typeAssert (.iface 2 v) x 2 false).run Try.prog w = .ok v w := run_assert_same1 (d := _) Try.underlying2 rfl v x w
@[go_sem] theorem as_i64_other (t : TypeId) (ht : (t == 2) = false) (v : Value) (x : TypeId) (w : World) : (Instr.typeAssert (.iface t v) x 2 true).run Try.prog w = .ok (.tuple #[.int .i64 0, .bool false]) w := run_assert_other (d := _) Try.underlying2 rfl (by kernel_rfl) (by simpa using ht) v x w
@[go_sem] theorem as_i64_nil (x : TypeId) (w : World) : (Instr.typeAssert .nilIface x 2 true).run Try.prog w = .ok (.tuple #[.int .i64 0, .bool false]) w := run_assert_nil (d := _) Try.underlying2 rfl (by kernel_rfl) x w
@[go_sem] theorem as_i32_same (v : Value) (x : TypeId) (w : World) : (Instr.typeAssert (.iface 21 v) x 21 true).run Try.prog w = .ok (.tuple #[v, .bool true]) w := run_assert_same (d := _) Try.underlying21 rfl v x w
@[go_sem] theorem as_i32_one (v : Value) (x : TypeId) (w : World) : (Instr.typeAssert (.iface 21 v) x 21 false).run Try.prog w = .ok v w := run_assert_same1 (d := _) Try.underlying21 rfl v x w
@[go_sem] theorem as_i32_other (t : TypeId) (ht : (t == 21) = false) (v : Value) (x : TypeId) (w : World) : (Instr.typeAssert (.iface t v) x 21 true).run Try.prog w = .ok (.tuple #[.int .i32 0, .bool false]) w := run_assert_other (d := _) Try.underlying21 rfl (by kernel_rfl) (by simpa using ht) v x w
@[go_sem] theorem as_i32_nil (x : TypeId) (w : World) : (Instr.typeAssert .nilIface x 21 true).run Try.prog w = .ok (.tuple #[.int .i32 0, .bool false]) w := run_assert_nil (d := _) Try.underlying21 rfl (by kernel_rfl) x w
@[go_sem] theorem as_f64_same (v : Value) (x : TypeId) (w : World) : (Instr.typeAssert (.iface 22 v) x 22 true).run Try.prog w = .ok (.tuple #[v, .bool true]) w := run_assert_same (d := _) Try.underlying22 rfl v x w
@[go_sem] theorem as_f64_one (v : Value) (x : TypeId) (w : World) : (Instr.typeAssert (.iface 22 v) x 22 false).run Try.prog w = .ok v w := run_assert_same1 (d := _) Try.underlying22 rfl v x w
@[go_sem] theorem as_f64_other (t : TypeId) (ht : (t == 22) = false) (v : Value) (x : TypeId) (w : World) : (Instr.typeAssert (.iface t v) x 22 true).run Try.prog w = .ok (.tuple #[.float .f64 0, .bool false]) w := run_assert_other (d := _) Try.underlying22 rfl (by kernel_rfl) (by simpa using ht) v x w
@[go_sem] theorem as_f64_nil (x : TypeId) (w : World) : (Instr.typeAssert .nilIface x 22 true).run Try.prog w = .ok (.tuple #[.float .f64 0, .bool false]) w := run_assert_nil (d := _) Try.underlying22 rfl (by kernel_rfl) x w
@[go_sem] theorem as_int_same (v : Value) (x : TypeId) (w : World) : (Instr.typeAssert (.iface 3 v) x 3 true).run Try.prog w = .ok (.tuple #[v, .bool true]) w := run_assert_same (d := _) Try.underlying3 rfl v x w
@[go_sem] theorem as_int_one (v : Value) (x : TypeId) (w : World) : (Instr.typeAssert (.iface 3 v) x 3 false).run Try.prog w = .ok v w := run_assert_same1 (d := _) Try.underlying3 rfl v x w
@[go_sem] theorem as_int_other (t : TypeId) (ht : (t == 3) = false) (v : Value) (x : TypeId) (w : World) : (Instr.typeAssert (.iface t v) x 3 true).run Try.prog w = .ok (.tuple #[.int .i64 0, .bool false]) w := run_assert_other (d := _) Try.underlying3 rfl (by kernel_rfl) (by simpa using ht) v x w
@[go_sem] theorem as_int_nil (x : TypeId) (w : World) : (Instr.typeAssert .nilIface x 3 true).run Try.prog w = .ok (.tuple #[.int .i64 0, .bool false]) w := run_assert_nil (d := _) Try.underlying3 rfl (by kernel_rfl) x w
@[go_sem] theorem as_bool_same (v : Value) (x : TypeId) (w : World) : (Instr.typeAssert (.iface 4 v) x 4 true).run Try.prog w = .ok (.tuple #[v, .bool true]) w := run_assert_same (d := _) Try.underlying4 rfl v x w
@[go_sem] theorem as_bool_one (v : Value) (x : TypeId) (w : World) : (Instr.typeAssert (.iface 4 v) x 4 false).run Try.prog w = .ok v w := run_assert_same1 (d := _) Try.underlying4 rfl v x w
@[go_sem] theorem as_bool_other (t : TypeId) (ht : (t == 4) = false) (v : Value) (x : TypeId) (w : World) : (Instr.typeAssert (.iface t v) x 4 true).run Try.prog w = .ok (.tuple #[.bool false, .bool false]) w := run_assert_other (d := _) Try.underlying4 rfl (by kernel_rfl) (by simpa using ht) v x w
@[go_sem] theorem as_bool_nil (x : TypeId) (w : World) : (Instr.typeAssert .nilIface x 4 true).run Try.prog w = .ok (.tuple #[.bool false, .bool false]) w := run_assert_nil (d := _) Try.underlying4 rfl (by kernel_rfl) x w
@[go_sem] theorem as_u8_same (v : Value) (x : TypeId) (w : World) : (Instr.typeAssert (.iface 5 v) x 5 true).run Try.prog w = .ok (.tuple #[v, .bool true]) w := run_assert_same (d := _) Try.underlying5 rfl v x w
@[go_sem] theorem as_u8_one (v : Value) (x : TypeId) (w : World) : (Instr.typeAssert (.iface 5 v) x 5 false).run Try.prog w = .ok v w := run_assert_same1 (d := _) Try.underlying5 rfl v x w
@[go_sem] theorem as_u8_other (t : TypeId) (ht : (t == 5) = false) (v : Value) (x : TypeId) (w : World) : (Instr.typeAssert (.iface t v) x 5 true).run Try.prog w = .ok (.tuple #[.int .u8 0, .bool false]) w := run_assert_other (d := _) Try.underlying5 rfl (by kernel_rfl) (by simpa using ht) v x w
@[go_sem] theorem as_u8_nil (x : TypeId) (w : World) : (Instr.typeAssert .nilIface x 5 true).run Try.prog w = .ok (.tuple #[.int .u8 0, .bool false]) w := run_assert_nil (d := _) Try.underlying5 rfl (by kernel_rfl) x w
@[go_sem] theorem as_str_same (v : Value) (x : TypeId) (w : World) : (Instr.typeAssert (.iface 9 v) x 9 true).run Try.prog w = .ok (.tuple #[v, .bool true]) w := run_assert_same (d := _) Try.underlying9 rfl v x w
@[go_sem] theorem as_str_one (v : Value) (x : TypeId) (w : World) : (Instr.typeAssert (.iface 9 v) x 9 false).run Try.prog w = .ok v w := run_assert_same1 (d := _) Try.underlying9 rfl v x w
@[go_sem] theorem as_str_other (t : TypeId) (ht : (t == 9) = false) (v : Value) (x : TypeId) (w : World) : (Instr.typeAssert (.iface t v) x 9 true).run Try.prog w = .ok (.tuple #[.string ⟨#[]⟩, .bool false]) w := run_assert_other (d := _) Try.underlying9 rfl (by kernel_rfl) (by simpa using ht) v x w
@[go_sem] theorem as_str_nil (x : TypeId) (w : World) : (Instr.typeAssert .nilIface x 9 true).run Try.prog w = .ok (.tuple #[.string ⟨#[]⟩, .bool false]) w := run_assert_nil (d := _) Try.underlying9 rfl (by kernel_rfl) x w
@[go_sem] theorem as_u32_same (v : Value) (x : TypeId) (w : World) : (Instr.typeAssert (.iface 260 v) x 260 true).run Try.prog w = .ok (.tuple #[v, .bool true]) w := run_assert_same (d := _) Try.underlying260 rfl v x w
@[go_sem] theorem as_u32_one (v : Value) (x : TypeId) (w : World) : (Instr.typeAssert (.iface 260 v) x 260 false).run Try.prog w = .ok v w := run_assert_same1 (d := _) Try.underlying260 rfl v x w
@[go_sem] theorem as_u32_other (t : TypeId) (ht : (t == 260) = false) (v : Value) (x : TypeId) (w : World) : (Instr.typeAssert (.iface t v) x 260 true).run Try.prog w = .ok (.tuple #[.int .u32 0, .bool false]) w := run_assert_other (d := _) Try.underlying260 rfl (by kernel_rfl) (by simpa using ht) v x w
@[go_sem] theorem as_u32_nil (x : TypeId) (w : World) : (Instr.typeAssert .nilIface x 260 true).run Try.prog w = .ok (.tuple #[.int .u32 0, .bool false]) w := run_assert_nil (d := _) Try.underlying260 rfl (by kernel_rfl) x w
@[go_sem] theorem as_f32_same (v : Value) (x : TypeId) (w : World) : (Instr.typeAssert (.iface 279 v) x 279 true).run Try.prog w = .ok (.tuple #[v, .bool true]) w := run_assert_same (d := _) Try.underlying279 rfl v x w
@[go_sem] theorem as_f32_one (v : Value) (x : TypeId) (w : World) : (Instr.typeAssert (.iface 279 v) x 279 false).run Try.prog w = .ok v w := run_assert_same1 (d := _) Try.underlying279 rfl v x w
@[go_sem] theorem as_f32_other (t : TypeId) (ht : (t == 279) = false) (v : Value) (x : TypeId) (w : World) : (Instr.typeAssert (.iface t v) x 279 true).run Try.prog w = .ok (.tuple #[.float .f32 0, .bool false]) w := run_assert_other (d := _) Try.underlying279 rfl (by kernel_rfl) (by simpa using ht) v x w
@[go_sem] theorem as_f32_nil (x : TypeId) (w : World) : (Instr.typeAssert .nilIface x 279 true).run Try.prog w = .ok (.tuple #[.float .f32 0, .bool false]) w := run_assert_nil (d := _) Try.underlying279 rfl (by kernel_rfl) x w
@[go_sem] theorem as_i8_same (v : Value) (x : TypeId) (w : World) : (Instr.typeAssert (.iface 281 v) x 281 true).run Try.prog w = .ok (.tuple #[v, .bool true]) w := run_assert_same (d := _) Try.underlying281 rfl v x w
@[go_sem] theorem as_i8_one (v : Value) (x : TypeId) (w : World) : (Instr.typeAssert (.iface 281 v) x 281 false).run Try.prog w = .ok v w := run_assert_same1 (d := _) Try.underlying281 rfl v x w
@[go_sem] theorem as_i8_other (t : TypeId) (ht : (t == 281) = false) (v : Value) (x : TypeId) (w : World) : (Instr.typeAssert (.iface t v) x 281 true).run Try.prog w = .ok (.tuple #[.int .i8 0, .bool false]) w := run_assert_other (d := _) Try.underlying281 rfl (by kernel_rfl) (by simpa using ht) v x w
@[go_sem] theorem as_i8_nil (x : TypeId) (w : World) : (Instr.typeAssert .nilIface x 281 true).run Try.prog w = .ok (.tuple #[.int .i8 0, .bool false]) w := run_assert_nil (d := _) Try.underlying281 rfl (by kernel_rfl) x w
@[go_sem] theorem as_i16_same (v : Value) (x : TypeId) (w : World) : (Instr.typeAssert (.iface 283 v) x 283 true).run Try.prog w = .ok (.tuple #[v, .bool true]) w := run_assert_same (d := _) Try.underlying283 rfl v x w
@[go_sem] theorem as_i16_one (v : Value) (x : TypeId) (w : World) : (Instr.typeAssert (.iface 283 v) x 283 false).run Try.prog w = .ok v w := run_assert_same1 (d := _) Try.underlying283 rfl v x w
@[go_sem] theorem as_i16_other (t : TypeId) (ht : (t == 283) = false) (v : Value) (x : TypeId) (w : World) : (Instr.typeAssert (.iface t v) x 283 true).run Try.prog w = .ok (.tuple #[.int .i16 0, .bool false]) w := run_assert_other (d := _) Try.underlying283 rfl (by kernel_rfl) (by simpa using ht) v x w
@[go_sem] theorem as_i16_nil (x : TypeId) (w : World) : (Instr.typeAssert .nilIface x 283 true).run Try.prog w = .ok (.tuple #[.int .i16 0, .bool false]) w := run_assert_nil (d := _) Try.underlying283 rfl (by kernel_rfl) x w
@[go_sem] theorem as_uint_same (v : Value) (x : TypeId) (w : World) : (Instr.typeAssert (.iface 286 v) x 286 true).run Try.prog w = .ok (.tuple #[v, .bool true]) w := run_assert_same (d := _) Try.underlying286 rfl v x w
@[go_sem] theorem as_uint_one (v : Value) (x : TypeId) (w : World) : (Instr.typeAssert (.iface 286 v) x 286 false).run Try.prog w = .ok v w := run_assert_same1 (d := _) Try.underlying286 rfl v x w
@[go_sem] theorem as_uint_other (t : TypeId) (ht : (t == 286) = false) (v : Value) (x : TypeId) (w : World) : (Instr.typeAssert (.iface t v) x 286 true).run Try.prog w = .ok (.tuple #[.int .u64 0, .bool false]) w := run_assert_other (d := _) Try.underlying286 rfl (by kernel_rfl) (by simpa using ht) v x w
@[go_sem] theorem as_uint_nil (x : TypeId) (w : World) : (Instr.typeAssert .nilIface x 286 true).run Try.prog w = .ok (.tuple #[.int .u64 0, .bool false]) w := run_assert_nil (d := _) Try.underlying286 rfl (by kernel_rfl) x w
@[go_sem] theorem as_u16_same (v : Value) (x : TypeId) (w : World) : (Instr.typeAssert (.iface 289 v) x 289 true).run Try.prog w = .ok (.tuple #[v, .bool true]) w := run_assert_same (d := _) Try.underlying289 rfl v x w
@[go_sem] theorem as_u16_one (v : Value) (x : TypeId) (w : World) : (Instr.typeAssert (.iface 289 v) x 289 false).run Try.prog w = .ok v w := run_assert_same1 (d := _) Try.underlying289 rfl v x w
@[go_sem] theorem as_u16_other (t : TypeId) (ht : (t == 289) = false) (v : Value) (x : TypeId) (w : World) : (Instr.typeAssert (.iface t v) x 289 true).run Try.prog w = .ok (.tuple #[.int .u16 0, .bool false]) w := run_assert_other (d := _) Try.underlying289 rfl (by kernel_rfl) (by simpa using ht) v x w
@[go_sem] theorem as_u16_nil (x : TypeId) (w : World) : (Instr.typeAssert .nilIface x 289 true).run Try.prog w = .ok (.tuple #[.int .u16 0, .bool false]) w := run_assert_nil (d := _) Try.underlying289 rfl (by kernel_rfl) x w
end Go.Smd
