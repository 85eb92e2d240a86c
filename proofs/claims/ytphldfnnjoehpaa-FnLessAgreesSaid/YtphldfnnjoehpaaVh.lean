/- Values compared, by value: the kinds. -/
import Derived.Test.YtphldfnnjoehpaaMs
import Derived.Test.YtphldfnnjoehpaaVg
import Derived.Laws.FloatBits
set_option linter.unusedSimpArgs false
set_option maxRecDepth 100000
set_option maxHeartbeats 8000000
namespace Go.Smd
open Go.RowKit Go.Proofs

/-- A whole number as a floating-point number. -/
def toFl (n : Int) : Nat := FloatKind.f64.nearest n
theorem toFl_lt (n : Int) : toFl n < 18446744073709551616 := Nat.lt_of_lt_of_eq (Ieee.Format.write_lt Ieee.double (.number (decide (n < 0)) n.natAbs 0)) (by kernel_rfl)
theorem conv_e (n : Int) : evalPure Try.prog (convert 2 22 (.int .i64 n)) = some (.float .f64 (toFl n)) := by kernel_rfl
theorem conv_a (n : Int) : valPure Try.prog (convert 2 22 (.int .i64 n)) = some (.c (.d (.v (.float .f64 (toFl n))))) := by
  unfold valPure; rw [conv_e]; simp [okVb, toFl_lt]
/-- Two values compared, given how lists and maps are. -/
def cmpT (cl : List Tree → List Tree → Int) (cm : List (ByteArray × Tree) → List (ByteArray × Tree) → Int) : Tree → Tree → Int
  | .float a, .float b => cmpFl a b
  | .float a, .int b => cmpFl a (toFl b)
  | .float _, _ => -1
  | .int a, .float b => cmpFl (toFl a) b
  | _, .float _ => 1
  | .int a, .int b => cmpI a b
  | .int _, _ => -1
  | _, .int _ => 1
  | .str a, .str b => Lib.compareBytes a.data.toList b.data.toList
  | .str _, _ => -1
  | _, .str _ => 1
  | .bool a, .bool b => cmpB a b
  | .bool _, _ => -1
  | _, .bool _ => 1
  | .list a, .list b => cl a b
  | .list _, _ => -1
  | _, .list _ => 1
  | .map a, .map b => cm a b
  | .map _, _ => -1
  | _, .map _ => 1
  | .nil, .nil => 0
theorem compareKinds_a (cl : List Tree → List Tree → Int) (cm : List (ByteArray × Tree) → List (ByteArray × Tree) → Int) (x y : Tree)
    (hL : ∀ l m, x = .list l → y = .list m → ACalls Try.prog 128 [aAlloc, .c (.d (dL l)), .c (.d (dL m))] (fun r => r = aV (.int .i64 (cl l m))))
    (hM : ∀ l m, x = .map l → y = .map m → ACalls Try.prog 129 [aAlloc, .c (.d (dM l)), .c (.d (dM m))] (fun r => r = aV (.int .i64 (cm l m)))) :
    ACalls Try.prog fCompareUsing [aAlloc, .c (.d (dV x)), .c (.d (dV y))] (fun r => r = aV (.int .i64 (cmpT cl cm x y))) := by
  cases x <;> cases y
  all_goals
    refine acalls_ex [] Try.func114 (by kernel_rfl) rfl Try.ntmps114 Try.results114 (Nat.le_of_ble_eq_true (by kernel_rfl)) ?_; intro hok w0 S0
    (repeat' (first
                                                            | (with_reducible refine br_d (fun _ => ?_) (fun _ => ?_))
                                                            | (with_reducible refine br_i (fun _ => ?_) (fun _ => ?_))
                                                            | (with_reducible refine nd_v (isFloat_a _) (by first | rfl | (simp -dsimp [conv_a, isFloatT, isIntT, isStringT, isBoolT, isListT, isMapT, isNilT]; done)) ?_)
                                                            | (with_reducible refine nw_v (isFloat_a _) rfl (by first | rfl | (simp -dsimp [conv_a, isFloatT, isIntT, isStringT, isBoolT, isListT, isMapT, isNilT]; done)) (by first | rfl | (simp -dsimp [conv_a, isFloatT, isIntT, isStringT, isBoolT, isListT, isMapT, isNilT]; done)) ?_)
                                                            | (with_reducible refine nd_v (isInt_a _) (by first | rfl | (simp -dsimp [conv_a, isFloatT, isIntT, isStringT, isBoolT, isListT, isMapT, isNilT]; done)) ?_)
                                                            | (with_reducible refine nw_v (isInt_a _) rfl (by first | rfl | (simp -dsimp [conv_a, isFloatT, isIntT, isStringT, isBoolT, isListT, isMapT, isNilT]; done)) (by first | rfl | (simp -dsimp [conv_a, isFloatT, isIntT, isStringT, isBoolT, isListT, isMapT, isNilT]; done)) ?_)
                                                            | (with_reducible refine nd_v (isString_a _) (by first | rfl | (simp -dsimp [conv_a, isFloatT, isIntT, isStringT, isBoolT, isListT, isMapT, isNilT]; done)) ?_)
                                                            | (with_reducible refine nw_v (isString_a _) rfl (by first | rfl | (simp -dsimp [conv_a, isFloatT, isIntT, isStringT, isBoolT, isListT, isMapT, isNilT]; done)) (by first | rfl | (simp -dsimp [conv_a, isFloatT, isIntT, isStringT, isBoolT, isListT, isMapT, isNilT]; done)) ?_)
                                                            | (with_reducible refine nd_v (isBool_a _) (by first | rfl | (simp -dsimp [conv_a, isFloatT, isIntT, isStringT, isBoolT, isListT, isMapT, isNilT]; done)) ?_)
                                                            | (with_reducible refine nw_v (isBool_a _) rfl (by first | rfl | (simp -dsimp [conv_a, isFloatT, isIntT, isStringT, isBoolT, isListT, isMapT, isNilT]; done)) (by first | rfl | (simp -dsimp [conv_a, isFloatT, isIntT, isStringT, isBoolT, isListT, isMapT, isNilT]; done)) ?_)
                                                            | (with_reducible refine nd_v (isList_a _) (by first | rfl | (simp -dsimp [conv_a, isFloatT, isIntT, isStringT, isBoolT, isListT, isMapT, isNilT]; done)) ?_)
                                                            | (with_reducible refine nw_v (isList_a _) rfl (by first | rfl | (simp -dsimp [conv_a, isFloatT, isIntT, isStringT, isBoolT, isListT, isMapT, isNilT]; done)) (by first | rfl | (simp -dsimp [conv_a, isFloatT, isIntT, isStringT, isBoolT, isListT, isMapT, isNilT]; done)) ?_)
                                                            | (with_reducible refine nd_v (isMap_a _) (by first | rfl | (simp -dsimp [conv_a, isFloatT, isIntT, isStringT, isBoolT, isListT, isMapT, isNilT]; done)) ?_)
                                                            | (with_reducible refine nw_v (isMap_a _) rfl (by first | rfl | (simp -dsimp [conv_a, isFloatT, isIntT, isStringT, isBoolT, isListT, isMapT, isNilT]; done)) (by first | rfl | (simp -dsimp [conv_a, isFloatT, isIntT, isStringT, isBoolT, isListT, isMapT, isNilT]; done)) ?_)
                                                            | (with_reducible refine nd_v (isNull_a _) (by first | rfl | (simp -dsimp [conv_a, isFloatT, isIntT, isStringT, isBoolT, isListT, isMapT, isNilT]; done)) ?_)
                                                            | (with_reducible refine nw_v (isNull_a _) rfl (by first | rfl | (simp -dsimp [conv_a, isFloatT, isIntT, isStringT, isBoolT, isListT, isMapT, isNilT]; done)) (by first | rfl | (simp -dsimp [conv_a, isFloatT, isIntT, isStringT, isBoolT, isListT, isMapT, isNilT]; done)) ?_)
                                                            | (with_reducible refine nd_v (asFloat_a _) (by first | rfl | (simp -dsimp [conv_a, isFloatT, isIntT, isStringT, isBoolT, isListT, isMapT, isNilT]; done)) ?_)
                                                            | (with_reducible refine nw_v (asFloat_a _) rfl (by first | rfl | (simp -dsimp [conv_a, isFloatT, isIntT, isStringT, isBoolT, isListT, isMapT, isNilT]; done)) (by first | rfl | (simp -dsimp [conv_a, isFloatT, isIntT, isStringT, isBoolT, isListT, isMapT, isNilT]; done)) ?_)
                                                            | (with_reducible refine nd_v (asInt_a _) (by first | rfl | (simp -dsimp [conv_a, isFloatT, isIntT, isStringT, isBoolT, isListT, isMapT, isNilT]; done)) ?_)
                                                            | (with_reducible refine nw_v (asInt_a _) rfl (by first | rfl | (simp -dsimp [conv_a, isFloatT, isIntT, isStringT, isBoolT, isListT, isMapT, isNilT]; done)) (by first | rfl | (simp -dsimp [conv_a, isFloatT, isIntT, isStringT, isBoolT, isListT, isMapT, isNilT]; done)) ?_)
                                                            | (with_reducible refine nd_v (asString_a _) (by first | rfl | (simp -dsimp [conv_a, isFloatT, isIntT, isStringT, isBoolT, isListT, isMapT, isNilT]; done)) ?_)
                                                            | (with_reducible refine nw_v (asString_a _) rfl (by first | rfl | (simp -dsimp [conv_a, isFloatT, isIntT, isStringT, isBoolT, isListT, isMapT, isNilT]; done)) (by first | rfl | (simp -dsimp [conv_a, isFloatT, isIntT, isStringT, isBoolT, isListT, isMapT, isNilT]; done)) ?_)
                                                            | (with_reducible refine nd_v (asBool_a _) (by first | rfl | (simp -dsimp [conv_a, isFloatT, isIntT, isStringT, isBoolT, isListT, isMapT, isNilT]; done)) ?_)
                                                            | (with_reducible refine nw_v (asBool_a _) rfl (by first | rfl | (simp -dsimp [conv_a, isFloatT, isIntT, isStringT, isBoolT, isListT, isMapT, isNilT]; done)) (by first | rfl | (simp -dsimp [conv_a, isFloatT, isIntT, isStringT, isBoolT, isListT, isMapT, isNilT]; done)) ?_)
                                                            | (with_reducible refine nd_v (asListUsing_a _ dAlloc) (by first | rfl | (simp -dsimp [conv_a, isFloatT, isIntT, isStringT, isBoolT, isListT, isMapT, isNilT]; done)) ?_)
                                                            | (with_reducible refine nw_v (asListUsing_a _ dAlloc) rfl (by first | rfl | (simp -dsimp [conv_a, isFloatT, isIntT, isStringT, isBoolT, isListT, isMapT, isNilT]; done)) (by first | rfl | (simp -dsimp [conv_a, isFloatT, isIntT, isStringT, isBoolT, isListT, isMapT, isNilT]; done)) ?_)
                                                            | (with_reducible refine nd_v (asMapUsing_a _ dAlloc) (by first | rfl | (simp -dsimp [conv_a, isFloatT, isIntT, isStringT, isBoolT, isListT, isMapT, isNilT]; done)) ?_)
                                                            | (with_reducible refine nw_v (asMapUsing_a _ dAlloc) rfl (by first | rfl | (simp -dsimp [conv_a, isFloatT, isIntT, isStringT, isBoolT, isListT, isMapT, isNilT]; done)) (by first | rfl | (simp -dsimp [conv_a, isFloatT, isIntT, isStringT, isBoolT, isListT, isMapT, isNilT]; done)) ?_)
                                                            | (with_reducible refine nd_v (floatCompare_a _ _) (by first | rfl | (simp -dsimp [conv_a, isFloatT, isIntT, isStringT, isBoolT, isListT, isMapT, isNilT]; done)) ?_)
                                                            | (with_reducible refine nw_v (floatCompare_a _ _) rfl (by first | rfl | (simp -dsimp [conv_a, isFloatT, isIntT, isStringT, isBoolT, isListT, isMapT, isNilT]; done)) (by first | rfl | (simp -dsimp [conv_a, isFloatT, isIntT, isStringT, isBoolT, isListT, isMapT, isNilT]; done)) ?_)
                                                            | (with_reducible refine nd_v (intCompare_a _ _) (by first | rfl | (simp -dsimp [conv_a, isFloatT, isIntT, isStringT, isBoolT, isListT, isMapT, isNilT]; done)) ?_)
                                                            | (with_reducible refine nw_v (intCompare_a _ _) rfl (by first | rfl | (simp -dsimp [conv_a, isFloatT, isIntT, isStringT, isBoolT, isListT, isMapT, isNilT]; done)) (by first | rfl | (simp -dsimp [conv_a, isFloatT, isIntT, isStringT, isBoolT, isListT, isMapT, isNilT]; done)) ?_)
                                                            | (with_reducible refine nd_v (strCompare_a _ _) (by first | rfl | (simp -dsimp [conv_a, isFloatT, isIntT, isStringT, isBoolT, isListT, isMapT, isNilT]; done)) ?_)
                                                            | (with_reducible refine nw_v (strCompare_a _ _) rfl (by first | rfl | (simp -dsimp [conv_a, isFloatT, isIntT, isStringT, isBoolT, isListT, isMapT, isNilT]; done)) (by first | rfl | (simp -dsimp [conv_a, isFloatT, isIntT, isStringT, isBoolT, isListT, isMapT, isNilT]; done)) ?_)
                                                            | (with_reducible refine nd_v (boolCompare_a _ _) (by first | rfl | (simp -dsimp [conv_a, isFloatT, isIntT, isStringT, isBoolT, isListT, isMapT, isNilT]; done)) ?_)
                                                            | (with_reducible refine nw_v (boolCompare_a _ _) rfl (by first | rfl | (simp -dsimp [conv_a, isFloatT, isIntT, isStringT, isBoolT, isListT, isMapT, isNilT]; done)) (by first | rfl | (simp -dsimp [conv_a, isFloatT, isIntT, isStringT, isBoolT, isListT, isMapT, isNilT]; done)) ?_)
                                                            | (with_reducible refine nd_v (hL _ _ rfl rfl) (by first | rfl | (simp -dsimp [conv_a, isFloatT, isIntT, isStringT, isBoolT, isListT, isMapT, isNilT]; done)) ?_)
                                                            | (with_reducible refine nw_v (hL _ _ rfl rfl) rfl (by first | rfl | (simp -dsimp [conv_a, isFloatT, isIntT, isStringT, isBoolT, isListT, isMapT, isNilT]; done)) (by first | rfl | (simp -dsimp [conv_a, isFloatT, isIntT, isStringT, isBoolT, isListT, isMapT, isNilT]; done)) ?_)
                                                            | (with_reducible refine nd_v (hM _ _ rfl rfl) (by first | rfl | (simp -dsimp [conv_a, isFloatT, isIntT, isStringT, isBoolT, isListT, isMapT, isNilT]; done)) ?_)
                                                            | (with_reducible refine nw_v (hM _ _ rfl rfl) rfl (by first | rfl | (simp -dsimp [conv_a, isFloatT, isIntT, isStringT, isBoolT, isListT, isMapT, isNilT]; done)) (by first | rfl | (simp -dsimp [conv_a, isFloatT, isIntT, isStringT, isBoolT, isListT, isMapT, isNilT]; done)) ?_)
                                                            | ((with_reducible apply nd_defer); (case hx => simp -dsimp [conv_a, isFloatT, isIntT, isStringT, isBoolT, isListT, isMapT, isNilT]; with_reducible rfl); (case hd => exact free_any))
                                                            | ((with_reducible apply nd_next); (case hx => simp -dsimp [conv_a, isFloatT, isIntT, isStringT, isBoolT, isListT, isMapT, isNilT]; first | done | with_reducible rfl); (case hid => simp -dsimp [conv_a, isFloatT, isIntT, isStringT, isBoolT, isListT, isMapT, isNilT]; first | done | with_reducible rfl | exact ⟨rfl, rfl, rfl⟩ | exact ⟨rfl, rfl⟩); (case' h1 => intro _ _ _); (case' h0 => intro _))
                                                            | ((with_reducible apply nd_entry); (case hx => simp -dsimp [conv_a, isFloatT, isIntT, isStringT, isBoolT, isListT, isMapT, isNilT]; first | done | with_reducible rfl); (case hid => simp -dsimp [conv_a, isFloatT, isIntT, isStringT, isBoolT, isListT, isMapT, isNilT]; first | done | with_reducible rfl | exact ⟨rfl, rfl, rfl⟩ | exact ⟨rfl, rfl⟩))
                                                            | ((with_reducible apply nd_range); (case hx => simp -dsimp [conv_a, isFloatT, isIntT, isStringT, isBoolT, isListT, isMapT, isNilT]; with_reducible rfl); (case hT => simp -dsimp [conv_a, isFloatT, isIntT, isStringT, isBoolT, isListT, isMapT, isNilT]); (case hnd => assumption); (case hz => simp -dsimp [conv_a, isFloatT, isIntT, isStringT, isBoolT, isListT, isMapT, isNilT]))
                                                            | (with_reducible refine dn_i follows_any (by kernel_rfl) ?_)
                                                            | (with_reducible exact done_eq rfl)
                                                            | (simp -dsimp [conv_a, isFloatT, isIntT, isStringT, isBoolT, isListT, isMapT, isNilT]))); (all_goals try with_reducible refine done_eq ?_)
  all_goals rfl
end Go.Smd
