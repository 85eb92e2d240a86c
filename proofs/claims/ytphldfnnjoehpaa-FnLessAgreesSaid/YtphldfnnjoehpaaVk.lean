/- Values held equal and compared, by value, at any depth. -/
import Derived.Test.YtphldfnnjoehpaaVj
set_option linter.unusedSimpArgs false
set_option maxRecDepth 100000
set_option maxHeartbeats 8000000
namespace Go.Smd
open Go.RowKit Go.Proofs

def eqFl (a b : Nat) : Bool := FloatKind.f64.format.order a b == some .eq
/-- Two values held equal, given how lists and maps are. -/
def eqT (el : List Tree → List Tree → Bool) (em : List (ByteArray × Tree) → List (ByteArray × Tree) → Bool) : Tree → Tree → Bool
  | .float a, .float b => eqFl a b
  | .float a, .int b => eqFl a (toFl b)
  | .int a, .float b => eqFl (toFl a) b
  | .int a, .int b => decide (a = b)
  | .str a, .str b => decide (a = b)
  | .bool a, .bool b => a == b
  | .list a, .list b => el a b
  | .map a, .map b => em a b
  | .nil, .nil => true
  | _, _ => false
theorem equalsKinds_a (el : List Tree → List Tree → Bool) (em : List (ByteArray × Tree) → List (ByteArray × Tree) → Bool) (x y : Tree)
    (hL : ∀ l m, x = .list l → y = .list m → ACalls Try.prog 178 [.c (.d (dAny l)), aAlloc, .c (.d (dL m))] (fun r => r = aV (.bool (el l m))))
    (hM : ∀ l m, x = .map l → y = .map m → ACalls Try.prog 186 [.c (.d (.mp l)), aAlloc, .c (.d (dM m))] (fun r => r = aV (.bool (em l m)))) :
    ACalls Try.prog fEqualsUsing [aAlloc, .c (.d (dV x)), .c (.d (dV y))] (fun r => r = aV (.bool (eqT el em x y))) := by
  cases x <;> cases y
  all_goals
    refine acalls_ex [] Try.func115 (by kernel_rfl) rfl Try.ntmps115 Try.results115 (Nat.le_of_ble_eq_true (by kernel_rfl)) ?_; intro hok w0 S0
    (repeat' (first
                                                            | (with_reducible refine br_d (fun _ => ?_) (fun _ => ?_))
                                                            | (with_reducible refine br_i (fun _ => ?_) (fun _ => ?_))
                                                            | (with_reducible refine nd_v (isFloat_a _) (by first | rfl | (simp -dsimp [conv_a, isFloatT, isIntT, isStringT, isBoolT, isListT, isMapT, isNilT]; done)) ?_)
                                                            | (with_reducible refine nw_v (isFloat_a _) rfl (by first | rfl | (simp -dsimp [conv_a, isFloatT, isIntT, isStringT, isBoolT, isListT, isMapT, isNilT]; done)) (by first | rfl | (simp -dsimp [conv_a, isFloatT, isIntT, isStringT, isBoolT, isListT, isMapT, isNilT]; done)) ?_)
                                                            | (with_reducible refine nd_v (isInt_a _) (by first | rfl | (simp -dsimp [conv_a, isFloatT, isIntT, isStringT, isBoolT, isListT, isMapT, isNilT]; done)) ?_)
                                                            | (with_reducible refine nw_v (isInt_a _) rfl (by first | rfl | (simp -dsimp [conv_a, isFloatT, isIntT, isStringT, isBoolT, isListT, isMapT, isNilT]; done)) (by first | rfl | (simp -dsimp [conv_a, isFloatT, isIntT, isStringT, isBoolT, isListT, isMapT, isNilT]; done)) ?_)
                                                            | (with_reducible refine nd_v (isString_a _) (by first | rfl | (simp -dsimp [conv_a, isFloatT, isIntT, isStringT, isBoolT, isListT, isMapT, isNilT]; done)) ?_)
                                                            | (with_reducible refine nw_v (isString_a _) rfl (by first | rfl | (simp -dsimp [conv_a, isFloatT, isIntT, isStringT, isBoolT, isListT, isMapT, isNilT]; done)) (by first | rfl | (simp -dsimp [conv_a, isFloatT, isIntT, isStringT, isBoolT, isListT, isMapT, isNilT]; done)) ?_)
                                                            | (with_reducible refine nd_v (isBool_a _) (by first | rfl | (simp -dsimp [conv_a, isFloatT, isIntT, isStringT, isBoolT, isListT, isMapT, isNilT]; done)) ?_)
                                                            | (with_reducible refine nw_v (isBool_a _) rfl (by first | rfl | (simp -dsimp [conv_a, isFloatT, isIntT, isStringT, isBoolT, isListT, isMapT, isNilT]; done)) (by first | rfl | (simp -dsimp [conv_a, isFloatT, isIntT, isStringT, isBoolT, isListT, isMapT, isNilT]; done)) ?_)
                                                            | (with_reducible refine nd_v (isList_a _) (by first | rfl | (simp -dsimp [conv_a, isFloatT, isIntT, isStringT, isBoolT, isListT, isMapT, isNilT]; done)) ?_)
                                                            | (with_reducible refine nw_v (isList_a _) rfl (by first | rfl | (simp -dsimp [conv_a, isFloatT, isIntT, isStringT, isBoolT, isListT, isMapT, isNilT]; done)) (by first | rfl | (simp -dsimp [conv_a, isFloatT, isIntT, isStringT, isBoolT, isListT, isMapT, isNilT]; done)) ?_)
                                                            | (with_reducible refine nd_v (isMap_a _) (by first | rfl | (simp -dsimp [conv_a, isFloatT, isIntT, isStringT, isBoolT, isListT, isMapT, isNilT]; done)) ?_)
                                                            | (with_reducible refine nw_v (isMap_a _) rfl (by first | rfl | (simp -dsimp [conv_a, isFloatT, isIntT, isStringT, isBoolT, isListT, isMapT, isNilT]; done)) (by first | rfl | (simp -dsimp [conv_a, isFloatT, isIntT, isStringT, isBoolT, isListT, isMapT, isNilT]; done)) ?_)
                                                            | (with_reducible refine nd_v (isNull_a _) (by first | rfl | (simp -dsimp [conv_a, isFloatT, isIntT, isStringT, isBoolT, isListT, isMapT, isNilT]; done)) ?_)
                                                            | (with_reducible refine nw_v (isNull_a _) rfl (by first | rfl | (simp -dsimp [conv_a, isFloatT, isIntT, isStringT, isBoolT, isListT, isMapT, isNilT]; done)) (by first | rfl | (simp -dsimp [conv_a, isFloatT, isIntT, isStringT, isBoolT, isListT, isMapT, isNilT]; done)) ?_)
                                                            | (with_reducible refine nd_v (asFloat_a _) (by first | rfl | (simp -dsimp [conv_a, isFloatT, isIntT, isStringT, isBoolT, isListT, isMapT, isNilT]; done)) ?_)
                                                            | (with_reducible refine nw_v (asFloat_a _) rfl (by first | rfl | (simp -dsimp [conv_a, isFloatT, isIntT, isStringT, isBoolT, isListT, isMapT, isNilT]; done)) (by first | rfl | (simp -dsimp [conv_a, isFloatT, isIntT, isStringT, isBoolT, isListT, isMapT, isNilT]; done)) ?_)
                                                            | (with_reducible refine nd_v (asInt_a _) (by first | rfl | (simp -dsimp [conv_a, isFloatT, isIntT, isStringT, isBoolT, isListT, isMapT, isNilT]; done)) ?_)
                                                            | (with_reducible refine nw_v (asInt_a _) rfl (by first | rfl | (simp -dsimp [conv_a, isFloatT, isIntT, isStringT, isBoolT, isListT, isMapT, isNilT]; done)) (by first | rfl | (simp -dsimp [conv_a, isFloatT, isIntT, isStringT, isBoolT, isListT, isMapT, isNilT]; done)) ?_)
                                                            | (with_reducible refine nd_v (asString_a _) (by first | rfl | (simp -dsimp [conv_a, isFloatT, isIntT, isStringT, isBoolT, isListT, isMapT, isNilT]; done)) ?_)
                                                            | (with_reducible refine nw_v (asString_a _) rfl (by first | rfl | (simp -dsimp [conv_a, isFloatT, isIntT, isStringT, isBoolT, isListT, isMapT, isNilT]; done)) (by first | rfl | (simp -dsimp [conv_a, isFloatT, isIntT, isStringT, isBoolT, isListT, isMapT, isNilT]; done)) ?_)
                                                            | (with_reducible refine nd_v (asBool_a _) (by first | rfl | (simp -dsimp [conv_a, isFloatT, isIntT, isStringT, isBoolT, isListT, isMapT, isNilT]; done)) ?_)
                                                            | (with_reducible refine nw_v (asBool_a _) rfl (by first | rfl | (simp -dsimp [conv_a, isFloatT, isIntT, isStringT, isBoolT, isListT, isMapT, isNilT]; done)) (by first | rfl | (simp -dsimp [conv_a, isFloatT, isIntT, isStringT, isBoolT, isListT, isMapT, isNilT]; done)) ?_)
                                                            | (with_reducible refine nd_v (asListUsing_a _ dAlloc) (by first | rfl | (simp -dsimp [conv_a, isFloatT, isIntT, isStringT, isBoolT, isListT, isMapT, isNilT]; done)) ?_)
                                                            | (with_reducible refine nw_v (asListUsing_a _ dAlloc) rfl (by first | rfl | (simp -dsimp [conv_a, isFloatT, isIntT, isStringT, isBoolT, isListT, isMapT, isNilT]; done)) (by first | rfl | (simp -dsimp [conv_a, isFloatT, isIntT, isStringT, isBoolT, isListT, isMapT, isNilT]; done)) ?_)
                                                            | (with_reducible refine nd_v (asMapUsing_a _ dAlloc) (by first | rfl | (simp -dsimp [conv_a, isFloatT, isIntT, isStringT, isBoolT, isListT, isMapT, isNilT]; done)) ?_)
                                                            | (with_reducible refine nw_v (asMapUsing_a _ dAlloc) rfl (by first | rfl | (simp -dsimp [conv_a, isFloatT, isIntT, isStringT, isBoolT, isListT, isMapT, isNilT]; done)) (by first | rfl | (simp -dsimp [conv_a, isFloatT, isIntT, isStringT, isBoolT, isListT, isMapT, isNilT]; done)) ?_)
                                                            | (with_reducible refine nd_v (hL _ _ rfl rfl) (by first | rfl | (simp -dsimp [conv_a, isFloatT, isIntT, isStringT, isBoolT, isListT, isMapT, isNilT]; done)) ?_)
                                                            | (with_reducible refine nw_v (hL _ _ rfl rfl) rfl (by first | rfl | (simp -dsimp [conv_a, isFloatT, isIntT, isStringT, isBoolT, isListT, isMapT, isNilT]; done)) (by first | rfl | (simp -dsimp [conv_a, isFloatT, isIntT, isStringT, isBoolT, isListT, isMapT, isNilT]; done)) ?_)
                                                            | (with_reducible refine nd_v (hM _ _ rfl rfl) (by first | rfl | (simp -dsimp [conv_a, isFloatT, isIntT, isStringT, isBoolT, isListT, isMapT, isNilT]; done)) ?_)
                                                            | (with_reducible refine nw_v (hM _ _ rfl rfl) rfl (by first | rfl | (simp -dsimp [conv_a, isFloatT, isIntT, isStringT, isBoolT, isListT, isMapT, isNilT]; done)) (by first | rfl | (simp -dsimp [conv_a, isFloatT, isIntT, isStringT, isBoolT, isListT, isMapT, isNilT]; done)) ?_)
                                                            | ((with_reducible apply nd_defer); (case hx => simp -dsimp [conv_a, isFloatT, isIntT, isStringT, isBoolT, isListT, isMapT, isNilT]; with_reducible rfl); (case hd => exact free_any))
                                                            | ((with_reducible apply nd_next); (case hx => simp -dsimp [conv_a, isFloatT, isIntT, isStringT, isBoolT, isListT, isMapT, isNilT]; first | done | with_reducible rfl); (case hid => simp -dsimp [conv_a, isFloatT, isIntT, isStringT, isBoolT, isListT, isMapT, isNilT]; first | done | with_reducible rfl | exact ⟨rfl, rfl, rfl⟩ | exact ⟨rfl, rfl⟩); (case' h1 => intro _ _ _); (case' h0 => intro _))
                                                            | ((with_reducible apply nd_entry); (case hx => simp -dsimp [conv_a, isFloatT, isIntT, isStringT, isBoolT, isListT, isMapT, isNilT]; first | done | with_reducible rfl); (case hid => simp -dsimp [conv_a, isFloatT, isIntT, isStringT, isBoolT, isListT, isMapT, isNilT]; first | done | with_reducible rfl | exact ⟨rfl, rfl, rfl⟩ | exact ⟨rfl, rfl⟩))
                                                            | ((with_reducible apply nd_range); (case hx => simp -dsimp [conv_a, isFloatT, isIntT, isStringT, isBoolT, isListT, isMapT, isNilT]; with_reducible rfl); (case hT => simp -dsimp [conv_a, isFloatT, isIntT, isStringT, isBoolT, isListT, isMapT, isNilT]); (case hnd => assumption); (case hz => simp -dsimp [conv_a, isFloatT, isIntT, isStringT, isBoolT, isListT, isMapT, isNilT]))
                                                            | (with_reducible refine dn_i follows_any (by kernel_rfl) ?_)
                                                            | (with_reducible exact done_eq rfl)
                                                            | (simp -dsimp [conv_a, isFloatT, isIntT, isStringT, isBoolT, isListT, isMapT, isNilT]))); (all_goals try with_reducible refine done_eq ?_)
  all_goals rfl
end Go.Smd
