/- Part 16 of the proof: Va. -/
import Derived.Test.YtannholebjdckaaGreatQZ15
set_option linter.unusedVariables false
section
set_option linter.unusedSimpArgs false
set_option maxRecDepth 100000
set_option maxHeartbeats 4000000
namespace Go.Smd
open Go.RowKit Go.Proofs
def isBoolT : Tree → Bool
  | .bool _ => true
  | _ => false
theorem isBool_a (t : Tree) : ACalls Tryz.prog 262 [.agg [.d (.tr t)]] (fun r => r = aV (.bool (isBoolT t))) := by
  cases t
  all_goals
    refine acalls_ex [] Tryz.func262 (by kernel_rfl) rfl Tryz.ntmps262 Tryz.results262 (Nat.le_of_ble_eq_true (by kernel_rfl)) ?_; intro hok w0 S0
    (repeat' (first | (with_reducible refine br_d (fun _ => ?_) (fun _ => ?_)) | (with_reducible refine br_i (fun _ => ?_) (fun _ => ?_)) | (with_reducible refine dn_i follows_any (by kernel_rfl) ?_) | (with_reducible exact done_eq rfl) | (simp -dsimp))); (all_goals try with_reducible refine done_eq ?_)
    all_goals rfl
def isFloatT : Tree → Bool
  | .float _ => true
  | _ => false
theorem isFloat_a (t : Tree) : ACalls Tryz.prog 263 [.agg [.d (.tr t)]] (fun r => r = aV (.bool (isFloatT t))) := by
  cases t
  all_goals
    refine acalls_ex [] Tryz.func263 (by kernel_rfl) rfl Tryz.ntmps263 Tryz.results263 (Nat.le_of_ble_eq_true (by kernel_rfl)) ?_; intro hok w0 S0
    (repeat' (first | (with_reducible refine br_d (fun _ => ?_) (fun _ => ?_)) | (with_reducible refine br_i (fun _ => ?_) (fun _ => ?_)) | (with_reducible refine dn_i follows_any (by kernel_rfl) ?_) | (with_reducible exact done_eq rfl) | (simp -dsimp))); (all_goals try with_reducible refine done_eq ?_)
    all_goals rfl
def isIntT : Tree → Bool
  | .int _ => true
  | _ => false
theorem isInt_a (t : Tree) : ACalls Tryz.prog 264 [.agg [.d (.tr t)]] (fun r => r = aV (.bool (isIntT t))) := by
  cases t
  all_goals
    refine acalls_ex [] Tryz.func264 (by kernel_rfl) rfl Tryz.ntmps264 Tryz.results264 (Nat.le_of_ble_eq_true (by kernel_rfl)) ?_; intro hok w0 S0
    (repeat' (first | (with_reducible refine br_d (fun _ => ?_) (fun _ => ?_)) | (with_reducible refine br_i (fun _ => ?_) (fun _ => ?_)) | (with_reducible refine dn_i follows_any (by kernel_rfl) ?_) | (with_reducible exact done_eq rfl) | (simp -dsimp))); (all_goals try with_reducible refine done_eq ?_)
    all_goals rfl
def isListT : Tree → Bool
  | .list _ => true
  | _ => false
theorem isList_a (t : Tree) : ACalls Tryz.prog 265 [.agg [.d (.tr t)]] (fun r => r = aV (.bool (isListT t))) := by
  cases t
  all_goals
    refine acalls_ex [] Tryz.func265 (by kernel_rfl) rfl Tryz.ntmps265 Tryz.results265 (Nat.le_of_ble_eq_true (by kernel_rfl)) ?_; intro hok w0 S0
    (repeat' (first | (with_reducible refine br_d (fun _ => ?_) (fun _ => ?_)) | (with_reducible refine br_i (fun _ => ?_) (fun _ => ?_)) | (with_reducible refine dn_i follows_any (by kernel_rfl) ?_) | (with_reducible exact done_eq rfl) | (simp -dsimp))); (all_goals try with_reducible refine done_eq ?_)
    all_goals rfl
def isMapT : Tree → Bool
  | .map _ => true
  | _ => false
theorem isMap_a (t : Tree) : ACalls Tryz.prog 266 [.agg [.d (.tr t)]] (fun r => r = aV (.bool (isMapT t))) := by
  cases t
  all_goals
    refine acalls_ex [] Tryz.func266 (by kernel_rfl) rfl Tryz.ntmps266 Tryz.results266 (Nat.le_of_ble_eq_true (by kernel_rfl)) ?_; intro hok w0 S0
    (repeat' (first | (with_reducible refine br_d (fun _ => ?_) (fun _ => ?_)) | (with_reducible refine br_i (fun _ => ?_) (fun _ => ?_)) | (with_reducible refine dn_i follows_any (by kernel_rfl) ?_) | (with_reducible exact done_eq rfl) | (simp -dsimp))); (all_goals try with_reducible refine done_eq ?_)
    all_goals rfl
def isStringT : Tree → Bool
  | .str _ => true
  | _ => false
theorem isString_a (t : Tree) : ACalls Tryz.prog 268 [.agg [.d (.tr t)]] (fun r => r = aV (.bool (isStringT t))) := by
  cases t
  all_goals
    refine acalls_ex [] Tryz.func268 (by kernel_rfl) rfl Tryz.ntmps268 Tryz.results268 (Nat.le_of_ble_eq_true (by kernel_rfl)) ?_; intro hok w0 S0
    (repeat' (first | (with_reducible refine br_d (fun _ => ?_) (fun _ => ?_)) | (with_reducible refine br_i (fun _ => ?_) (fun _ => ?_)) | (with_reducible refine dn_i follows_any (by kernel_rfl) ?_) | (with_reducible exact done_eq rfl) | (simp -dsimp))); (all_goals try with_reducible refine done_eq ?_)
    all_goals rfl
theorem isNull_a (t : Tree) : ACalls Tryz.prog 267 [.agg [.d (.tr t)]] (fun r => r = aV (.bool (isNilT t))) := by
  refine acalls_ex [] Tryz.func267 (by kernel_rfl) rfl Tryz.ntmps267 Tryz.results267 (Nat.le_of_ble_eq_true (by kernel_rfl)) ?_; intro hok w0 S0
  (repeat' (first | (with_reducible refine br_d (fun _ => ?_) (fun _ => ?_)) | (with_reducible refine br_i (fun _ => ?_) (fun _ => ?_)) | (with_reducible refine dn_i follows_any (by kernel_rfl) ?_) | (with_reducible exact done_eq rfl) | (simp -dsimp))); (all_goals try with_reducible refine done_eq ?_)
  all_goals rfl
theorem unstructured_a (t : Tree) : ACalls Tryz.prog 269 [.agg [.d (.tr t)]] (fun r => r = .c (.d (.tr t))) := by
  refine acalls_ex [] Tryz.func269 (by kernel_rfl) rfl Tryz.ntmps269 Tryz.results269 (Nat.le_of_ble_eq_true (by kernel_rfl)) ?_; intro hok w0 S0
  (repeat' (first | (with_reducible refine br_d (fun _ => ?_) (fun _ => ?_)) | (with_reducible refine br_i (fun _ => ?_) (fun _ => ?_)) | (with_reducible refine dn_i follows_any (by kernel_rfl) ?_) | (with_reducible exact done_eq rfl) | (simp -dsimp))); (all_goals try with_reducible refine done_eq ?_)
  all_goals rfl
theorem asBool_a (b : Bool) : ACalls Tryz.prog 254 [.agg [.d (.tr (.bool b))]] (fun r => r = aV (.bool b)) := by
  refine acalls_ex [] Tryz.func254 (by kernel_rfl) rfl Tryz.ntmps254 Tryz.results254 (Nat.le_of_ble_eq_true (by kernel_rfl)) ?_; intro hok w0 S0
  (repeat' (first | (with_reducible refine br_d (fun _ => ?_) (fun _ => ?_)) | (with_reducible refine br_i (fun _ => ?_) (fun _ => ?_)) | (with_reducible refine dn_i follows_any (by kernel_rfl) ?_) | (with_reducible exact done_eq rfl) | (simp -dsimp))); (all_goals try with_reducible refine done_eq ?_)
  all_goals rfl
theorem asFloat_a (b : Nat) : ACalls Tryz.prog 255 [.agg [.d (.tr (.float b))]] (fun r => r = aV (.float .f64 b)) := by
  refine acalls_ex [] Tryz.func255 (by kernel_rfl) rfl Tryz.ntmps255 Tryz.results255 (Nat.le_of_ble_eq_true (by kernel_rfl)) ?_; intro hok w0 S0
  (repeat' (first | (with_reducible refine br_d (fun _ => ?_) (fun _ => ?_)) | (with_reducible refine br_i (fun _ => ?_) (fun _ => ?_)) | (with_reducible refine dn_i follows_any (by kernel_rfl) ?_) | (with_reducible exact done_eq rfl) | (simp -dsimp))); (all_goals try with_reducible refine done_eq ?_)
  all_goals rfl
theorem asInt_a (b : Int) : ACalls Tryz.prog 256 [.agg [.d (.tr (.int b))]] (fun r => r = aV (.int .i64 b)) := by
  refine acalls_ex [] Tryz.func256 (by kernel_rfl) rfl Tryz.ntmps256 Tryz.results256 (Nat.le_of_ble_eq_true (by kernel_rfl)) ?_; intro hok w0 S0
  (repeat' (first | (with_reducible refine br_d (fun _ => ?_) (fun _ => ?_)) | (with_reducible refine br_i (fun _ => ?_) (fun _ => ?_)) | (with_reducible refine dn_i follows_any (by kernel_rfl) ?_) | (with_reducible exact done_eq rfl) | (simp -dsimp))); (all_goals try with_reducible refine done_eq ?_)
  all_goals rfl
theorem asString_a (b : ByteArray) : ACalls Tryz.prog 261 [.agg [.d (.tr (.str b))]] (fun r => r = aV (.string b)) := by
  refine acalls_ex [] Tryz.func261 (by kernel_rfl) rfl Tryz.ntmps261 Tryz.results261 (Nat.le_of_ble_eq_true (by kernel_rfl)) ?_; intro hok w0 S0
  (repeat' (first | (with_reducible refine br_d (fun _ => ?_) (fun _ => ?_)) | (with_reducible refine br_i (fun _ => ?_) (fun _ => ?_)) | (with_reducible refine dn_i follows_any (by kernel_rfl) ?_) | (with_reducible exact done_eq rfl) | (simp -dsimp))); (all_goals try with_reducible refine done_eq ?_)
  all_goals rfl
theorem asListUsing_a (l : List Tree) (x : D) : ACalls Tryz.prog 258 [.agg [.d (.tr (.list l))], .c (.d x)] (fun r => r = .c (.d (dL l))) := by
  refine acalls_ex [] Tryz.func258 (by kernel_rfl) rfl Tryz.ntmps258 Tryz.results258 (Nat.le_of_ble_eq_true (by kernel_rfl)) ?_; intro hok w0 S0
  (repeat' (first | (with_reducible refine br_d (fun _ => ?_) (fun _ => ?_)) | (with_reducible refine br_i (fun _ => ?_) (fun _ => ?_)) | (with_reducible refine dn_i follows_any (by kernel_rfl) ?_) | (with_reducible exact done_eq rfl) | (simp -dsimp))); (all_goals try with_reducible refine done_eq ?_)
  all_goals rfl
theorem asMapUsing_a (m : List (ByteArray × Tree)) (x : D) : ACalls Tryz.prog 260 [.agg [.d (.tr (.map m))], .c (.d x)] (fun r => r = .c (.d (dM m))) := by
  refine acalls_ex [] Tryz.func260 (by kernel_rfl) rfl Tryz.ntmps260 Tryz.results260 (Nat.le_of_ble_eq_true (by kernel_rfl)) ?_; intro hok w0 S0
  (repeat' (first | (with_reducible refine br_d (fun _ => ?_) (fun _ => ?_)) | (with_reducible refine br_i (fun _ => ?_) (fun _ => ?_)) | (with_reducible refine dn_i follows_any (by kernel_rfl) ?_) | (with_reducible exact done_eq rfl) | (simp -dsimp))); (all_goals try with_reducible refine done_eq ?_)
  all_goals rfl
end Go.Smd
end
