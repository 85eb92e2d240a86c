/- Part 18 of the proof: Vg Vh Sort. -/
import Derived.Test.YtannholebjdckaaGreatQS15
import Derived.Test.YtannholebjdckaaGreatQS17
import Derived.Test.YtannholebjdckaaGreatQS01
import Derived.Lib.Bytealg
import Derived.Laws.FloatBits
import Derived.Test.YtannholebjdckaaGreatQS02
import Derived.Test.YtannholebjdckaaGreatQS10
import Derived.Test.YtannholebjdckaaGreatQS08
set_option linter.unusedVariables false
section
set_option linter.unusedSimpArgs false
set_option maxRecDepth 100000
set_option maxHeartbeats 8000000
namespace Go.Smd
open Go.RowKit Go.Proofs
def cmpI (a b : Int) : Int := if b < a then 1 else if a < b then -1 else 0
theorem intCompare_a (a b : Int) : ACalls Tryz.prog 216 [aV (.int .i64 a), aV (.int .i64 b)] (fun r => r = aV (.int .i64 (cmpI a b))) := by
  refine acalls_ex [] Tryz.func216 (by kernel_rfl) rfl Tryz.ntmps216 Tryz.results216 (Nat.le_of_ble_eq_true (by kernel_rfl)) ?_; intro hok w0 S0
  (repeat' (first | (with_reducible refine br_d (fun _ => ?_) (fun _ => ?_)) | (with_reducible refine br_i (fun _ => ?_) (fun _ => ?_)) | (with_reducible refine dn_i follows_any (by kernel_rfl) ?_) | (with_reducible exact done_eq rfl) | (simp -dsimp))); (all_goals try with_reducible refine done_eq ?_)
  · have h : b < a := by assumption
    unfold cmpI; rw [if_pos h]
  · have h : ¬ b < a := by assumption
    have h' : a < b := by assumption
    unfold cmpI; rw [if_neg h, if_pos h']
  · have h : ¬ b < a := by assumption
    have h' : ¬ a < b := by assumption
    unfold cmpI; rw [if_neg h, if_neg h']
def cmpB : Bool → Bool → Int
  | false, true => -1
  | true, false => 1
  | _, _ => 0
theorem boolCompare_a (a b : Bool) : ACalls Tryz.prog 217 [aV (.bool a), aV (.bool b)] (fun r => r = aV (.int .i64 (cmpB a b))) := by
  cases a <;> cases b
  all_goals
    refine acalls_ex [] Tryz.func217 (by kernel_rfl) rfl Tryz.ntmps217 Tryz.results217 (Nat.le_of_ble_eq_true (by kernel_rfl)) ?_; intro hok w0 S0
    (repeat' (first | (with_reducible refine br_d (fun _ => ?_) (fun _ => ?_)) | (with_reducible refine br_i (fun _ => ?_) (fun _ => ?_)) | (with_reducible refine dn_i follows_any (by kernel_rfl) ?_) | (with_reducible exact done_eq rfl) | (simp -dsimp))); (all_goals try with_reducible refine done_eq ?_)
    all_goals rfl
def cmpFl (a b : Nat) : Int := if (FloatKind.f64.format.order a b == some .gt) = true then 1 else if (FloatKind.f64.format.order a b == some .lt) = true then -1 else 0
theorem floatCompare_a (a b : Nat) : ACalls Tryz.prog 215 [aV (.float .f64 a), aV (.float .f64 b)] (fun r => r = aV (.int .i64 (cmpFl a b))) := by
  refine acalls_ex [] Tryz.func215 (by kernel_rfl) rfl Tryz.ntmps215 Tryz.results215 (Nat.le_of_ble_eq_true (by kernel_rfl)) ?_; intro hok w0 S0
  (repeat' (first | (with_reducible refine br_d (fun _ => ?_) (fun _ => ?_)) | (with_reducible refine br_i (fun _ => ?_) (fun _ => ?_)) | (with_reducible refine dn_i follows_any (by kernel_rfl) ?_) | (with_reducible exact done_eq rfl) | (simp -dsimp))); (all_goals try with_reducible refine done_eq ?_)
  · rename_i h
    unfold cmpFl; rw [if_pos h]
  · rename_i h h'
    unfold cmpFl; rw [if_neg (by rw [h]; simp), if_pos h']
  · rename_i h h'
    unfold cmpFl; rw [if_neg (by rw [h]; simp), if_neg (by rw [h']; simp)]
set_option maxHeartbeats 1000000 in
theorem cmpString_c (a b : ByteArray) (w : World) : Calls Tryz.prog 204 #[.string a, .string b] w fun e w' => e = .returned (.int .i64 (Lib.compareBytes a.data.toList b.data.toList)) ∧ w' = w := by
  go_enter Tryz.func204, Tryz.ntmps204
  go_wp2
  rw [run_callFunc_extern Tryz.func214 (by kernel_rfl) (by kernel_rfl) (by kernel_rfl) (e := Extern.BytealgCompare.compare) (by kernel_rfl), Lib.run_compareString]
  simp only [Result.andThen]
  rw [Oper.upon_value]
  go_wp2
  go_ret
  exact ⟨rfl, rfl⟩
theorem cmpBytes_in : ∀ l m : List UInt8, Lib.compareBytes l m = -1 ∨ Lib.compareBytes l m = 0 ∨ Lib.compareBytes l m = 1
  | [], [] => by simp [Lib.compareBytes]
  | [], _ :: _ => by simp [Lib.compareBytes]
  | _ :: _, [] => by simp [Lib.compareBytes]
  | x :: l, y :: m => by
    have := cmpBytes_in l m
    simp only [Lib.compareBytes]
    repeat' split
    all_goals first | exact this | simp
theorem cmpString_a (a b : ByteArray) : ACalls Tryz.prog 204 [aV (.string a), aV (.string b)] (fun r => r = aV (.int .i64 (Lib.compareBytes a.data.toList b.data.toList))) := by
  refine ⟨⟨_, Tryz.func204, by kernel_rfl, by kernel_rfl⟩, fun w S vs hS ha => ?_⟩
  cases ha with
  | cons h1 t => cases t with
    | cons h2 t => cases t with
      | nil =>
        obtain ⟨rfl, _⟩ := rep_v h1
        obtain ⟨rfl, _⟩ := rep_v h2
        refine (cmpString_c a b w).mono ?_
        rintro e w' ⟨rfl, rfl⟩
        exact ⟨_, _, rfl, rfl, rep_raw (by rcases cmpBytes_in a.data.toList b.data.toList with h | h | h <;> rw [h] <;> rfl), Ext.refl _⟩
theorem strCompare_a (a b : ByteArray) : ACalls Tryz.prog 177 [aV (.string a), aV (.string b)] (fun r => r = aV (.int .i64 (Lib.compareBytes a.data.toList b.data.toList))) := by
  refine acalls_ex [] Tryz.func177 (by kernel_rfl) rfl Tryz.ntmps177 Tryz.results177 (Nat.le_of_ble_eq_true (by kernel_rfl)) ?_; intro hok w0 S0
  (repeat' (first | (with_reducible refine br_d (fun _ => ?_) (fun _ => ?_)) | (with_reducible refine br_i (fun _ => ?_) (fun _ => ?_)) | (with_reducible refine nd_v (cmpString_a a b) (by first | rfl | (simp -dsimp; done)) ?_) | (with_reducible refine nw_v (cmpString_a a b) rfl (by first | rfl | (simp -dsimp; done)) (by first | rfl | (simp -dsimp; done)) ?_) | (with_reducible refine dn_i follows_any (by kernel_rfl) ?_) | (with_reducible exact done_eq rfl) | (simp -dsimp))); (all_goals try with_reducible refine done_eq ?_)
  all_goals rfl
end Go.Smd
end
section
set_option linter.unusedSimpArgs false
set_option maxRecDepth 100000
set_option maxHeartbeats 8000000
namespace Go.Smd
open Go.RowKit Go.Proofs
def toFl (n : Int) : Nat := FloatKind.f64.nearest n
theorem toFl_lt (n : Int) : toFl n < 18446744073709551616 := Nat.lt_of_lt_of_eq (Ieee.Format.write_lt Ieee.double (.number (decide (n < 0)) n.natAbs 0)) (by kernel_rfl)
theorem conv_e (n : Int) : evalPure Tryz.prog (convert 2 29 (.int .i64 n)) = some (.float .f64 (toFl n)) := by kernel_rfl
theorem conv_a (n : Int) : valPure Tryz.prog (convert 2 29 (.int .i64 n)) = some (.c (.d (.v (.float .f64 (toFl n))))) := by
  unfold valPure; rw [conv_e]; simp [okVb, toFl_lt]
def cmpT (cl : List Tree → List Tree → Int) (cm : List (ByteArray × Tree) → List (ByteArray × Tree) → Int) : Tree → Tree → Int
  | .float a, .float b => cmpFl a b
  | .float a, .int b => cmpFl a (toFl b)
  | .float _, _ => -1
  | .int a, .float b => cmpFl (toFl a) b
  | _, .float _ => 1
  | .int a, .int b => cmpI a b
  | .int _, _ => -1
  | _, .int _ => 1
  | .str a, .str b => Lib.compareBytes a.data.toList b.data.toList
  | .str _, _ => -1
  | _, .str _ => 1
  | .bool a, .bool b => cmpB a b
  | .bool _, _ => -1
  | _, .bool _ => 1
  | .list a, .list b => cl a b
  | .list _, _ => -1
  | _, .list _ => 1
  | .map a, .map b => cm a b
  | .map _, _ => -1
  | _, .map _ => 1
  | .nil, .nil => 0
theorem compareKinds_a (cl : List Tree → List Tree → Int) (cm : List (ByteArray × Tree) → List (ByteArray × Tree) → Int) (x y : Tree)
    (hL : ∀ l m, x = .list l → y = .list m → ACalls Tryz.prog 218 [aAlloc, .c (.d (dL l)), .c (.d (dL m))] (fun r => r = aV (.int .i64 (cl l m))))
    (hM : ∀ l m, x = .map l → y = .map m → ACalls Tryz.prog 219 [aAlloc, .c (.d (dM l)), .c (.d (dM m))] (fun r => r = aV (.int .i64 (cm l m)))) :
    ACalls Tryz.prog fCompareUsing [aAlloc, .c (.d (dV x)), .c (.d (dV y))] (fun r => r = aV (.int .i64 (cmpT cl cm x y))) := by
  cases x <;> cases y
  all_goals
    refine acalls_ex [] Tryz.func205 (by kernel_rfl) rfl Tryz.ntmps205 Tryz.results205 (Nat.le_of_ble_eq_true (by kernel_rfl)) ?_; intro hok w0 S0
    (repeat' (first | (with_reducible refine br_d (fun _ => ?_) (fun _ => ?_)) | (with_reducible refine br_i (fun _ => ?_) (fun _ => ?_)) | (with_reducible refine nd_v (isFloat_a _) (by first | rfl | (simp -dsimp [conv_a, isFloatT, isIntT, isStringT, isBoolT, isListT, isMapT, isNilT]; done)) ?_) | (with_reducible refine nw_v (isFloat_a _) rfl (by first | rfl | (simp -dsimp [conv_a, isFloatT, isIntT, isStringT, isBoolT, isListT, isMapT, isNilT]; done)) (by first | rfl | (simp -dsimp [conv_a, isFloatT, isIntT, isStringT, isBoolT, isListT, isMapT, isNilT]; done)) ?_) | (with_reducible refine nd_v (isInt_a _) (by first | rfl | (simp -dsimp [conv_a, isFloatT, isIntT, isStringT, isBoolT, isListT, isMapT, isNilT]; done)) ?_) | (with_reducible refine nw_v (isInt_a _) rfl (by first | rfl | (simp -dsimp [conv_a, isFloatT, isIntT, isStringT, isBoolT, isListT, isMapT, isNilT]; done)) (by first | rfl | (simp -dsimp [conv_a, isFloatT, isIntT, isStringT, isBoolT, isListT, isMapT, isNilT]; done)) ?_) | (with_reducible refine nd_v (isString_a _) (by first | rfl | (simp -dsimp [conv_a, isFloatT, isIntT, isStringT, isBoolT, isListT, isMapT, isNilT]; done)) ?_) | (with_reducible refine nw_v (isString_a _) rfl (by first | rfl | (simp -dsimp [conv_a, isFloatT, isIntT, isStringT, isBoolT, isListT, isMapT, isNilT]; done)) (by first | rfl | (simp -dsimp [conv_a, isFloatT, isIntT, isStringT, isBoolT, isListT, isMapT, isNilT]; done)) ?_) | (with_reducible refine nd_v (isBool_a _) (by first | rfl | (simp -dsimp [conv_a, isFloatT, isIntT, isStringT, isBoolT, isListT, isMapT, isNilT]; done)) ?_) | (with_reducible refine nw_v (isBool_a _) rfl (by first | rfl | (simp -dsimp [conv_a, isFloatT, isIntT, isStringT, isBoolT, isListT, isMapT, isNilT]; done)) (by first | rfl | (simp -dsimp [conv_a, isFloatT, isIntT, isStringT, isBoolT, isListT, isMapT, isNilT]; done)) ?_) | (with_reducible refine nd_v (isList_a _) (by first | rfl | (simp -dsimp [conv_a, isFloatT, isIntT, isStringT, isBoolT, isListT, isMapT, isNilT]; done)) ?_) | (with_reducible refine nw_v (isList_a _) rfl (by first | rfl | (simp -dsimp [conv_a, isFloatT, isIntT, isStringT, isBoolT, isListT, isMapT, isNilT]; done)) (by first | rfl | (simp -dsimp [conv_a, isFloatT, isIntT, isStringT, isBoolT, isListT, isMapT, isNilT]; done)) ?_) | (with_reducible refine nd_v (isMap_a _) (by first | rfl | (simp -dsimp [conv_a, isFloatT, isIntT, isStringT, isBoolT, isListT, isMapT, isNilT]; done)) ?_) | (with_reducible refine nw_v (isMap_a _) rfl (by first | rfl | (simp -dsimp [conv_a, isFloatT, isIntT, isStringT, isBoolT, isListT, isMapT, isNilT]; done)) (by first | rfl | (simp -dsimp [conv_a, isFloatT, isIntT, isStringT, isBoolT, isListT, isMapT, isNilT]; done)) ?_) | (with_reducible refine nd_v (isNull_a _) (by first | rfl | (simp -dsimp [conv_a, isFloatT, isIntT, isStringT, isBoolT, isListT, isMapT, isNilT]; done)) ?_) | (with_reducible refine nw_v (isNull_a _) rfl (by first | rfl | (simp -dsimp [conv_a, isFloatT, isIntT, isStringT, isBoolT, isListT, isMapT, isNilT]; done)) (by first | rfl | (simp -dsimp [conv_a, isFloatT, isIntT, isStringT, isBoolT, isListT, isMapT, isNilT]; done)) ?_) | (with_reducible refine nd_v (asFloat_a _) (by first | rfl | (simp -dsimp [conv_a, isFloatT, isIntT, isStringT, isBoolT, isListT, isMapT, isNilT]; done)) ?_) | (with_reducible refine nw_v (asFloat_a _) rfl (by first | rfl | (simp -dsimp [conv_a, isFloatT, isIntT, isStringT, isBoolT, isListT, isMapT, isNilT]; done)) (by first | rfl | (simp -dsimp [conv_a, isFloatT, isIntT, isStringT, isBoolT, isListT, isMapT, isNilT]; done)) ?_) | (with_reducible refine nd_v (asInt_a _) (by first | rfl | (simp -dsimp [conv_a, isFloatT, isIntT, isStringT, isBoolT, isListT, isMapT, isNilT]; done)) ?_) | (with_reducible refine nw_v (asInt_a _) rfl (by first | rfl | (simp -dsimp [conv_a, isFloatT, isIntT, isStringT, isBoolT, isListT, isMapT, isNilT]; done)) (by first | rfl | (simp -dsimp [conv_a, isFloatT, isIntT, isStringT, isBoolT, isListT, isMapT, isNilT]; done)) ?_) | (with_reducible refine nd_v (asString_a _) (by first | rfl | (simp -dsimp [conv_a, isFloatT, isIntT, isStringT, isBoolT, isListT, isMapT, isNilT]; done)) ?_) | (with_reducible refine nw_v (asString_a _) rfl (by first | rfl | (simp -dsimp [conv_a, isFloatT, isIntT, isStringT, isBoolT, isListT, isMapT, isNilT]; done)) (by first | rfl | (simp -dsimp [conv_a, isFloatT, isIntT, isStringT, isBoolT, isListT, isMapT, isNilT]; done)) ?_) | (with_reducible refine nd_v (asBool_a _) (by first | rfl | (simp -dsimp [conv_a, isFloatT, isIntT, isStringT, isBoolT, isListT, isMapT, isNilT]; done)) ?_) | (with_reducible refine nw_v (asBool_a _) rfl (by first | rfl | (simp -dsimp [conv_a, isFloatT, isIntT, isStringT, isBoolT, isListT, isMapT, isNilT]; done)) (by first | rfl | (simp -dsimp [conv_a, isFloatT, isIntT, isStringT, isBoolT, isListT, isMapT, isNilT]; done)) ?_) | (with_reducible refine nd_v (asListUsing_a _ dAlloc) (by first | rfl | (simp -dsimp [conv_a, isFloatT, isIntT, isStringT, isBoolT, isListT, isMapT, isNilT]; done)) ?_) | (with_reducible refine nw_v (asListUsing_a _ dAlloc) rfl (by first | rfl | (simp -dsimp [conv_a, isFloatT, isIntT, isStringT, isBoolT, isListT, isMapT, isNilT]; done)) (by first | rfl | (simp -dsimp [conv_a, isFloatT, isIntT, isStringT, isBoolT, isListT, isMapT, isNilT]; done)) ?_) | (with_reducible refine nd_v (asMapUsing_a _ dAlloc) (by first | rfl | (simp -dsimp [conv_a, isFloatT, isIntT, isStringT, isBoolT, isListT, isMapT, isNilT]; done)) ?_) | (with_reducible refine nw_v (asMapUsing_a _ dAlloc) rfl (by first | rfl | (simp -dsimp [conv_a, isFloatT, isIntT, isStringT, isBoolT, isListT, isMapT, isNilT]; done)) (by first | rfl | (simp -dsimp [conv_a, isFloatT, isIntT, isStringT, isBoolT, isListT, isMapT, isNilT]; done)) ?_) | (with_reducible refine nd_v (floatCompare_a _ _) (by first | rfl | (simp -dsimp [conv_a, isFloatT, isIntT, isStringT, isBoolT, isListT, isMapT, isNilT]; done)) ?_) | (with_reducible refine nw_v (floatCompare_a _ _) rfl (by first | rfl | (simp -dsimp [conv_a, isFloatT, isIntT, isStringT, isBoolT, isListT, isMapT, isNilT]; done)) (by first | rfl | (simp -dsimp [conv_a, isFloatT, isIntT, isStringT, isBoolT, isListT, isMapT, isNilT]; done)) ?_) | (with_reducible refine nd_v (intCompare_a _ _) (by first | rfl | (simp -dsimp [conv_a, isFloatT, isIntT, isStringT, isBoolT, isListT, isMapT, isNilT]; done)) ?_) | (with_reducible refine nw_v (intCompare_a _ _) rfl (by first | rfl | (simp -dsimp [conv_a, isFloatT, isIntT, isStringT, isBoolT, isListT, isMapT, isNilT]; done)) (by first | rfl | (simp -dsimp [conv_a, isFloatT, isIntT, isStringT, isBoolT, isListT, isMapT, isNilT]; done)) ?_) | (with_reducible refine nd_v (strCompare_a _ _) (by first | rfl | (simp -dsimp [conv_a, isFloatT, isIntT, isStringT, isBoolT, isListT, isMapT, isNilT]; done)) ?_) | (with_reducible refine nw_v (strCompare_a _ _) rfl (by first | rfl | (simp -dsimp [conv_a, isFloatT, isIntT, isStringT, isBoolT, isListT, isMapT, isNilT]; done)) (by first | rfl | (simp -dsimp [conv_a, isFloatT, isIntT, isStringT, isBoolT, isListT, isMapT, isNilT]; done)) ?_) | (with_reducible refine nd_v (boolCompare_a _ _) (by first | rfl | (simp -dsimp [conv_a, isFloatT, isIntT, isStringT, isBoolT, isListT, isMapT, isNilT]; done)) ?_) | (with_reducible refine nw_v (boolCompare_a _ _) rfl (by first | rfl | (simp -dsimp [conv_a, isFloatT, isIntT, isStringT, isBoolT, isListT, isMapT, isNilT]; done)) (by first | rfl | (simp -dsimp [conv_a, isFloatT, isIntT, isStringT, isBoolT, isListT, isMapT, isNilT]; done)) ?_) | (with_reducible refine nd_v (hL _ _ rfl rfl) (by first | rfl | (simp -dsimp [conv_a, isFloatT, isIntT, isStringT, isBoolT, isListT, isMapT, isNilT]; done)) ?_) | (with_reducible refine nw_v (hL _ _ rfl rfl) rfl (by first | rfl | (simp -dsimp [conv_a, isFloatT, isIntT, isStringT, isBoolT, isListT, isMapT, isNilT]; done)) (by first | rfl | (simp -dsimp [conv_a, isFloatT, isIntT, isStringT, isBoolT, isListT, isMapT, isNilT]; done)) ?_) | (with_reducible refine nd_v (hM _ _ rfl rfl) (by first | rfl | (simp -dsimp [conv_a, isFloatT, isIntT, isStringT, isBoolT, isListT, isMapT, isNilT]; done)) ?_) | (with_reducible refine nw_v (hM _ _ rfl rfl) rfl (by first | rfl | (simp -dsimp [conv_a, isFloatT, isIntT, isStringT, isBoolT, isListT, isMapT, isNilT]; done)) (by first | rfl | (simp -dsimp [conv_a, isFloatT, isIntT, isStringT, isBoolT, isListT, isMapT, isNilT]; done)) ?_) | ((with_reducible apply nd_defer); (case hx => simp -dsimp [conv_a, isFloatT, isIntT, isStringT, isBoolT, isListT, isMapT, isNilT]; with_reducible rfl); (case hd => exact free_any)) | (with_reducible refine dn_i follows_any (by kernel_rfl) ?_) | (with_reducible exact done_eq rfl) | (simp -dsimp [conv_a, isFloatT, isIntT, isStringT, isBoolT, isListT, isMapT, isNilT]))); (all_goals try with_reducible refine done_eq ?_)
  all_goals rfl
end Go.Smd
end
section
set_option linter.unusedSimpArgs false
namespace Go.Smd
open Go.RowKit Go.Proofs
def OwnS (w : World) (B : Nat) (v : Value) (ss : List ByteArray) : Prop := w.ownsRow B 9 1 v ss.length (ss.map Value.string)
theorem OwnS.nil (w : World) (B : Nat) : OwnS w B (.slice none 0 0) [] := ⟨rfl, .inl ⟨rfl, rfl⟩⟩
theorem OwnS.kept {w w' : World} {B : Nat} {v : Value} {ss : List ByteArray} {row : Option Nat} (h : OwnS w B v ss) (hg : w.grownBy w' row) (hne : v.ownBlock = none ∨ v.ownBlock ≠ row) : OwnS w' B v ss := World.ownsRow.kept h hg hne
theorem OwnS.ne {w : World} {B : Nat} {v : Value} {ss : List ByteArray} (h : OwnS w B v ss) {b : Nat} (hb : b < B) : v.ownBlock ≠ some b := fun e => by have := (World.ownsRow.lt h b e).1; omega
theorem OwnS.form {w : World} {B : Nat} {v : Value} {ss : List ByteArray} (h : OwnS w B v ss) : ∃ A c, v = .slice A ss.length c ∧ ss.length ≤ c := by
  rcases h.2 with ⟨h', hn⟩ | ⟨g', cap', cur, h', _, hg, hnc, _⟩
  · exact ⟨none, 0, by rw [h', hn], by omega⟩
  · exact ⟨_, _, h', hnc⟩
theorem OwnS.cell {w : World} {B g c : Nat} {n : Nat} {ss : List ByteArray} (h : OwnS w B (.slice (some ⟨g, 0, none⟩) n c) ss) (hn : n = ss.length) {j : Nat} {s : ByteArray} (hj : ss[j]? = some s) : w.cell? ⟨g, j, none⟩ = some (.string s) := by
  subst hn
  rw [World.ownsRow.cellAt h j (by have := (List.getElem?_eq_some_iff.1 hj).1; omega), List.getElem?_map, hj]; rfl
theorem OwnS.set {w : World} {B g c n : Nat} {ss : List ByteArray} (h : OwnS w B (.slice (some ⟨g, 0, none⟩) n c) ss) (hn : n = ss.length) (j : Nat) (s : ByteArray) :
    OwnS (w.setCell ⟨g, j, none⟩ (.string s)) B (.slice (some ⟨g, 0, none⟩) n c) (ss.set j s) ∧ w.grownBy (w.setCell ⟨g, j, none⟩ (.string s)) (some g) := by
  subst hn
  have := World.ownsRow.stored h j (.string s)
  unfold OwnS
  rw [List.length_set, List.map_set]; exact this
theorem OwnS.push {w : World} {B : Nat} {v : Value} {ss : List ByteArray} (h : OwnS w B v ss) (s : ByteArray) (ty : TypeId) (hB : B ≤ w.heap.size) (hn : (ss.length + 1) * 16 ≤ 140737488355328) :
    ∃ v' w', (Builtin.append_ #[28, 28] ty #[v, .slice (some ⟨w.heap.size, 0, none⟩) 1 1]).run Tryz.prog (w.alloc (.cells #[.string s] 9)) = .ok v' w' ∧ OwnS w' B v' (ss ++ [s]) ∧ w.grownBy w' v.ownBlock := by
  obtain ⟨i, hi, hz, hs, hb⟩ := info_parts info_str
  obtain ⟨v', w', hr, ho, hg, _⟩ := run_append_own (P := Tryz.prog) (w.alloc (.cells #[.string s] 9)) B 28 ty 9 i _ 1 16 Tryz.underlying28 hi hz hs hb rfl (by omega) v ss.length (ss.map .string) (World.ownsRow.alloc h _)
    ⟨w.heap.size, 0, none⟩ 1 1 [.string s] rfl (by simpa using World.news_of_block (cs := #[.string s]) (t := 9) (fr := (0, 0)) (heap_alloc_new w (.cells #[.string s] 9))) (by simp [Value.oneCell']) (by simp only [maxLen]; omega) hn (by rw [size_alloc]; omega)
  refine ⟨v', w', hr, ?_, World.grownBy.trans (World.grownBy_alloc w (.cells #[.string s] 9) v.ownBlock) hg⟩
  unfold OwnS
  rw [List.length_append, List.map_append]; exact ho
def putAt (k : ByteArray) (ss : List ByteArray) (j : Nat) : List ByteArray := ss.take j ++ k :: ss.drop j
theorem putAt_length (k : ByteArray) (ss : List ByteArray) (j : Nat) : (putAt k ss j).length = ss.length + 1 := by simp [putAt]; omega
theorem putAt_end (k : ByteArray) (ss : List ByteArray) : putAt k ss ss.length = ss ++ [k] := by simp [putAt]
theorem putAt_at (k : ByteArray) {ss : List ByteArray} {j : Nat} (h : j ≤ ss.length) : (putAt k ss j)[j]? = some k := by
  unfold putAt; rw [List.getElem?_append_right (by simp; omega)]; simp [Nat.min_eq_left h]
theorem putAt_prev (k : ByteArray) {ss : List ByteArray} {j : Nat} {s : ByteArray} (h : ss[j]? = some s) : (putAt k ss (j + 1))[j]? = some s := by
  have := (List.getElem?_eq_some_iff.1 h).1
  unfold putAt; rw [List.getElem?_append_left (by simp; omega), List.getElem?_take, if_pos (by omega), h]
theorem putAt_swap (k : ByteArray) {ss : List ByteArray} {j : Nat} {s : ByteArray} (h : ss[j]? = some s) : ((putAt k ss (j + 1)).set (j + 1) s).set j k = putAt k ss j := by
  have hlt := (List.getElem?_eq_some_iff.1 h).1
  apply List.ext_getElem?
  intro i
  have hl : (putAt k ss (j + 1)).length = ss.length + 1 := putAt_length _ _ _
  rw [List.getElem?_set, List.getElem?_set]
  simp only [List.length_set, hl]
  by_cases h1 : j = i
  · subst h1; rw [if_pos rfl, if_pos (by omega), putAt_at k (by omega)]
  · rw [if_neg h1]
    by_cases h2 : j + 1 = i
    · subst h2
      rw [if_pos rfl, if_pos (by omega)]
      unfold putAt
      rw [List.getElem?_append_right (by simp; omega)]
      simp only [List.length_take, Nat.min_eq_left (show j ≤ ss.length by omega), show j + 1 - j = 1 by omega, List.getElem?_cons_succ, List.getElem?_drop, Nat.add_zero]
      exact h.symm
    · rw [if_neg h2]
      unfold putAt
      rcases Nat.lt_or_ge i j with hi | hi
      · rw [List.getElem?_append_left (by simp; omega), List.getElem?_append_left (by simp; omega), List.getElem?_take, List.getElem?_take, if_pos (by omega), if_pos hi]
      · rw [List.getElem?_append_right (by simp; omega), List.getElem?_append_right (by simp; omega)]
        simp only [List.length_take, Nat.min_eq_left (show j ≤ ss.length by omega), Nat.min_eq_left (show j + 1 ≤ ss.length by omega)]
        obtain ⟨p, rfl⟩ : ∃ p, i = j + 2 + p := ⟨i - (j + 2), by omega⟩
        rw [show j + 2 + p - (j + 1) = p + 1 by omega, show j + 2 + p - j = p + 2 by omega]
        simp only [List.getElem?_cons_succ, List.getElem?_drop]
        congr 1; omega
theorem putAt_sorted {k : ByteArray} {ss : List ByteArray} {j : Nat} (hs : ss.Pairwise fun a b => blt a b = true) (h1 : ∀ q ∈ ss.take j, blt q k = true) (h2 : ∀ q ∈ ss.drop j, blt k q = true) : (putAt k ss j).Pairwise fun a b => blt a b = true := by
  unfold putAt
  rw [List.pairwise_append]
  refine ⟨hs.sublist (List.take_sublist _ _), List.pairwise_cons.2 ⟨h2, hs.sublist (List.drop_sublist _ _)⟩, fun a ha b hb => ?_⟩
  rcases List.mem_cons.1 hb with rfl | hb
  · exact h1 a ha
  · exact blt_trans (h1 a ha) (h2 b hb)
theorem sorted_eq : ∀ {a b : List ByteArray}, a.Pairwise (fun a b => blt a b = true) → b.Pairwise (fun a b => blt a b = true) → (∀ q, q ∈ a ↔ q ∈ b) → a = b
  | [], [], _, _, _ => rfl
  | [], y :: b, _, _, h => by have := (h y).2 (List.mem_cons_self ..); cases this
  | x :: a, [], _, _, h => by have := (h x).1 (List.mem_cons_self ..); cases this
  | x :: a, y :: b, ha, hb, h => by
    rw [List.pairwise_cons] at ha hb
    have hxy : x = y := by
      rcases List.mem_cons.1 ((h x).1 (List.mem_cons_self ..)) with e | hx
      · exact e
      · rcases List.mem_cons.1 ((h y).2 (List.mem_cons_self ..)) with e | hy
        · exact e.symm
        · have h1 := hb.1 x hx
          have h2 := ha.1 y hy
          rw [blt_asymm h1] at h2; cases h2
    subst hxy
    rw [sorted_eq ha.2 hb.2 fun q => ?_]
    constructor
    · intro hq
      rcases List.mem_cons.1 ((h q).1 (List.mem_cons_of_mem _ hq)) with rfl | h'
      · have := ha.1 q hq; rw [blt_irrefl] at this; cases this
      · exact h'
    · intro hq
      rcases List.mem_cons.1 ((h q).2 (List.mem_cons_of_mem _ hq)) with rfl | h'
      · have := hb.1 q hq; rw [blt_irrefl] at this; cases this
      · exact h'
end Go.Smd
end
