/- The questions and the reads of a library value. -/
import Derived.Test.YtphldfnnjoehpaaWb
import Derived.Test.YtphldfnnjoehpaaAssert
import Derived.Test.YtphldfnnjoehpaaMeth
set_option linter.unusedSimpArgs false
namespace Go.Smd
open Go.RowKit Go.Proofs

def Tree.isNull : Tree → Bool
  | .nil => true
  | _ => false
def Tree.isBool : Tree → Bool
  | .bool _ => true
  | _ => false
def Tree.isInt : Tree → Bool
  | .int _ => true
  | _ => false
def Tree.isFloat : Tree → Bool
  | .float _ => true
  | _ => false
def Tree.isString : Tree → Bool
  | .str _ => true
  | _ => false
def Tree.isList : Tree → Bool
  | .list _ => true
  | _ => false
def Tree.isMap : Tree → Bool
  | .map _ => true
  | _ => false

set_option maxRecDepth 100000 in
set_option maxHeartbeats 1000000 in
theorem isNull_c {t : Tree} {x : Value} {w : World} {S : Nat → Prop} (hx : RepT w S t x) {b : Bool} (hb : t.isNull = b) : Calls Try.prog 170 #[.agg #[x]] w (Makes (fun _ u => u = .bool b) w) := by
  have HE : Hid (∀ o, Ext w (w.alloc o)) := fun o => (Ext.refl w).alloc o
  subst hb
  cases hx <;> simp only [Tree.isNull] <;>
    (go_enter Try.func170, Try.ntmps170; go_wp2; go_ret; exact ⟨_, rfl, rfl, HE.out _⟩)

set_option maxRecDepth 100000 in
set_option maxHeartbeats 1000000 in
theorem isBool_c {t : Tree} {x : Value} {w : World} {S : Nat → Prop} (hx : RepT w S t x) {b : Bool} (hb : t.isBool = b) : Calls Try.prog 165 #[.agg #[x]] w (Makes (fun _ u => u = .bool b) w) := by
  have HE : Hid (∀ o, Ext w (w.alloc o)) := fun o => (Ext.refl w).alloc o
  subst hb
  cases hx <;> simp only [Tree.isBool] <;>
    (go_enter Try.func165, Try.ntmps165; go_wp2; go_ret; exact ⟨_, rfl, rfl, HE.out _⟩)

set_option maxRecDepth 100000 in
set_option maxHeartbeats 1000000 in
theorem isInt_c {t : Tree} {x : Value} {w : World} {S : Nat → Prop} (hx : RepT w S t x) {b : Bool} (hb : t.isInt = b) : Calls Try.prog 167 #[.agg #[x]] w (Makes (fun _ u => u = .bool b) w) := by
  have HE : Hid (∀ o, Ext w (w.alloc o)) := fun o => (Ext.refl w).alloc o
  subst hb
  cases hx <;> simp only [Tree.isInt] <;>
    (go_enter Try.func167, Try.ntmps167; go_wp2; go_ret; exact ⟨_, rfl, rfl, HE.out _⟩)

set_option maxRecDepth 100000 in
set_option maxHeartbeats 1000000 in
theorem isFloat_c {t : Tree} {x : Value} {w : World} {S : Nat → Prop} (hx : RepT w S t x) {b : Bool} (hb : t.isFloat = b) : Calls Try.prog 166 #[.agg #[x]] w (Makes (fun _ u => u = .bool b) w) := by
  have HE : Hid (∀ o, Ext w (w.alloc o)) := fun o => (Ext.refl w).alloc o
  subst hb
  cases hx <;> simp only [Tree.isFloat] <;>
    (go_enter Try.func166, Try.ntmps166; go_wp2; go_ret; exact ⟨_, rfl, rfl, HE.out _⟩)

set_option maxRecDepth 100000 in
set_option maxHeartbeats 1000000 in
theorem isString_c {t : Tree} {x : Value} {w : World} {S : Nat → Prop} (hx : RepT w S t x) {b : Bool} (hb : t.isString = b) : Calls Try.prog 171 #[.agg #[x]] w (Makes (fun _ u => u = .bool b) w) := by
  have HE : Hid (∀ o, Ext w (w.alloc o)) := fun o => (Ext.refl w).alloc o
  subst hb
  cases hx <;> simp only [Tree.isString] <;>
    (go_enter Try.func171, Try.ntmps171; go_wp2; go_ret; exact ⟨_, rfl, rfl, HE.out _⟩)

set_option maxRecDepth 100000 in
set_option maxHeartbeats 1000000 in
theorem isList_c {t : Tree} {x : Value} {w : World} {S : Nat → Prop} (hx : RepT w S t x) {b : Bool} (hb : t.isList = b) : Calls Try.prog 168 #[.agg #[x]] w (Makes (fun _ u => u = .bool b) w) := by
  have HE : Hid (∀ o, Ext w (w.alloc o)) := fun o => (Ext.refl w).alloc o
  subst hb
  cases hx <;> simp only [Tree.isList] <;>
    (go_enter Try.func168, Try.ntmps168; go_wp2; go_ret; exact ⟨_, rfl, rfl, HE.out _⟩)

set_option maxRecDepth 100000 in
set_option maxHeartbeats 1000000 in
theorem isMap_c {t : Tree} {x : Value} {w : World} {S : Nat → Prop} (hx : RepT w S t x) {b : Bool} (hb : t.isMap = b) : Calls Try.prog 169 #[.agg #[x]] w (Makes (fun _ u => u = .bool b) w) := by
  have HE : Hid (∀ o, Ext w (w.alloc o)) := fun o => (Ext.refl w).alloc o
  subst hb
  cases hx <;> simp only [Tree.isMap] <;>
    (go_enter Try.func169, Try.ntmps169; go_wp2; go_ret; exact ⟨_, rfl, rfl, HE.out _⟩)

set_option maxRecDepth 100000 in
set_option maxHeartbeats 1000000 in
theorem asBool_c (b : Bool) {x : Value} {w : World} {S : Nat → Prop} (hx : RepT w S (.bool b) x) : Calls Try.prog 157 #[.agg #[x]] w (Makes (fun _ u => u = .bool b) w) := by
  have HE : Hid (∀ o, Ext w (w.alloc o)) := fun o => (Ext.refl w).alloc o
  cases hx
  go_enter Try.func157, Try.ntmps157
  go_wp2
  go_ret
  exact ⟨_, rfl, rfl, HE.out _⟩

set_option maxRecDepth 100000 in
set_option maxHeartbeats 1000000 in
theorem asInt_c (n : Int) {x : Value} {w : World} {S : Nat → Prop} (hx : RepT w S (.int n) x) : Calls Try.prog 159 #[.agg #[x]] w (Makes (fun _ u => u = .int .i64 n) w) := by
  have HE : Hid (∀ o, Ext w (w.alloc o)) := fun o => (Ext.refl w).alloc o
  cases hx
  go_enter Try.func159, Try.ntmps159
  go_wp2
  go_ret
  exact ⟨_, rfl, rfl, HE.out _⟩

set_option maxRecDepth 100000 in
set_option maxHeartbeats 1000000 in
theorem asFloat_c (f : Nat) {x : Value} {w : World} {S : Nat → Prop} (hx : RepT w S (.float f) x) : Calls Try.prog 158 #[.agg #[x]] w (Makes (fun _ u => u = .float .f64 f) w) := by
  have HE : Hid (∀ o, Ext w (w.alloc o)) := fun o => (Ext.refl w).alloc o
  cases hx
  go_enter Try.func158, Try.ntmps158
  go_wp2
  go_ret
  exact ⟨_, rfl, rfl, HE.out _⟩

set_option maxRecDepth 100000 in
set_option maxHeartbeats 1000000 in
theorem asString_c (s : ByteArray) {x : Value} {w : World} {S : Nat → Prop} (hx : RepT w S (.str s) x) : Calls Try.prog 164 #[.agg #[x]] w (Makes (fun _ u => u = .string s) w) := by
  have HE : Hid (∀ o, Ext w (w.alloc o)) := fun o => (Ext.refl w).alloc o
  cases hx
  go_enter Try.func164, Try.ntmps164
  go_wp2
  go_ret
  exact ⟨_, rfl, rfl, HE.out _⟩
end Go.Smd
