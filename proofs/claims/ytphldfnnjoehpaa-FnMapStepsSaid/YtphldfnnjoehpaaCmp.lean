/- Numbers compared as the library compares them. -/
import Derived.Test.YtphldfnnjoehpaaVal
import Derived.Test.YtphldfnnjoehpaaTree
set_option linter.unusedSimpArgs false
namespace Go.Smd
open Go.RowKit Go.Proofs

def ford (a b : Nat) : Option Ordering := FloatKind.f64.format.order a b
def fcmp (a b : Nat) : Int := if ford a b = some .gt then 1 else if ford a b = some .lt then -1 else 0
def icmp (a b : Int) : Int := if a > b then 1 else if a < b then -1 else 0

set_option maxHeartbeats 400000 in
theorem floatCompare_c (a b : Nat) (w : World) : Calls Try.prog 124 #[.float .f64 a, .float .f64 b] w (Gives (.int .i64 (fcmp a b)) w) := by
  have hfc : fcmp a b = if ford a b = some .gt then 1 else if ford a b = some .lt then -1 else 0 := rfl
  rcases h : ford a b with _ | _ | _ | _
  all_goals
    have h1 : FloatKind.f64.format.order a b = _ := h
    rw [h] at hfc
    simp at hfc
    rw [hfc]
    go_enter Try.func124, Try.ntmps124
    go_wp2
    go_ret
    exact ⟨rfl, rfl⟩

theorem toValue_c (v : GV) (cs : List Value) (w : World) (S : Nat → Prop) (hv : RepGV S w v cs) :
    Calls Try.prog 57 #[.agg cs.toArray] w (Makes (fun W u => RepV W (w.heap.size ≤ ·) (treeOf v) u) w) := by
  have hp := plain_c v cs (w.alloc (.cells cs.toArray 26)) S (hv.ext ((Ext.refl _).alloc _))
  obtain ⟨c0, c1, c2, c3, c4, c5, rfl⟩ := hv.list6
  obtain ⟨o0, o1, o2, o3, o4, o5⟩ := hv.six
  have HP := Lib.hid hp
  clear hp hv
  go_enter Try.func57, Try.ntmps57
  go_wp2_with fail
  refine HP.out.mono ?_
  rintro e w1 ⟨u, rfl, hu, hE⟩
  have HE := Lib.hid (((Ext.refl w).alloc (.cells #[c0, c1, c2, c3, c4, c5] 26)).trans hE)
  have HU := Lib.hid (hu.mono fun b hb => show w.heap.size ≤ b by rw [size_alloc] at hb; omega)
  clear hE hu
  go_wp2_with fail
  refine (newV_c _ _ w1 _ HU.out).mono ?_
  rintro e w2 ⟨u, rfl, hr, hE2⟩
  have Hr := Lib.hid (hr.frame (S' := (w.heap.size ≤ ·)) (fun _ _ => rfl) fun b hb => by have := HE.out.size; rcases hb with hb | hb <;> omega)
  have HE2 := Lib.hid (HE.out.trans hE2)
  obtain ⟨a, x, rfl, -, -, -⟩ := hr
  clear hE2
  go_wp2
  go_ret
  exact ⟨_, rfl, Hr.out, HE2.out⟩
/-! ### CompareUsing, EqualsUsing at two numbers of which one at least is a float -/

set_option maxRecDepth 100000 in
set_option maxHeartbeats 2000000 in
theorem cmp_ff {v1 v2 : Value} {w : World} {S1 S2 : Nat → Prop} {al : Value} {a b : Nat} (h1 : RepV w S1 (.float a) v1) (h2 : RepV w S2 (.float b) v2) :
    Calls Try.prog 114 #[al, v1, v2] w (Makes (fun _ u => u = .int .i64 (fcmp a b)) w) := by
  obtain ⟨a1, x1, rfl, -, c1, hr1⟩ := h1
  obtain ⟨a2, x2, rfl, -, c2, hr2⟩ := h2
  have H1 := Lib.hid hr1; have H2 := Lib.hid hr2; have HE := Lib.hid (Ext.refl w)
  clear hr1 hr2
  go_enter Try.func114, Try.ntmps114
  go_wp2_with fail
  refine (isFloat_c H1.out (b := true) rfl).mono ?_
  rintro e w' ⟨u, rfl, rfl, hE'⟩; replace c1 := hE'.cell c1; replace c2 := hE'.cell c2; replace H1 := Lib.hid (H1.out.ext hE'); replace H2 := Lib.hid (H2.out.ext hE'); replace HE := Lib.hid (HE.out.trans hE'); clear hE'
  go_wp2_with fail
  refine (isFloat_c H2.out (b := true) rfl).mono ?_
  rintro e w' ⟨u, rfl, rfl, hE'⟩; replace c1 := hE'.cell c1; replace c2 := hE'.cell c2; replace H1 := Lib.hid (H1.out.ext hE'); replace H2 := Lib.hid (H2.out.ext hE'); replace HE := Lib.hid (HE.out.trans hE'); clear hE'
  go_wp2_with fail
  refine (asFloat_c _ H1.out).mono ?_
  rintro e w' ⟨u, rfl, rfl, hE'⟩; replace c1 := hE'.cell c1; replace c2 := hE'.cell c2; replace H1 := Lib.hid (H1.out.ext hE'); replace H2 := Lib.hid (H2.out.ext hE'); replace HE := Lib.hid (HE.out.trans hE'); clear hE'
  go_wp2_with fail
  refine (asFloat_c _ H2.out).mono ?_
  rintro e w' ⟨u, rfl, rfl, hE'⟩; replace c1 := hE'.cell c1; replace c2 := hE'.cell c2; replace H1 := Lib.hid (H1.out.ext hE'); replace H2 := Lib.hid (H2.out.ext hE'); replace HE := Lib.hid (HE.out.trans hE'); clear hE'
  go_wp2_with fail
  refine (floatCompare_c _ _ _).mono ?_
  rintro e w' ⟨rfl, rfl⟩
  go_wp2
  go_ret
  exact ⟨_, rfl, rfl, HE.out⟩

set_option maxRecDepth 100000 in
set_option maxHeartbeats 2000000 in
theorem cmp_fi {v1 v2 : Value} {w : World} {S1 S2 : Nat → Prop} {al : Value} {a : Nat} {n : Int} (h1 : RepV w S1 (.float a) v1) (h2 : RepV w S2 (.int n) v2) :
    Calls Try.prog 114 #[al, v1, v2] w (Makes (fun _ u => u = .int .i64 (fcmp a (FloatKind.f64.nearest n))) w) := by
  obtain ⟨a1, x1, rfl, -, c1, hr1⟩ := h1
  obtain ⟨a2, x2, rfl, -, c2, hr2⟩ := h2
  have H1 := Lib.hid hr1; have H2 := Lib.hid hr2; have HE := Lib.hid (Ext.refl w)
  clear hr1 hr2
  go_enter Try.func114, Try.ntmps114
  go_wp2_with fail
  refine (isFloat_c H1.out (b := true) rfl).mono ?_
  rintro e w' ⟨u, rfl, rfl, hE'⟩; replace c1 := hE'.cell c1; replace c2 := hE'.cell c2; replace H1 := Lib.hid (H1.out.ext hE'); replace H2 := Lib.hid (H2.out.ext hE'); replace HE := Lib.hid (HE.out.trans hE'); clear hE'
  go_wp2_with fail
  refine (isFloat_c H2.out (b := false) rfl).mono ?_
  rintro e w' ⟨u, rfl, rfl, hE'⟩; replace c1 := hE'.cell c1; replace c2 := hE'.cell c2; replace H1 := Lib.hid (H1.out.ext hE'); replace H2 := Lib.hid (H2.out.ext hE'); replace HE := Lib.hid (HE.out.trans hE'); clear hE'
  go_wp2_with fail
  refine (isInt_c H2.out (b := true) rfl).mono ?_
  rintro e w' ⟨u, rfl, rfl, hE'⟩; replace c1 := hE'.cell c1; replace c2 := hE'.cell c2; replace H1 := Lib.hid (H1.out.ext hE'); replace H2 := Lib.hid (H2.out.ext hE'); replace HE := Lib.hid (HE.out.trans hE'); clear hE'
  go_wp2_with fail
  refine (asFloat_c _ H1.out).mono ?_
  rintro e w' ⟨u, rfl, rfl, hE'⟩; replace c1 := hE'.cell c1; replace c2 := hE'.cell c2; replace H1 := Lib.hid (H1.out.ext hE'); replace H2 := Lib.hid (H2.out.ext hE'); replace HE := Lib.hid (HE.out.trans hE'); clear hE'
  go_wp2_with fail
  refine (asInt_c _ H2.out).mono ?_
  rintro e w' ⟨u, rfl, rfl, hE'⟩; replace c1 := hE'.cell c1; replace c2 := hE'.cell c2; replace H1 := Lib.hid (H1.out.ext hE'); replace H2 := Lib.hid (H2.out.ext hE'); replace HE := Lib.hid (HE.out.trans hE'); clear hE'
  go_wp2_with fail
  refine (floatCompare_c _ _ _).mono ?_
  rintro e w' ⟨rfl, rfl⟩
  go_wp2
  go_ret
  exact ⟨_, rfl, rfl, HE.out⟩

set_option maxRecDepth 100000 in
set_option maxHeartbeats 2000000 in
theorem cmp_if {v1 v2 : Value} {w : World} {S1 S2 : Nat → Prop} {al : Value} {b : Nat} {n : Int} (h1 : RepV w S1 (.int n) v1) (h2 : RepV w S2 (.float b) v2) :
    Calls Try.prog 114 #[al, v1, v2] w (Makes (fun _ u => u = .int .i64 (fcmp (FloatKind.f64.nearest n) b)) w) := by
  obtain ⟨a1, x1, rfl, -, c1, hr1⟩ := h1
  obtain ⟨a2, x2, rfl, -, c2, hr2⟩ := h2
  have H1 := Lib.hid hr1; have H2 := Lib.hid hr2; have HE := Lib.hid (Ext.refl w)
  clear hr1 hr2
  go_enter Try.func114, Try.ntmps114
  go_wp2_with fail
  refine (isFloat_c H1.out (b := false) rfl).mono ?_
  rintro e w' ⟨u, rfl, rfl, hE'⟩; replace c1 := hE'.cell c1; replace c2 := hE'.cell c2; replace H1 := Lib.hid (H1.out.ext hE'); replace H2 := Lib.hid (H2.out.ext hE'); replace HE := Lib.hid (HE.out.trans hE'); clear hE'
  go_wp2_with fail
  refine (isFloat_c H2.out (b := true) rfl).mono ?_
  rintro e w' ⟨u, rfl, rfl, hE'⟩; replace c1 := hE'.cell c1; replace c2 := hE'.cell c2; replace H1 := Lib.hid (H1.out.ext hE'); replace H2 := Lib.hid (H2.out.ext hE'); replace HE := Lib.hid (HE.out.trans hE'); clear hE'
  go_wp2_with fail
  refine (isInt_c H1.out (b := true) rfl).mono ?_
  rintro e w' ⟨u, rfl, rfl, hE'⟩; replace c1 := hE'.cell c1; replace c2 := hE'.cell c2; replace H1 := Lib.hid (H1.out.ext hE'); replace H2 := Lib.hid (H2.out.ext hE'); replace HE := Lib.hid (HE.out.trans hE'); clear hE'
  go_wp2_with fail
  refine (asInt_c _ H1.out).mono ?_
  rintro e w' ⟨u, rfl, rfl, hE'⟩; replace c1 := hE'.cell c1; replace c2 := hE'.cell c2; replace H1 := Lib.hid (H1.out.ext hE'); replace H2 := Lib.hid (H2.out.ext hE'); replace HE := Lib.hid (HE.out.trans hE'); clear hE'
  go_wp2_with fail
  refine (asFloat_c _ H2.out).mono ?_
  rintro e w' ⟨u, rfl, rfl, hE'⟩; replace c1 := hE'.cell c1; replace c2 := hE'.cell c2; replace H1 := Lib.hid (H1.out.ext hE'); replace H2 := Lib.hid (H2.out.ext hE'); replace HE := Lib.hid (HE.out.trans hE'); clear hE'
  go_wp2_with fail
  refine (floatCompare_c _ _ _).mono ?_
  rintro e w' ⟨rfl, rfl⟩
  go_wp2
  go_ret
  exact ⟨_, rfl, rfl, HE.out⟩

set_option maxRecDepth 100000 in
set_option maxHeartbeats 2000000 in
theorem eq_ff {v1 v2 : Value} {w : World} {S1 S2 : Nat → Prop} {al : Value} {a b : Nat} (h1 : RepV w S1 (.float a) v1) (h2 : RepV w S2 (.float b) v2) :
    Calls Try.prog 115 #[al, v1, v2] w (Makes (fun _ u => u = .bool (ford a b == some .eq)) w) := by
  obtain ⟨a1, x1, rfl, -, c1, hr1⟩ := h1
  obtain ⟨a2, x2, rfl, -, c2, hr2⟩ := h2
  have H1 := Lib.hid hr1; have H2 := Lib.hid hr2; have HE := Lib.hid (Ext.refl w)
  clear hr1 hr2
  go_enter Try.func115, Try.ntmps115
  go_wp2_with fail
  refine (isFloat_c H1.out (b := true) rfl).mono ?_
  rintro e w' ⟨u, rfl, rfl, hE'⟩; replace c1 := hE'.cell c1; replace c2 := hE'.cell c2; replace H1 := Lib.hid (H1.out.ext hE'); replace H2 := Lib.hid (H2.out.ext hE'); replace HE := Lib.hid (HE.out.trans hE'); clear hE'
  go_wp2_with fail
  refine (isFloat_c H1.out (b := true) rfl).mono ?_
  rintro e w' ⟨u, rfl, rfl, hE'⟩; replace c1 := hE'.cell c1; replace c2 := hE'.cell c2; replace H1 := Lib.hid (H1.out.ext hE'); replace H2 := Lib.hid (H2.out.ext hE'); replace HE := Lib.hid (HE.out.trans hE'); clear hE'
  go_wp2_with fail
  refine (asFloat_c _ H1.out).mono ?_
  rintro e w' ⟨u, rfl, rfl, hE'⟩; replace c1 := hE'.cell c1; replace c2 := hE'.cell c2; replace H1 := Lib.hid (H1.out.ext hE'); replace H2 := Lib.hid (H2.out.ext hE'); replace HE := Lib.hid (HE.out.trans hE'); clear hE'
  go_wp2_with fail
  refine (isFloat_c H2.out (b := true) rfl).mono ?_
  rintro e w' ⟨u, rfl, rfl, hE'⟩; replace c1 := hE'.cell c1; replace c2 := hE'.cell c2; replace H1 := Lib.hid (H1.out.ext hE'); replace H2 := Lib.hid (H2.out.ext hE'); replace HE := Lib.hid (HE.out.trans hE'); clear hE'
  go_wp2_with fail
  refine (asFloat_c _ H2.out).mono ?_
  rintro e w' ⟨u, rfl, rfl, hE'⟩; replace c1 := hE'.cell c1; replace c2 := hE'.cell c2; replace H1 := Lib.hid (H1.out.ext hE'); replace H2 := Lib.hid (H2.out.ext hE'); replace HE := Lib.hid (HE.out.trans hE'); clear hE'
  go_wp2
  go_ret
  exact ⟨_, rfl, rfl, HE.out⟩

set_option maxRecDepth 100000 in
set_option maxHeartbeats 2000000 in
theorem eq_fi {v1 v2 : Value} {w : World} {S1 S2 : Nat → Prop} {al : Value} {a : Nat} {n : Int} (h1 : RepV w S1 (.float a) v1) (h2 : RepV w S2 (.int n) v2) :
    Calls Try.prog 115 #[al, v1, v2] w (Makes (fun _ u => u = .bool (ford a (FloatKind.f64.nearest n) == some .eq)) w) := by
  obtain ⟨a1, x1, rfl, -, c1, hr1⟩ := h1
  obtain ⟨a2, x2, rfl, -, c2, hr2⟩ := h2
  have H1 := Lib.hid hr1; have H2 := Lib.hid hr2; have HE := Lib.hid (Ext.refl w)
  clear hr1 hr2
  go_enter Try.func115, Try.ntmps115
  go_wp2_with fail
  refine (isFloat_c H1.out (b := true) rfl).mono ?_
  rintro e w' ⟨u, rfl, rfl, hE'⟩; replace c1 := hE'.cell c1; replace c2 := hE'.cell c2; replace H1 := Lib.hid (H1.out.ext hE'); replace H2 := Lib.hid (H2.out.ext hE'); replace HE := Lib.hid (HE.out.trans hE'); clear hE'
  go_wp2_with fail
  refine (isFloat_c H1.out (b := true) rfl).mono ?_
  rintro e w' ⟨u, rfl, rfl, hE'⟩; replace c1 := hE'.cell c1; replace c2 := hE'.cell c2; replace H1 := Lib.hid (H1.out.ext hE'); replace H2 := Lib.hid (H2.out.ext hE'); replace HE := Lib.hid (HE.out.trans hE'); clear hE'
  go_wp2_with fail
  refine (asFloat_c _ H1.out).mono ?_
  rintro e w' ⟨u, rfl, rfl, hE'⟩; replace c1 := hE'.cell c1; replace c2 := hE'.cell c2; replace H1 := Lib.hid (H1.out.ext hE'); replace H2 := Lib.hid (H2.out.ext hE'); replace HE := Lib.hid (HE.out.trans hE'); clear hE'
  go_wp2_with fail
  refine (isFloat_c H2.out (b := false) rfl).mono ?_
  rintro e w' ⟨u, rfl, rfl, hE'⟩; replace c1 := hE'.cell c1; replace c2 := hE'.cell c2; replace H1 := Lib.hid (H1.out.ext hE'); replace H2 := Lib.hid (H2.out.ext hE'); replace HE := Lib.hid (HE.out.trans hE'); clear hE'
  go_wp2_with fail
  refine (isInt_c H2.out (b := true) rfl).mono ?_
  rintro e w' ⟨u, rfl, rfl, hE'⟩; replace c1 := hE'.cell c1; replace c2 := hE'.cell c2; replace H1 := Lib.hid (H1.out.ext hE'); replace H2 := Lib.hid (H2.out.ext hE'); replace HE := Lib.hid (HE.out.trans hE'); clear hE'
  go_wp2_with fail
  refine (asInt_c _ H2.out).mono ?_
  rintro e w' ⟨u, rfl, rfl, hE'⟩; replace c1 := hE'.cell c1; replace c2 := hE'.cell c2; replace H1 := Lib.hid (H1.out.ext hE'); replace H2 := Lib.hid (H2.out.ext hE'); replace HE := Lib.hid (HE.out.trans hE'); clear hE'
  go_wp2
  go_ret
  exact ⟨_, rfl, rfl, HE.out⟩

set_option maxRecDepth 100000 in
set_option maxHeartbeats 2000000 in
theorem eq_if {v1 v2 : Value} {w : World} {S1 S2 : Nat → Prop} {al : Value} {b : Nat} {n : Int} (h1 : RepV w S1 (.int n) v1) (h2 : RepV w S2 (.float b) v2) :
    Calls Try.prog 115 #[al, v1, v2] w (Makes (fun _ u => u = .bool (ford (FloatKind.f64.nearest n) b == some .eq)) w) := by
  obtain ⟨a1, x1, rfl, -, c1, hr1⟩ := h1
  obtain ⟨a2, x2, rfl, -, c2, hr2⟩ := h2
  have H1 := Lib.hid hr1; have H2 := Lib.hid hr2; have HE := Lib.hid (Ext.refl w)
  clear hr1 hr2
  go_enter Try.func115, Try.ntmps115
  go_wp2_with fail
  refine (isFloat_c H1.out (b := false) rfl).mono ?_
  rintro e w' ⟨u, rfl, rfl, hE'⟩; replace c1 := hE'.cell c1; replace c2 := hE'.cell c2; replace H1 := Lib.hid (H1.out.ext hE'); replace H2 := Lib.hid (H2.out.ext hE'); replace HE := Lib.hid (HE.out.trans hE'); clear hE'
  go_wp2_with fail
  refine (isFloat_c H2.out (b := true) rfl).mono ?_
  rintro e w' ⟨u, rfl, rfl, hE'⟩; replace c1 := hE'.cell c1; replace c2 := hE'.cell c2; replace H1 := Lib.hid (H1.out.ext hE'); replace H2 := Lib.hid (H2.out.ext hE'); replace HE := Lib.hid (HE.out.trans hE'); clear hE'
  go_wp2_with fail
  refine (isFloat_c H1.out (b := false) rfl).mono ?_
  rintro e w' ⟨u, rfl, rfl, hE'⟩; replace c1 := hE'.cell c1; replace c2 := hE'.cell c2; replace H1 := Lib.hid (H1.out.ext hE'); replace H2 := Lib.hid (H2.out.ext hE'); replace HE := Lib.hid (HE.out.trans hE'); clear hE'
  go_wp2_with fail
  refine (isInt_c H1.out (b := true) rfl).mono ?_
  rintro e w' ⟨u, rfl, rfl, hE'⟩; replace c1 := hE'.cell c1; replace c2 := hE'.cell c2; replace H1 := Lib.hid (H1.out.ext hE'); replace H2 := Lib.hid (H2.out.ext hE'); replace HE := Lib.hid (HE.out.trans hE'); clear hE'
  go_wp2_with fail
  refine (asInt_c _ H1.out).mono ?_
  rintro e w' ⟨u, rfl, rfl, hE'⟩; replace c1 := hE'.cell c1; replace c2 := hE'.cell c2; replace H1 := Lib.hid (H1.out.ext hE'); replace H2 := Lib.hid (H2.out.ext hE'); replace HE := Lib.hid (HE.out.trans hE'); clear hE'
  go_wp2_with fail
  refine (isFloat_c H2.out (b := true) rfl).mono ?_
  rintro e w' ⟨u, rfl, rfl, hE'⟩; replace c1 := hE'.cell c1; replace c2 := hE'.cell c2; replace H1 := Lib.hid (H1.out.ext hE'); replace H2 := Lib.hid (H2.out.ext hE'); replace HE := Lib.hid (HE.out.trans hE'); clear hE'
  go_wp2_with fail
  refine (asFloat_c _ H2.out).mono ?_
  rintro e w' ⟨u, rfl, rfl, hE'⟩; replace c1 := hE'.cell c1; replace c2 := hE'.cell c2; replace H1 := Lib.hid (H1.out.ext hE'); replace H2 := Lib.hid (H2.out.ext hE'); replace HE := Lib.hid (HE.out.trans hE'); clear hE'
  go_wp2
  go_ret
  exact ⟨_, rfl, rfl, HE.out⟩
end Go.Smd
