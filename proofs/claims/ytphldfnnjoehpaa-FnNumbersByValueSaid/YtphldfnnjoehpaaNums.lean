/- FnNumbersByValue: an integer and a float compare by value, one way and the other. -/
import Derived.Test.YtphldfnnjoehpaaTwo
import Derived.Test.YtphldfnnjoehpaaSpecb
set_option linter.unusedSimpArgs false
namespace Go.Smd
open Go.RowKit Go.Proofs

/-! ### The order of floats -/
theorem compare_swap_int (a b : Int) : compare b a = (compare a b).swap := Std.OrientedCmp.eq_swap
theorem compare_swap_nat (a b : Nat) : compare b a = (compare a b).swap := Std.OrientedCmp.eq_swap
theorem datum_swap (x y : Ieee.Datum) : y.order x = (x.order y).map Ordering.swap := by
  cases x <;> cases y <;> simp only [Ieee.Datum.order, Option.map_none, Option.map_some]
  · rw [Int.min_comm]; rw [compare_swap_int]
  · next s m i t => cases t <;> rfl
  · next s t n j => cases s <;> rfl
  · next s t => rw [compare_swap_nat]
theorem ford_swap (a b : Nat) : ford b a = (ford a b).map Ordering.swap := datum_swap _ _
theorem ford_some {a b : Nat} (ha : (FloatKind.f64.format.read a).isNaN = false) (hb : (FloatKind.f64.format.read b).isNaN = false) : ∃ o, ford a b = some o := by
  unfold ford Ieee.Format.order
  cases hx : FloatKind.f64.format.read a <;> cases hy : FloatKind.f64.format.read b <;> simp_all [Ieee.Datum.isNaN, Ieee.Datum.order]
theorem nan_self {a : Nat} (h : ford a a = some .eq) : (FloatKind.f64.format.read a).isNaN = false := by
  unfold ford Ieee.Format.order at h
  cases hx : FloatKind.f64.format.read a <;> simp_all [Ieee.Datum.isNaN, Ieee.Datum.order]
theorem read_word (neg : Bool) (r : Nat) (hr : r ≤ Ieee.double.infRung) : (Ieee.double.read (Ieee.double.word neg r)).isNaN = false := by
  have hinf : Ieee.double.infRung = 9218868437227405312 := by decide +kernel
  have hsw : Ieee.double.signWeight = 9223372036854775808 := by decide +kernel
  have hm : Ieee.double.word neg r % Ieee.double.signWeight = r := by
    rw [hsw]; unfold Ieee.Format.word; rw [hsw]; split <;> omega
  unfold Ieee.Format.read
  simp only [hm]
  split
  · rfl
  · split
    · rfl
    · split
      · rfl
      · omega
theorem nearest_num (n : Int) : (FloatKind.f64.format.read (FloatKind.f64.nearest n)).isNaN = false := by
  unfold FloatKind.nearest FloatKind.encode FloatKind.format
  simp only [Ieee.Format.write, Ieee.Format.nearest]
  split
  · exact read_word _ _ (Nat.zero_le _)
  · exact read_word _ _ (Nat.min_le_right _ _)

set_option maxRecDepth 100000 in
set_option maxHeartbeats 4000000 in
theorem fnNumbers_c (n : Int) (f : Nat) (w : World) (hn : -9223372036854775808 ≤ n ∧ n ≤ 9223372036854775807) (hf : f < 18446744073709551616) :
    Calls Try.prog 12 #[.int .i64 n, .float .f64 f] w (Makes (fun _ u => u = .bool true) w) := by
  have HE0 := Lib.hid (Ext.refl w)
  by_cases h1 : n < -9007199254740992
  · go_enter Try.func12, Try.ntmps12
    go_wp2
    go_ret
    exact ⟨_, rfl, rfl, HE0.out⟩
  by_cases h2 : 9007199254740992 < n
  · go_enter Try.func12, Try.ntmps12
    go_wp2
    go_ret
    exact ⟨_, rfl, rfl, HE0.out⟩
  by_cases h3 : ford f f = some .eq
  case neg =>
    have h4 : (FloatKind.f64.format.order f f != some .eq) = true := by simpa [ford] using h3
    go_enter Try.func12, Try.ntmps12
    go_wp2
    go_ret
    exact ⟨_, rfl, rfl, HE0.out⟩
  have h4 : (FloatKind.f64.format.order f f != some .eq) = false := by simpa [ford] using h3
  obtain ⟨o, ho⟩ := ford_some (nearest_num n) (nan_self h3)
  have ho' : ford f (FloatKind.f64.nearest n) = some o.swap := by rw [ford_swap, ho]; rfl
  clear h3
  have g1 : ∀ W, RepGV (fun _ => True) W (.mk 2 n 0 ⟨#[]⟩ [] []) _ := fun W => leaf_rep _ W ⟨by omega, hn, by omega, Nat.zero_le _, by simp, by simp, by simp⟩
  have g2 : ∀ W, RepGV (fun _ => True) W (.mk 3 0 f ⟨#[]⟩ [] []) _ := fun W => leaf_rep _ W ⟨by omega, by omega, hf, Nat.zero_le _, by simp, by simp, by simp⟩
  have ht1 : treeOf (.mk 2 n 0 ⟨#[]⟩ [] []) = .int n := by simp [treeOf]
  have ht2 : treeOf (.mk 3 0 f ⟨#[]⟩ [] []) = .float f := by simp [treeOf]
  have C12 := fun W => Lib.hid (compareValues_c _ _ _ _ W _ (g1 W) (g2 W) (fcmp (FloatKind.f64.nearest n) f) (fun W T u1 u2 k1 k2 => by
    rw [ht1] at k1; rw [ht2] at k2
    exact compare_c _ _ W T u1 u2 k1 k2 _ fun W al k1 k2 => cmp_if k1 k2))
  have C21 := fun W => Lib.hid (compareValues_c _ _ _ _ W _ (g2 W) (g1 W) (fcmp f (FloatKind.f64.nearest n)) (fun W T u1 u2 k1 k2 => by
    rw [ht2] at k1; rw [ht1] at k2
    exact compare_c _ _ W T u1 u2 k1 k2 _ fun W al k1 k2 => cmp_fi k1 k2))
  have E12 := fun W => Lib.hid (equalValues_c _ _ _ _ W _ (g1 W) (g2 W) (ford (FloatKind.f64.nearest n) f == some .eq) (fun W T u1 u2 k1 k2 => by
    rw [ht1] at k1; rw [ht2] at k2
    exact equals_c _ _ W T u1 u2 k1 k2 _ fun W al k1 k2 => eq_if k1 k2))
  have E21 := fun W => Lib.hid (equalValues_c _ _ _ _ W _ (g2 W) (g1 W) (ford f (FloatKind.f64.nearest n) == some .eq) (fun W T u1 u2 k1 k2 => by
    rw [ht2] at k1; rw [ht1] at k2
    exact equals_c _ _ W T u1 u2 k1 k2 _ fun W al k1 k2 => eq_fi k1 k2))
  clear g1 g2 ht1 ht2
  simp only [fcmp, ho, ho'] at C12 C21 E12 E21
  have ho2 : FloatKind.f64.format.order (floatOfInt .f64 n) f = some o := ho
  have HE : Hid (Ext w ((w.alloc (.cells #[.int .i64 2, .int .i64 n, .float .f64 0, .string ⟨#[]⟩, .slice none 0 0, .slice none 0 0] 26)).alloc (.cells #[.int .i64 3, .int .i64 0, .float .f64 f, .string ⟨#[]⟩, .slice none 0 0, .slice none 0 0] 26))) := ((Ext.refl w).alloc _).alloc _
  have HA : Hid (((w.alloc (.cells #[.int .i64 2, .int .i64 n, .float .f64 0, .string ⟨#[]⟩, .slice none 0 0, .slice none 0 0] 26)).alloc (.cells #[.int .i64 3, .int .i64 0, .float .f64 f, .string ⟨#[]⟩, .slice none 0 0, .slice none 0 0] 26)).heap[w.heap.size]? = some (.cells #[.int .i64 2, .int .i64 n, .float .f64 0, .string ⟨#[]⟩, .slice none 0 0, .slice none 0 0] 26 (0, 0))) := old_at _ (new_at _ rfl)
  have HB : Hid (((w.alloc (.cells #[.int .i64 2, .int .i64 n, .float .f64 0, .string ⟨#[]⟩, .slice none 0 0, .slice none 0 0] 26)).alloc (.cells #[.int .i64 3, .int .i64 0, .float .f64 f, .string ⟨#[]⟩, .slice none 0 0, .slice none 0 0] 26)).heap[w.heap.size + 1]? = some (.cells #[.int .i64 3, .int .i64 0, .float .f64 f, .string ⟨#[]⟩, .slice none 0 0, .slice none 0 0] 26 (0, 0))) := new_at _ (size_alloc _ _)
  cases o <;> simp only [Ordering.swap, reduceCtorEq, reduceIte, Option.some.injEq, show ∀ a b : Ordering, (some a == some b) = (a == b) from fun _ _ => rfl, show (Ordering.lt == Ordering.eq) = false from rfl, show (Ordering.gt == Ordering.eq) = false from rfl, show (Ordering.eq == Ordering.eq) = true from rfl] at C12 C21 E12 E21 ho2
  case lt =>
    go_enter Try.func12, Try.ntmps12
    go_wp2_with fail
    refine (C12 _).out.mono ?_
    rintro e w0 ⟨u, rfl, rfl, hE0⟩
    replace HA := Lib.hid (hE0.heap HA.out); replace HB := Lib.hid (hE0.heap HB.out)
    replace HE := Lib.hid (HE.out.trans hE0)
    clear hE0
    have a0 := cell_of HA.out (i := 0) rfl; have b0 := cell_of HB.out (i := 0) rfl
    have a1 := cell_of HA.out (i := 1) rfl; have b1 := cell_of HB.out (i := 1) rfl
    have a2 := cell_of HA.out (i := 2) rfl; have b2 := cell_of HB.out (i := 2) rfl
    have a3 := cell_of HA.out (i := 3) rfl; have b3 := cell_of HB.out (i := 3) rfl
    have a4 := cell_of HA.out (i := 4) rfl; have b4 := cell_of HB.out (i := 4) rfl
    have a5 := cell_of HA.out (i := 5) rfl; have b5 := cell_of HB.out (i := 5) rfl
    go_wp2_with fail
    refine (C21 _).out.mono ?_
    rintro e w1 ⟨u, rfl, rfl, hE1⟩
    clear a0 a1 a2 a3 a4 a5 b0 b1 b2 b3 b4 b5
    replace HA := Lib.hid (hE1.heap HA.out); replace HB := Lib.hid (hE1.heap HB.out)
    replace HE := Lib.hid (HE.out.trans hE1)
    clear hE1
    have a0 := cell_of HA.out (i := 0) rfl; have b0 := cell_of HB.out (i := 0) rfl
    have a1 := cell_of HA.out (i := 1) rfl; have b1 := cell_of HB.out (i := 1) rfl
    have a2 := cell_of HA.out (i := 2) rfl; have b2 := cell_of HB.out (i := 2) rfl
    have a3 := cell_of HA.out (i := 3) rfl; have b3 := cell_of HB.out (i := 3) rfl
    have a4 := cell_of HA.out (i := 4) rfl; have b4 := cell_of HB.out (i := 4) rfl
    have a5 := cell_of HA.out (i := 5) rfl; have b5 := cell_of HB.out (i := 5) rfl
    go_wp2_with fail
    refine (E12 _).out.mono ?_
    rintro e w2 ⟨u, rfl, rfl, hE2⟩
    clear a0 a1 a2 a3 a4 a5 b0 b1 b2 b3 b4 b5
    replace HA := Lib.hid (hE2.heap HA.out); replace HB := Lib.hid (hE2.heap HB.out)
    replace HE := Lib.hid (HE.out.trans hE2)
    clear hE2
    have a0 := cell_of HA.out (i := 0) rfl; have b0 := cell_of HB.out (i := 0) rfl
    have a1 := cell_of HA.out (i := 1) rfl; have b1 := cell_of HB.out (i := 1) rfl
    have a2 := cell_of HA.out (i := 2) rfl; have b2 := cell_of HB.out (i := 2) rfl
    have a3 := cell_of HA.out (i := 3) rfl; have b3 := cell_of HB.out (i := 3) rfl
    have a4 := cell_of HA.out (i := 4) rfl; have b4 := cell_of HB.out (i := 4) rfl
    have a5 := cell_of HA.out (i := 5) rfl; have b5 := cell_of HB.out (i := 5) rfl
    go_wp2_with fail
    refine (E21 _).out.mono ?_
    rintro e w3 ⟨u, rfl, rfl, hE3⟩
    clear a0 a1 a2 a3 a4 a5 b0 b1 b2 b3 b4 b5
    replace HA := Lib.hid (hE3.heap HA.out); replace HB := Lib.hid (hE3.heap HB.out)
    replace HE := Lib.hid (HE.out.trans hE3)
    clear hE3
    have a0 := cell_of HA.out (i := 0) rfl; have b0 := cell_of HB.out (i := 0) rfl
    have a1 := cell_of HA.out (i := 1) rfl; have b1 := cell_of HB.out (i := 1) rfl
    have a2 := cell_of HA.out (i := 2) rfl; have b2 := cell_of HB.out (i := 2) rfl
    have a3 := cell_of HA.out (i := 3) rfl; have b3 := cell_of HB.out (i := 3) rfl
    have a4 := cell_of HA.out (i := 4) rfl; have b4 := cell_of HB.out (i := 4) rfl
    have a5 := cell_of HA.out (i := 5) rfl; have b5 := cell_of HB.out (i := 5) rfl
    go_wp2
    go_ret
    exact ⟨_, rfl, rfl, HE.out⟩
  case eq =>
    go_enter Try.func12, Try.ntmps12
    go_wp2_with fail
    refine (C12 _).out.mono ?_
    rintro e w0 ⟨u, rfl, rfl, hE0⟩
    replace HA := Lib.hid (hE0.heap HA.out); replace HB := Lib.hid (hE0.heap HB.out)
    replace HE := Lib.hid (HE.out.trans hE0)
    clear hE0
    have a0 := cell_of HA.out (i := 0) rfl; have b0 := cell_of HB.out (i := 0) rfl
    have a1 := cell_of HA.out (i := 1) rfl; have b1 := cell_of HB.out (i := 1) rfl
    have a2 := cell_of HA.out (i := 2) rfl; have b2 := cell_of HB.out (i := 2) rfl
    have a3 := cell_of HA.out (i := 3) rfl; have b3 := cell_of HB.out (i := 3) rfl
    have a4 := cell_of HA.out (i := 4) rfl; have b4 := cell_of HB.out (i := 4) rfl
    have a5 := cell_of HA.out (i := 5) rfl; have b5 := cell_of HB.out (i := 5) rfl
    go_wp2_with fail
    refine (C21 _).out.mono ?_
    rintro e w1 ⟨u, rfl, rfl, hE1⟩
    clear a0 a1 a2 a3 a4 a5 b0 b1 b2 b3 b4 b5
    replace HA := Lib.hid (hE1.heap HA.out); replace HB := Lib.hid (hE1.heap HB.out)
    replace HE := Lib.hid (HE.out.trans hE1)
    clear hE1
    have a0 := cell_of HA.out (i := 0) rfl; have b0 := cell_of HB.out (i := 0) rfl
    have a1 := cell_of HA.out (i := 1) rfl; have b1 := cell_of HB.out (i := 1) rfl
    have a2 := cell_of HA.out (i := 2) rfl; have b2 := cell_of HB.out (i := 2) rfl
    have a3 := cell_of HA.out (i := 3) rfl; have b3 := cell_of HB.out (i := 3) rfl
    have a4 := cell_of HA.out (i := 4) rfl; have b4 := cell_of HB.out (i := 4) rfl
    have a5 := cell_of HA.out (i := 5) rfl; have b5 := cell_of HB.out (i := 5) rfl
    go_wp2_with fail
    refine (E12 _).out.mono ?_
    rintro e w2 ⟨u, rfl, rfl, hE2⟩
    clear a0 a1 a2 a3 a4 a5 b0 b1 b2 b3 b4 b5
    replace HA := Lib.hid (hE2.heap HA.out); replace HB := Lib.hid (hE2.heap HB.out)
    replace HE := Lib.hid (HE.out.trans hE2)
    clear hE2
    have a0 := cell_of HA.out (i := 0) rfl; have b0 := cell_of HB.out (i := 0) rfl
    have a1 := cell_of HA.out (i := 1) rfl; have b1 := cell_of HB.out (i := 1) rfl
    have a2 := cell_of HA.out (i := 2) rfl; have b2 := cell_of HB.out (i := 2) rfl
    have a3 := cell_of HA.out (i := 3) rfl; have b3 := cell_of HB.out (i := 3) rfl
    have a4 := cell_of HA.out (i := 4) rfl; have b4 := cell_of HB.out (i := 4) rfl
    have a5 := cell_of HA.out (i := 5) rfl; have b5 := cell_of HB.out (i := 5) rfl
    go_wp2_with fail
    refine (E21 _).out.mono ?_
    rintro e w3 ⟨u, rfl, rfl, hE3⟩
    clear a0 a1 a2 a3 a4 a5 b0 b1 b2 b3 b4 b5
    replace HA := Lib.hid (hE3.heap HA.out); replace HB := Lib.hid (hE3.heap HB.out)
    replace HE := Lib.hid (HE.out.trans hE3)
    clear hE3
    have a0 := cell_of HA.out (i := 0) rfl; have b0 := cell_of HB.out (i := 0) rfl
    have a1 := cell_of HA.out (i := 1) rfl; have b1 := cell_of HB.out (i := 1) rfl
    have a2 := cell_of HA.out (i := 2) rfl; have b2 := cell_of HB.out (i := 2) rfl
    have a3 := cell_of HA.out (i := 3) rfl; have b3 := cell_of HB.out (i := 3) rfl
    have a4 := cell_of HA.out (i := 4) rfl; have b4 := cell_of HB.out (i := 4) rfl
    have a5 := cell_of HA.out (i := 5) rfl; have b5 := cell_of HB.out (i := 5) rfl
    go_wp2
    go_ret
    exact ⟨_, rfl, rfl, HE.out⟩
  case gt =>
    go_enter Try.func12, Try.ntmps12
    go_wp2_with fail
    refine (C12 _).out.mono ?_
    rintro e w0 ⟨u, rfl, rfl, hE0⟩
    replace HA := Lib.hid (hE0.heap HA.out); replace HB := Lib.hid (hE0.heap HB.out)
    replace HE := Lib.hid (HE.out.trans hE0)
    clear hE0
    have a0 := cell_of HA.out (i := 0) rfl; have b0 := cell_of HB.out (i := 0) rfl
    have a1 := cell_of HA.out (i := 1) rfl; have b1 := cell_of HB.out (i := 1) rfl
    have a2 := cell_of HA.out (i := 2) rfl; have b2 := cell_of HB.out (i := 2) rfl
    have a3 := cell_of HA.out (i := 3) rfl; have b3 := cell_of HB.out (i := 3) rfl
    have a4 := cell_of HA.out (i := 4) rfl; have b4 := cell_of HB.out (i := 4) rfl
    have a5 := cell_of HA.out (i := 5) rfl; have b5 := cell_of HB.out (i := 5) rfl
    go_wp2_with fail
    refine (C21 _).out.mono ?_
    rintro e w1 ⟨u, rfl, rfl, hE1⟩
    clear a0 a1 a2 a3 a4 a5 b0 b1 b2 b3 b4 b5
    replace HA := Lib.hid (hE1.heap HA.out); replace HB := Lib.hid (hE1.heap HB.out)
    replace HE := Lib.hid (HE.out.trans hE1)
    clear hE1
    have a0 := cell_of HA.out (i := 0) rfl; have b0 := cell_of HB.out (i := 0) rfl
    have a1 := cell_of HA.out (i := 1) rfl; have b1 := cell_of HB.out (i := 1) rfl
    have a2 := cell_of HA.out (i := 2) rfl; have b2 := cell_of HB.out (i := 2) rfl
    have a3 := cell_of HA.out (i := 3) rfl; have b3 := cell_of HB.out (i := 3) rfl
    have a4 := cell_of HA.out (i := 4) rfl; have b4 := cell_of HB.out (i := 4) rfl
    have a5 := cell_of HA.out (i := 5) rfl; have b5 := cell_of HB.out (i := 5) rfl
    go_wp2_with fail
    refine (E12 _).out.mono ?_
    rintro e w2 ⟨u, rfl, rfl, hE2⟩
    clear a0 a1 a2 a3 a4 a5 b0 b1 b2 b3 b4 b5
    replace HA := Lib.hid (hE2.heap HA.out); replace HB := Lib.hid (hE2.heap HB.out)
    replace HE := Lib.hid (HE.out.trans hE2)
    clear hE2
    have a0 := cell_of HA.out (i := 0) rfl; have b0 := cell_of HB.out (i := 0) rfl
    have a1 := cell_of HA.out (i := 1) rfl; have b1 := cell_of HB.out (i := 1) rfl
    have a2 := cell_of HA.out (i := 2) rfl; have b2 := cell_of HB.out (i := 2) rfl
    have a3 := cell_of HA.out (i := 3) rfl; have b3 := cell_of HB.out (i := 3) rfl
    have a4 := cell_of HA.out (i := 4) rfl; have b4 := cell_of HB.out (i := 4) rfl
    have a5 := cell_of HA.out (i := 5) rfl; have b5 := cell_of HB.out (i := 5) rfl
    go_wp2_with fail
    refine (E21 _).out.mono ?_
    rintro e w3 ⟨u, rfl, rfl, hE3⟩
    clear a0 a1 a2 a3 a4 a5 b0 b1 b2 b3 b4 b5
    replace HA := Lib.hid (hE3.heap HA.out); replace HB := Lib.hid (hE3.heap HB.out)
    replace HE := Lib.hid (HE.out.trans hE3)
    clear hE3
    have a0 := cell_of HA.out (i := 0) rfl; have b0 := cell_of HB.out (i := 0) rfl
    have a1 := cell_of HA.out (i := 1) rfl; have b1 := cell_of HB.out (i := 1) rfl
    have a2 := cell_of HA.out (i := 2) rfl; have b2 := cell_of HB.out (i := 2) rfl
    have a3 := cell_of HA.out (i := 3) rfl; have b3 := cell_of HB.out (i := 3) rfl
    have a4 := cell_of HA.out (i := 4) rfl; have b4 := cell_of HB.out (i := 4) rfl
    have a5 := cell_of HA.out (i := 5) rfl; have b5 := cell_of HB.out (i := 5) rfl
    go_wp2
    go_ret
    exact ⟨_, rfl, rfl, HE.out⟩
end Go.Smd
