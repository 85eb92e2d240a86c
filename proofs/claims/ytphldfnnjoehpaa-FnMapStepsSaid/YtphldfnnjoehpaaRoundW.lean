/- impl.fromValue, impl.SameValue. -/
import Derived.Test.YtphldfnnjoehpaaRound
set_option linter.unusedSimpArgs false
namespace Go.Smd
open Go.RowKit Go.Proofs

set_option maxRecDepth 100000 in
set_option maxHeartbeats 1000000 in
theorem fromValue_c (t : Tree) (v : Value) (w : World) (S : Nat → Prop) (hv : RepV w S t v) (hf : Fits t) :
    Calls Try.prog 56 #[v] w (GivesGV (w.heap.size ≤ ·) (fromT t) w) := by
  obtain ⟨a, x, rfl, -, hc, hr⟩ := hv
  have HF := Lib.hid hf; have Hr := Lib.hid hr
  have hE0 : Ext w (w.alloc (.cells #[.int .i64 0, .int .i64 0, .float .f64 0, .string ⟨#[]⟩, .slice none 0 0, .slice none 0 0] 26)) := (Ext.refl w).alloc _
  have hB0 := new_at (w := w) (.cells #[.int .i64 0, .int .i64 0, .float .f64 0, .string ⟨#[]⟩, .slice none 0 0, .slice none 0 0] 26) rfl
  have hs0 := size_alloc w (.cells #[.int .i64 0, .int .i64 0, .float .f64 0, .string ⟨#[]⟩, .slice none 0 0, .slice none 0 0] 26)
  clear hf hr
  go_enter Try.func56, Try.ntmps56
  go_upto_region 1 with fail
  generalize w.alloc (.cells #[.int .i64 0, .int .i64 0, .float .f64 0, .string ⟨#[]⟩, .slice none 0 0, .slice none 0 0] 26) = w2 at hE0 hB0 hs0 ⊢
  have c2 := hE0.cell hc
  have HE := Lib.hid hE0; have HB := Lib.hid hB0; have Hs0 := Lib.hid hs0
  clear hE0 hB0 hs0 hc
  go_wp2_with fail
  refine (unstr_c (Hr.out.ext HE.out)).mono ?_
  rintro e w3 ⟨u, rfl, rfl, hE3⟩
  have HE3 := Lib.hid (HE.out.trans hE3)
  have HB3 := Lib.hid (hE3.heap HB.out)
  clear hE3 c2
  go_wp2_with fail
  refine (from_c t _ w3 S (Hr.out.ext HE3.out) HF.out).mono ?_
  rintro e w4 ⟨u, rfl, ⟨cs, rfl, hu⟩, hE4⟩
  obtain ⟨f0, f1, f2, f3, f4, f5, rfl⟩ := hu.list6
  obtain ⟨p0, p1, p2, p3, p4, p5⟩ := hu.six
  have HE4 := Lib.hid (HE3.out.trans hE4)
  have HB4 := Lib.hid (hE4.heap HB3.out)
  have hz : ∀ o, w4.frozen? ⟨w.heap.size, o, none⟩ = false := fun o => by simp [World.frozen?, HB4.out]
  have g0 := cell_of HB4.out (i := 0) rfl; have g1 := cell_of HB4.out (i := 1) rfl; have g2 := cell_of HB4.out (i := 2) rfl; have g3 := cell_of HB4.out (i := 3) rfl; have g4 := cell_of HB4.out (i := 4) rfl; have g5 := cell_of HB4.out (i := 5) rfl
  have hs3 : w.heap.size < w3.heap.size := (Array.getElem?_eq_some_iff.1 HB3.out).1
  have HRP : Hid (RepGV (w.heap.size ≤ ·) (six w4 w.heap.size f0 f1 f2 f3 f4 f5) (fromT t) [f0, f1, f2, f3, f4, f5]) := RepGV.frame (S' := (w.heap.size ≤ ·)) ((six_same w4 w.heap.size _ _ _ _ _ _).mono fun b hb => by omega) (fun b hb => by omega) hu
  clear hu hE4
  go_wp2
  (try simp only [Exit.inBlock, Exit.then]); refine bodyPost_ret (res6 Try.results56 rfl (leafs HE4.out (Nat.le_refl _) HB4.out f0 f1 f2 f3 f4 f5).1) rfl ?_
  exact ⟨_, rfl, ⟨_, rfl, HRP.out⟩, (leafs HE4.out (Nat.le_refl _) HB4.out _ _ _ _ _ _).2⟩

set_option maxRecDepth 100000 in
set_option maxHeartbeats 1000000 in
theorem roundTrip_c (v : GV) (cs : List Value) (w : World) (S : Nat → Prop) (hv : RepGV S w v cs) :
    Calls Try.prog 18 #[.agg cs.toArray] w (GivesGV (w.heap.size ≤ ·) (clean v) w) := by
  have hE0 : Ext w ((w.alloc (.cells cs.toArray 26)).alloc (.cells #[.int .i64 0, .int .i64 0, .float .f64 0, .string ⟨#[]⟩, .slice none 0 0, .slice none 0 0] 26)) := ((Ext.refl w).alloc _).alloc _
  have hB0 := new_at (w := w.alloc (.cells cs.toArray 26)) (.cells #[.int .i64 0, .int .i64 0, .float .f64 0, .string ⟨#[]⟩, .slice none 0 0, .slice none 0 0] 26) (size_alloc _ _)
  have hA0 := old_at (.cells #[.int .i64 0, .int .i64 0, .float .f64 0, .string ⟨#[]⟩, .slice none 0 0, .slice none 0 0] 26) (new_at (w := w) (.cells cs.toArray 26) rfl)
  have hv1 := fun W (e : Ext w W) => toValue_c v cs W S (hv.ext e)
  have hft := tree_fits hv
  obtain ⟨c0, c1, c2, c3, c4, c5, rfl⟩ := hv.list6
  obtain ⟨o0, o1, o2, o3, o4, o5⟩ := hv.six
  have HV := Lib.hid hv1; have HF := Lib.hid hft
  clear hv hv1 hft
  go_enter Try.func18, Try.ntmps18
  go_upto_region 1 with fail
  generalize (w.alloc (.cells #[c0, c1, c2, c3, c4, c5] 26)).alloc (.cells #[.int .i64 0, .int .i64 0, .float .f64 0, .string ⟨#[]⟩, .slice none 0 0, .slice none 0 0] 26) = w2 at hE0 hB0 hA0 ⊢
  have HE := Lib.hid hE0; have HB := Lib.hid hB0; have HA := Lib.hid hA0
  clear hE0 hB0 hA0
  have a0 := cell_of HA.out (i := 0) rfl; have a1 := cell_of HA.out (i := 1) rfl; have a2 := cell_of HA.out (i := 2) rfl; have a3 := cell_of HA.out (i := 3) rfl; have a4 := cell_of HA.out (i := 4) rfl; have a5 := cell_of HA.out (i := 5) rfl
  go_wp2_with fail
  refine (HV.out w2 HE.out).mono ?_
  rintro e w3 ⟨u, rfl, hu3, hE3⟩
  have HE3 := Lib.hid (HE.out.trans hE3)
  have HB3 := Lib.hid (hE3.heap HB.out)
  have HU3 := Lib.hid hu3
  clear hE3 hu3
  go_wp2_with fail
  refine (fromValue_c _ _ w3 _ HU3.out HF.out).mono ?_
  rintro e w4 ⟨u, rfl, ⟨cs, rfl, hu⟩, hE4⟩
  rw [from_tree] at hu
  obtain ⟨f0, f1, f2, f3, f4, f5, rfl⟩ := hu.list6
  obtain ⟨p0, p1, p2, p3, p4, p5⟩ := hu.six
  have HE4 := Lib.hid (HE3.out.trans hE4)
  have HB4 := Lib.hid (hE4.heap HB3.out)
  have hz : ∀ o, w4.frozen? ⟨w.heap.size + 1, o, none⟩ = false := fun o => by simp [World.frozen?, HB4.out]
  have g0 := cell_of HB4.out (i := 0) rfl; have g1 := cell_of HB4.out (i := 1) rfl; have g2 := cell_of HB4.out (i := 2) rfl; have g3 := cell_of HB4.out (i := 3) rfl; have g4 := cell_of HB4.out (i := 4) rfl; have g5 := cell_of HB4.out (i := 5) rfl
  have hs3 : w.heap.size + 1 < w3.heap.size := (Array.getElem?_eq_some_iff.1 HB3.out).1
  have HRP : Hid (RepGV (w.heap.size ≤ ·) (six w4 (w.heap.size + 1) f0 f1 f2 f3 f4 f5) (clean v) [f0, f1, f2, f3, f4, f5]) := RepGV.frame (S' := (w.heap.size ≤ ·)) ((six_same w4 (w.heap.size + 1) _ _ _ _ _ _).mono fun b hb => by omega) (fun b hb => by omega) hu
  clear hu hE4 a0 a1 a2 a3 a4 a5
  go_wp2
  (try simp only [Exit.inBlock, Exit.then]); refine bodyPost_ret (res6 Try.results18 rfl (leafs HE4.out (by omega) HB4.out f0 f1 f2 f3 f4 f5).1) rfl ?_
  exact ⟨_, rfl, ⟨_, rfl, HRP.out⟩, (leafs HE4.out (by omega) HB4.out _ _ _ _ _ _).2⟩
end Go.Smd
