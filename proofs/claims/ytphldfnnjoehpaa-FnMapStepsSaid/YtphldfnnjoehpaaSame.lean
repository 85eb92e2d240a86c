/- spec.SameValue of two values with one plain form: true. -/
import Derived.Test.YtphldfnnjoehpaaIdent
import Derived.Test.YtphldfnnjoehpaaRegion
set_option linter.unusedSimpArgs false
namespace Go.Smd
open Go.RowKit Go.Proofs

set_option maxRecDepth 100000 in
set_option maxHeartbeats 1000000 in
theorem sameSpec_c (g1 g2 : GV) (cs1 cs2 : List Value) (w : World) (S1 S2 : Nat → Prop) (h1 : RepGV S1 w g1 cs1) (h2 : RepGV S2 w g2 cs2) (hcl : clean g1 = clean g2) :
    Calls Try.prog 17 #[.agg cs1.toArray, .agg cs2.toArray] w (Makes (fun _ u => u = .bool true) w) := by
  have hv1 := fun W (e : Ext w W) => clean_c g1 cs1 W S1 (h1.ext e)
  have hv2 := fun W (e : Ext w W) => clean_c g2 cs2 W S2 (h2.ext e)
  rw [← hcl] at hv2
  obtain ⟨c0, c1, c2, c3, c4, c5, rfl⟩ := h1.list6
  obtain ⟨d0, d1, d2, d3, d4, d5, rfl⟩ := h2.list6
  obtain ⟨o0, o1, o2, o3, o4, o5⟩ := h1.six
  obtain ⟨p0, p1, p2, p3, p4, p5⟩ := h2.six
  have HV1 := Lib.hid hv1; have HV2 := Lib.hid hv2
  clear hv1 hv2 h1 h2 hcl
  go_enter Try.func17, Try.ntmps17
  go_upto_region 1 with fail
  have HE : Hid (Ext w ((w.alloc (.cells #[c0, c1, c2, c3, c4, c5] 26)).alloc (.cells #[d0, d1, d2, d3, d4, d5] 26)).drew) := (((Ext.refl w).alloc _).alloc _).drew
  refine wp_region_E [] (by kernel_rfl) ?_
  refine E_takes (listed' := lst 6 [0, 2]) [0, 2] 4 (by kernel_rfl) (fun _ _ _ _ h => h) (by kernel_rfl) rfl (by kernel_rfl) ?_
  repeat (refine qIdx_step rfl ?_; go_big_quiet_step (fail); refine wpQuiet_nil ?_)
  refine qIdx_nil ?_
  generalize ((w.alloc (.cells #[c0, c1, c2, c3, c4, c5] 26)).alloc (.cells #[d0, d1, d2, d3, d4, d5] 26)).drew = w0 at HE ⊢
  refine E_one (n := 3) (i := 1) (listed' := lst 6 [0, 1, 2]) (by kernel_rfl) rfl rfl (by kernel_rfl) ?_
  go_wp2_with fail
  refine (HV1.out w0 HE.out).mono ?_
  rintro e w1 ⟨u1, rfl, ⟨cu1, rfl, hu1⟩, hE1⟩
  go_wp2_with fail
  refine ⟨hE1, ?_⟩
  refine E_one (n := 2) (i := 3) (listed' := lst 6 [0, 1, 2, 3]) (by kernel_rfl) rfl rfl (by kernel_rfl) ?_
  go_wp2_with fail
  refine (HV2.out w1 (HE.out.trans hE1)).mono ?_
  rintro e w2 ⟨u2, rfl, ⟨cu2, rfl, hu2⟩, hE2⟩
  go_wp2_with fail
  refine ⟨hE2, ?_⟩
  refine E_one (n := 1) (i := 4) (listed' := lst 6 [0, 1, 2, 3, 4]) (by kernel_rfl) rfl rfl (by kernel_rfl) ?_
  go_wp2_with fail
  refine (ident_c _ cu1 cu2 w2 (fun _ => True) ((hu1.ext hE2).mono fun _ _ => trivial) (hu2.mono fun _ _ => trivial)).mono ?_
  rintro e w3 ⟨u, rfl, rfl, hE3⟩
  have HE3 := Lib.hid (((HE.out.trans hE1).trans hE2).trans hE3)
  go_wp2_with fail
  refine ⟨hE3, ?_⟩
  clear hu1 hu2 hE1 hE2 hE3
  refine E_takes (listed' := lst 6 [0, 1, 2, 3, 4, 5]) [5] 0 (by kernel_rfl) (fun _ _ _ _ h => h) (by kernel_rfl) rfl (by kernel_rfl) ?_
  repeat (refine qIdx_step rfl ?_; go_big_quiet_step (fail); refine wpQuiet_nil ?_)
  refine qIdx_nil ?_
  refine E_done (by kernel_rfl) ?_
  go_wp2
  go_ret
  exact ⟨_, rfl, rfl, HE3.out⟩
end Go.Smd
