/- Two values handed to the library. -/
import Derived.Test.YtphldfnnjoehpaaCmp
import Derived.Test.YtphldfnnjoehpaaRegion
set_option linter.unusedSimpArgs false
namespace Go.Smd
open Go.RowKit Go.Proofs

set_option maxRecDepth 100000 in
set_option maxHeartbeats 1000000 in
theorem compareValues_c (g1 g2 : GV) (cs1 cs2 : List Value) (w : World) (S : Nat → Prop) (h1 : RepGV S w g1 cs1) (h2 : RepGV S w g2 cs2) (r : Int)
    (hc : ∀ (W : World) (T : Nat → Prop) (u1 u2 : Value), RepV W T (treeOf g1) u1 → RepV W T (treeOf g2) u2 → Calls Try.prog 92 #[u1, u2] W (Makes (fun _ u => u = .int .i64 r) W)) :
    Calls Try.prog 50 #[.agg cs1.toArray, .agg cs2.toArray] w (Makes (fun _ u => u = .int .i64 r) w) := by
  have hv1 := fun W (e : Ext w W) => toValue_c g1 cs1 W S (h1.ext e)
  have hv2 := fun W (e : Ext w W) => toValue_c g2 cs2 W S (h2.ext e)
  obtain ⟨c0, c1, c2, c3, c4, c5, rfl⟩ := h1.list6
  obtain ⟨d0, d1, d2, d3, d4, d5, rfl⟩ := h2.list6
  obtain ⟨o0, o1, o2, o3, o4, o5⟩ := h1.six
  obtain ⟨p0, p1, p2, p3, p4, p5⟩ := h2.six
  have HV1 := Lib.hid hv1; have HV2 := Lib.hid hv2; have HC := Lib.hid hc
  clear hv1 hv2 h1 h2 hc
  go_enter Try.func50, Try.ntmps50
  go_upto_region 1 with fail
  have HE : Hid (Ext w ((w.alloc (.cells #[c0, c1, c2, c3, c4, c5] 26)).alloc (.cells #[d0, d1, d2, d3, d4, d5] 26)).drew) := (((Ext.refl w).alloc _).alloc _).drew
  refine wp_region_E [] (by kernel_rfl) ?_
  refine E_takes (listed' := lst 6 [0, 2]) [0, 2] 4 (by kernel_rfl) (fun _ _ _ _ h => h) (by kernel_rfl) rfl (by kernel_rfl) ?_
  repeat (refine qIdx_step rfl ?_; go_big_quiet_step (fail); refine wpQuiet_nil ?_)
  refine qIdx_nil ?_
  generalize ((w.alloc (.cells #[c0, c1, c2, c3, c4, c5] 26)).alloc (.cells #[d0, d1, d2, d3, d4, d5] 26)).drew = w0 at HE ⊢
  refine E_one (n := 3) (i := 1) (listed' := lst 6 [0, 1, 2]) (by kernel_rfl) rfl rfl (by kernel_rfl) ?_
  go_wp2_with fail
  refine (HV1.out w0 HE.out).mono ?_
  rintro e w1 ⟨u1, rfl, hu1, hE1⟩
  go_wp2_with fail
  refine ⟨hE1, ?_⟩
  refine E_one (n := 2) (i := 3) (listed' := lst 6 [0, 1, 2, 3]) (by kernel_rfl) rfl rfl (by kernel_rfl) ?_
  go_wp2_with fail
  refine (HV2.out w1 (HE.out.trans hE1)).mono ?_
  rintro e w2 ⟨u2, rfl, hu2, hE2⟩
  go_wp2_with fail
  refine ⟨hE2, ?_⟩
  refine E_one (n := 1) (i := 4) (listed' := lst 6 [0, 1, 2, 3, 4]) (by kernel_rfl) rfl rfl (by kernel_rfl) ?_
  go_wp2_with fail
  refine (HC.out w2 (fun _ => True) u1 u2 ((hu1.ext hE2).frame (fun _ _ => rfl) fun _ _ => trivial) (hu2.frame (fun _ _ => rfl) fun _ _ => trivial)).mono ?_
  rintro e w3 ⟨u, rfl, rfl, hE3⟩
  have HE3 := Lib.hid (((HE.out.trans hE1).trans hE2).trans hE3)
  go_wp2_with fail
  refine ⟨hE3, ?_⟩
  clear hu1 hu2 hE1 hE2 hE3
  refine E_takes (listed' := lst 6 [0, 1, 2, 3, 4, 5]) [5] 0 (by kernel_rfl) (fun _ _ _ _ h => h) (by kernel_rfl) rfl (by kernel_rfl) ?_
  repeat (refine qIdx_step rfl ?_; go_big_quiet_step (fail); refine wpQuiet_nil ?_)
  refine qIdx_nil ?_
  refine E_done (by kernel_rfl) ?_
  go_wp2
  go_ret
  exact ⟨_, rfl, rfl, HE3.out⟩

set_option maxRecDepth 100000 in
set_option maxHeartbeats 1000000 in
theorem equalValues_c (g1 g2 : GV) (cs1 cs2 : List Value) (w : World) (S : Nat → Prop) (h1 : RepGV S w g1 cs1) (h2 : RepGV S w g2 cs2) (r : Bool)
    (hc : ∀ (W : World) (T : Nat → Prop) (u1 u2 : Value), RepV W T (treeOf g1) u1 → RepV W T (treeOf g2) u2 → Calls Try.prog 93 #[u1, u2] W (Makes (fun _ u => u = .bool r) W)) :
    Calls Try.prog 51 #[.agg cs1.toArray, .agg cs2.toArray] w (Makes (fun _ u => u = .bool r) w) := by
  have hv1 := fun W (e : Ext w W) => toValue_c g1 cs1 W S (h1.ext e)
  have hv2 := fun W (e : Ext w W) => toValue_c g2 cs2 W S (h2.ext e)
  obtain ⟨c0, c1, c2, c3, c4, c5, rfl⟩ := h1.list6
  obtain ⟨d0, d1, d2, d3, d4, d5, rfl⟩ := h2.list6
  obtain ⟨o0, o1, o2, o3, o4, o5⟩ := h1.six
  obtain ⟨p0, p1, p2, p3, p4, p5⟩ := h2.six
  have HV1 := Lib.hid hv1; have HV2 := Lib.hid hv2; have HC := Lib.hid hc
  clear hv1 hv2 h1 h2 hc
  go_enter Try.func51, Try.ntmps51
  go_upto_region 1 with fail
  have HE : Hid (Ext w ((w.alloc (.cells #[c0, c1, c2, c3, c4, c5] 26)).alloc (.cells #[d0, d1, d2, d3, d4, d5] 26)).drew) := (((Ext.refl w).alloc _).alloc _).drew
  refine wp_region_E [] (by kernel_rfl) ?_
  refine E_takes (listed' := lst 6 [0, 2]) [0, 2] 4 (by kernel_rfl) (fun _ _ _ _ h => h) (by kernel_rfl) rfl (by kernel_rfl) ?_
  repeat (refine qIdx_step rfl ?_; go_big_quiet_step (fail); refine wpQuiet_nil ?_)
  refine qIdx_nil ?_
  generalize ((w.alloc (.cells #[c0, c1, c2, c3, c4, c5] 26)).alloc (.cells #[d0, d1, d2, d3, d4, d5] 26)).drew = w0 at HE ⊢
  refine E_one (n := 3) (i := 1) (listed' := lst 6 [0, 1, 2]) (by kernel_rfl) rfl rfl (by kernel_rfl) ?_
  go_wp2_with fail
  refine (HV1.out w0 HE.out).mono ?_
  rintro e w1 ⟨u1, rfl, hu1, hE1⟩
  go_wp2_with fail
  refine ⟨hE1, ?_⟩
  refine E_one (n := 2) (i := 3) (listed' := lst 6 [0, 1, 2, 3]) (by kernel_rfl) rfl rfl (by kernel_rfl) ?_
  go_wp2_with fail
  refine (HV2.out w1 (HE.out.trans hE1)).mono ?_
  rintro e w2 ⟨u2, rfl, hu2, hE2⟩
  go_wp2_with fail
  refine ⟨hE2, ?_⟩
  refine E_one (n := 1) (i := 4) (listed' := lst 6 [0, 1, 2, 3, 4]) (by kernel_rfl) rfl rfl (by kernel_rfl) ?_
  go_wp2_with fail
  refine (HC.out w2 (fun _ => True) u1 u2 ((hu1.ext hE2).frame (fun _ _ => rfl) fun _ _ => trivial) (hu2.frame (fun _ _ => rfl) fun _ _ => trivial)).mono ?_
  rintro e w3 ⟨u, rfl, rfl, hE3⟩
  have HE3 := Lib.hid (((HE.out.trans hE1).trans hE2).trans hE3)
  go_wp2_with fail
  refine ⟨hE3, ?_⟩
  clear hu1 hu2 hE1 hE2 hE3
  refine E_takes (listed' := lst 6 [0, 1, 2, 3, 4, 5]) [5] 0 (by kernel_rfl) (fun _ _ _ _ h => h) (by kernel_rfl) rfl (by kernel_rfl) ?_
  repeat (refine qIdx_step rfl ?_; go_big_quiet_step (fail); refine wpQuiet_nil ?_)
  refine qIdx_nil ?_
  refine E_done (by kernel_rfl) ?_
  go_wp2
  go_ret
  exact ⟨_, rfl, rfl, HE3.out⟩

set_option maxRecDepth 100000 in
set_option maxHeartbeats 1000000 in
theorem lessValues_c (g1 g2 : GV) (cs1 cs2 : List Value) (w : World) (S : Nat → Prop) (h1 : RepGV S w g1 cs1) (h2 : RepGV S w g2 cs2) (r : Bool)
    (hc : ∀ (W : World) (T : Nat → Prop) (u1 u2 : Value), RepV W T (treeOf g1) u1 → RepV W T (treeOf g2) u2 → Calls Try.prog 94 #[u1, u2] W (Makes (fun _ u => u = .bool r) W)) :
    Calls Try.prog 53 #[.agg cs1.toArray, .agg cs2.toArray] w (Makes (fun _ u => u = .bool r) w) := by
  have hv1 := fun W (e : Ext w W) => toValue_c g1 cs1 W S (h1.ext e)
  have hv2 := fun W (e : Ext w W) => toValue_c g2 cs2 W S (h2.ext e)
  obtain ⟨c0, c1, c2, c3, c4, c5, rfl⟩ := h1.list6
  obtain ⟨d0, d1, d2, d3, d4, d5, rfl⟩ := h2.list6
  obtain ⟨o0, o1, o2, o3, o4, o5⟩ := h1.six
  obtain ⟨p0, p1, p2, p3, p4, p5⟩ := h2.six
  have HV1 := Lib.hid hv1; have HV2 := Lib.hid hv2; have HC := Lib.hid hc
  clear hv1 hv2 h1 h2 hc
  go_enter Try.func53, Try.ntmps53
  go_upto_region 1 with fail
  have HE : Hid (Ext w ((w.alloc (.cells #[c0, c1, c2, c3, c4, c5] 26)).alloc (.cells #[d0, d1, d2, d3, d4, d5] 26)).drew) := (((Ext.refl w).alloc _).alloc _).drew
  refine wp_region_E [] (by kernel_rfl) ?_
  refine E_takes (listed' := lst 6 [0, 2]) [0, 2] 4 (by kernel_rfl) (fun _ _ _ _ h => h) (by kernel_rfl) rfl (by kernel_rfl) ?_
  repeat (refine qIdx_step rfl ?_; go_big_quiet_step (fail); refine wpQuiet_nil ?_)
  refine qIdx_nil ?_
  generalize ((w.alloc (.cells #[c0, c1, c2, c3, c4, c5] 26)).alloc (.cells #[d0, d1, d2, d3, d4, d5] 26)).drew = w0 at HE ⊢
  refine E_one (n := 3) (i := 1) (listed' := lst 6 [0, 1, 2]) (by kernel_rfl) rfl rfl (by kernel_rfl) ?_
  go_wp2_with fail
  refine (HV1.out w0 HE.out).mono ?_
  rintro e w1 ⟨u1, rfl, hu1, hE1⟩
  go_wp2_with fail
  refine ⟨hE1, ?_⟩
  refine E_one (n := 2) (i := 3) (listed' := lst 6 [0, 1, 2, 3]) (by kernel_rfl) rfl rfl (by kernel_rfl) ?_
  go_wp2_with fail
  refine (HV2.out w1 (HE.out.trans hE1)).mono ?_
  rintro e w2 ⟨u2, rfl, hu2, hE2⟩
  go_wp2_with fail
  refine ⟨hE2, ?_⟩
  refine E_one (n := 1) (i := 4) (listed' := lst 6 [0, 1, 2, 3, 4]) (by kernel_rfl) rfl rfl (by kernel_rfl) ?_
  go_wp2_with fail
  refine (HC.out w2 (fun _ => True) u1 u2 ((hu1.ext hE2).frame (fun _ _ => rfl) fun _ _ => trivial) (hu2.frame (fun _ _ => rfl) fun _ _ => trivial)).mono ?_
  rintro e w3 ⟨u, rfl, rfl, hE3⟩
  have HE3 := Lib.hid (((HE.out.trans hE1).trans hE2).trans hE3)
  go_wp2_with fail
  refine ⟨hE3, ?_⟩
  clear hu1 hu2 hE1 hE2 hE3
  refine E_takes (listed' := lst 6 [0, 1, 2, 3, 4, 5]) [5] 0 (by kernel_rfl) (fun _ _ _ _ h => h) (by kernel_rfl) rfl (by kernel_rfl) ?_
  repeat (refine qIdx_step rfl ?_; go_big_quiet_step (fail); refine wpQuiet_nil ?_)
  refine qIdx_nil ?_
  refine E_done (by kernel_rfl) ?_
  go_wp2
  go_ret
  exact ⟨_, rfl, rfl, HE3.out⟩

set_option maxRecDepth 100000 in
set_option maxHeartbeats 1000000 in
theorem compare_c (t1 t2 : Tree) (w : World) (S : Nat → Prop) (u1 u2 : Value) (h1 : RepV w S t1 u1) (h2 : RepV w S t2 u2) (r : Int)
    (hc : ∀ (W : World) (al : Nat), RepV W S t1 u1 → RepV W S t2 u2 → Calls Try.prog 114 #[.iface 190 (.pointer (some ⟨al, 0, none⟩)), u1, u2] W (Makes (fun _ u => u = .int .i64 r) W)) :
    Calls Try.prog 92 #[u1, u2] w (Makes (fun _ u => u = .int .i64 r) w) := by
  have HC := Lib.hid (fun W (e : Ext w W) al => hc W al (h1.ext e) (h2.ext e))
  obtain ⟨a1, x1, rfl, -, -, -⟩ := h1
  obtain ⟨a2, x2, rfl, -, -, -⟩ := h2
  have HE : Hid (∀ o, Ext w (w.alloc o)) := fun o => (Ext.refl w).alloc o
  clear hc
  go_enter Try.func92, Try.ntmps92
  go_wp2_with fail
  refine (HC.out _ (HE.out _) _).mono ?_
  rintro e w3 ⟨u, rfl, rfl, hE3⟩
  have HE3 := Lib.hid ((HE.out _).trans hE3)
  clear hE3
  go_wp2
  go_ret
  exact ⟨_, rfl, rfl, HE3.out⟩

set_option maxRecDepth 100000 in
set_option maxHeartbeats 1000000 in
theorem equals_c (t1 t2 : Tree) (w : World) (S : Nat → Prop) (u1 u2 : Value) (h1 : RepV w S t1 u1) (h2 : RepV w S t2 u2) (r : Bool)
    (hc : ∀ (W : World) (al : Nat), RepV W S t1 u1 → RepV W S t2 u2 → Calls Try.prog 115 #[.iface 190 (.pointer (some ⟨al, 0, none⟩)), u1, u2] W (Makes (fun _ u => u = .bool r) W)) :
    Calls Try.prog 93 #[u1, u2] w (Makes (fun _ u => u = .bool r) w) := by
  have HC := Lib.hid (fun W (e : Ext w W) al => hc W al (h1.ext e) (h2.ext e))
  obtain ⟨a1, x1, rfl, -, -, -⟩ := h1
  obtain ⟨a2, x2, rfl, -, -, -⟩ := h2
  have HE : Hid (∀ o, Ext w (w.alloc o)) := fun o => (Ext.refl w).alloc o
  clear hc
  go_enter Try.func93, Try.ntmps93
  go_wp2_with fail
  refine (HC.out _ (HE.out _) _).mono ?_
  rintro e w3 ⟨u, rfl, rfl, hE3⟩
  have HE3 := Lib.hid ((HE.out _).trans hE3)
  clear hE3
  go_wp2
  go_ret
  exact ⟨_, rfl, rfl, HE3.out⟩
end Go.Smd
