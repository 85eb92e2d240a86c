/- FnValueRoundTrip: a value that went to the library and came back is the value's plain form. -/
import Derived.Test.YtphldfnnjoehpaaRoundW
import Derived.Test.YtphldfnnjoehpaaSame
set_option linter.unusedSimpArgs false
namespace Go.Smd
open Go.RowKit Go.Proofs

set_option maxRecDepth 100000 in
set_option maxHeartbeats 2000000 in
theorem fnRound_c (v : GV) (cs : List Value) (w : World) (S : Nat → Prop) (hv : RepGV S w v cs) :
    Calls Try.prog 4 #[.agg cs.toArray] w (Makes (fun _ u => u = .bool true) w) := by
  have hfit := zzFits5_c v cs (w.alloc (.cells cs.toArray 26)) S (hv.ext ((Ext.refl _).alloc _))
  have hrt := fun W (e : Ext w W) => roundTrip_c v cs W S (hv.ext e)
  have hcl := fun W (e : Ext w W) => clean_c v cs W S (hv.ext e)
  obtain ⟨kd, n', f', s', ks', l', hcv⟩ : ∃ kd n f s ks l, clean v = .mk kd n f s ks l := by cases clean v; exact ⟨_, _, _, _, _, _, rfl⟩
  rw [hcv] at hrt hcl
  obtain ⟨c0, c1, c2, c3, c4, c5, rfl⟩ := hv.list6
  obtain ⟨o0, o1, o2, o3, o4, o5⟩ := hv.six
  have HF := Lib.hid hfit; have HRT := Lib.hid hrt; have HCL := Lib.hid hcl
  obtain ⟨nk, hnk⟩ : ∃ n, ks'.length = n := ⟨_, rfl⟩
  have Hnk := Lib.hid hnk
  clear hfit hrt hcl hcv hv hnk
  go_enter Try.func4, Try.ntmps4
  go_wp2_with fail
  refine HF.out.mono ?_
  rintro e w1 ⟨u, rfl, rfl, hE⟩
  have HE := Lib.hid (((Ext.refl w).alloc (.cells #[c0, c1, c2, c3, c4, c5] 26)).trans hE)
  have HA := Lib.hid (hE.heap (new_at (w := w) (.cells #[c0, c1, c2, c3, c4, c5] 26) rfl))
  clear hE HF
  generalize fits5 v = b
  cases b with
  | false =>
    go_wp2
    go_ret
    exact ⟨_, rfl, rfl, HE.out⟩
  | true =>
    go_upto_region 3 with fail
    refine wp_region_E [] (by kernel_rfl) ?_
    have HE0 : Hid (Ext w w1.drew) := HE.out.drew
    have HA0 : Hid (w1.drew.heap[w.heap.size]? = some (.cells #[c0, c1, c2, c3, c4, c5] 26 (0, 0))) := HA.out
    generalize w1.drew = w2 at HE0 HA0 ⊢
    clear HE HA
    have HE := HE0; have HA := HA0
    clear HE0 HA0
    have a0 := cell_of HA.out (i := 0) rfl; have a1 := cell_of HA.out (i := 1) rfl; have a2 := cell_of HA.out (i := 2) rfl; have a3 := cell_of HA.out (i := 3) rfl; have a4 := cell_of HA.out (i := 4) rfl; have a5 := cell_of HA.out (i := 5) rfl
    refine E_takes (listed' := lst 17 [0, 2]) [0, 2] 15 (by kernel_rfl) (fun _ _ _ _ h => h) (by kernel_rfl) rfl (by kernel_rfl) ?_
    repeat (refine qIdx_step rfl ?_; go_big_quiet_step (fail); refine wpQuiet_nil ?_)
    refine qIdx_nil ?_
    clear a0 a1 a2 a3 a4 a5
    refine E_one (n := 14) (i := 1) (listed' := lst 17 [0, 1, 2]) (by kernel_rfl) rfl rfl (by kernel_rfl) ?_
    go_wp2_with fail
    refine (HRT.out _ HE.out).mono ?_
    rintro e w' ⟨u, rfl, ⟨cu1, rfl, hu1⟩, hE'⟩
    replace HE := Lib.hid (HE.out.trans hE'); replace HA := Lib.hid (hE'.heap HA.out)
    have HU1 := Lib.hid (hu1.mono (S' := fun _ => True) fun _ _ => trivial)
    clear hu1
    go_wp2_with fail
    refine ⟨hE', ?_⟩
    clear hE'
    refine E_one (n := 13) (i := 3) (listed' := lst 17 [0, 1, 2, 3]) (by kernel_rfl) rfl rfl (by kernel_rfl) ?_
    go_wp2_with fail
    refine (HCL.out _ HE.out).mono ?_
    rintro e w' ⟨u, rfl, ⟨cu2, rfl, hu2⟩, hE'⟩
    replace HE := Lib.hid (HE.out.trans hE'); replace HA := Lib.hid (hE'.heap HA.out)
    replace HU1 := Lib.hid (HU1.out.ext hE')
    have HU2 := Lib.hid (hu2.mono (S' := fun _ => True) fun _ _ => trivial)
    clear hu2
    go_wp2_with fail
    refine ⟨hE', ?_⟩
    clear hE'
    refine E_one (n := 12) (i := 4) (listed' := lst 17 [0, 1, 2, 3, 4]) (by kernel_rfl) rfl rfl (by kernel_rfl) ?_
    go_wp2_with fail
    refine (sameSpec_c _ _ cu1 cu2 _ _ _ HU1.out HU2.out rfl).mono ?_
    rintro e w' ⟨u, rfl, rfl, hE'⟩
    replace HE := Lib.hid (HE.out.trans hE'); replace HA := Lib.hid (hE'.heap HA.out)
    clear HU1 HU2
    go_wp2_with fail
    refine ⟨hE', ?_⟩
    clear hE'
    have a0 := cell_of HA.out (i := 0) rfl; have a1 := cell_of HA.out (i := 1) rfl; have a2 := cell_of HA.out (i := 2) rfl; have a3 := cell_of HA.out (i := 3) rfl; have a4 := cell_of HA.out (i := 4) rfl; have a5 := cell_of HA.out (i := 5) rfl
    refine E_takes (listed' := lst 17 [0, 1, 2, 3, 4, 5, 6, 10]) [5, 6, 10] 9 (by kernel_rfl) (fun _ _ _ _ h => h) (by kernel_rfl) rfl (by kernel_rfl) ?_
    repeat (refine qIdx_step rfl ?_; go_big_quiet_step (fail); refine wpQuiet_nil ?_)
    refine qIdx_nil ?_
    clear a0 a1 a2 a3 a4 a5
    refine E_one (n := 8) (i := 7) (listed' := lst 17 [0, 1, 2, 3, 4, 5, 6, 7, 10]) (by kernel_rfl) rfl rfl (by kernel_rfl) ?_
    go_wp2_with fail
    refine (HRT.out _ HE.out).mono ?_
    rintro e w' ⟨u, rfl, ⟨cu, rfl, hu⟩, hE'⟩
    replace HE := Lib.hid (HE.out.trans hE'); replace HA := Lib.hid (hE'.heap HA.out)
    obtain ⟨ka1, kc1, la1, lc1, rfl, -, -, -, -, -⟩ := hu.open
    rw [Hnk.out]
    clear hu
    go_wp2_with fail
    refine ⟨hE', ?_⟩
    clear hE'
    refine E_takes (listed' := lst 17 [0, 1, 2, 3, 4, 5, 6, 7, 8, 9, 10]) [8, 9] 6 (by kernel_rfl) (fun _ _ _ _ h => h) (by kernel_rfl) rfl (by kernel_rfl) ?_
    repeat (refine qIdx_step rfl ?_; go_big_quiet_step (fail); refine wpQuiet_nil ?_)
    refine qIdx_nil ?_
    refine E_one (n := 5) (i := 11) (listed' := lst 17 [0, 1, 2, 3, 4, 5, 6, 7, 8, 9, 10, 11]) (by kernel_rfl) rfl rfl (by kernel_rfl) ?_
    go_wp2_with fail
    refine (HCL.out _ HE.out).mono ?_
    rintro e w' ⟨u, rfl, ⟨cu, rfl, hu⟩, hE'⟩
    replace HE := Lib.hid (HE.out.trans hE'); replace HA := Lib.hid (hE'.heap HA.out)
    obtain ⟨ka2, kc2, la2, lc2, rfl, -, -, -, -, -⟩ := hu.open
    rw [Hnk.out]
    clear hu
    go_wp2_with fail
    refine ⟨hE', ?_⟩
    clear hE'
    refine E_takes (listed' := lst 17 [0, 1, 2, 3, 4, 5, 6, 7, 8, 9, 10, 11, 12, 13, 14, 15, 16]) [12, 13, 14, 15, 16] 0 (by kernel_rfl) (fun _ _ _ _ h => h) (by kernel_rfl) rfl (by kernel_rfl) ?_
    repeat (refine qIdx_step rfl ?_; go_big_quiet_step (fail); refine wpQuiet_nil ?_)
    refine qIdx_nil ?_
    refine E_done (by kernel_rfl) ?_
    go_wp2
    go_ret
    exact ⟨_, rfl, rfl, HE.out⟩
end Go.Smd
