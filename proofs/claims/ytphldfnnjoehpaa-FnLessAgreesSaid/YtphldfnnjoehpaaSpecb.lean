/- spec.Clean: a value in its plain form. -/
import Derived.Test.YtphldfnnjoehpaaSpec
set_option linter.unusedSimpArgs false
namespace Go.Smd
open Go.RowKit Go.Proofs

theorem leaf_rep (S : Nat → Prop) (w : World) {kind n : Int} {f : Nat} {s : ByteArray} (ok : GVok kind n f s [] []) : RepGV S w (.mk kind n f s [] []) [.int .i64 kind, .int .i64 n, .float .f64 f, .string s, .slice none 0 0, .slice none 0 0] :=
  RepGV.close (keys := []) (l := []) ok (Nat.zero_le _) (Nat.zero_le _) RowOf.nil RowOf.nil

set_option maxRecDepth 100000 in
set_option maxHeartbeats 2000000 in
theorem clean_c : ∀ v, CleanC v := by
  intro v
  induction v using GV.ind with
  | h kind n f s keys l IH =>
  intro cs w S hv
  obtain ⟨ka, kc, la, lc, rfl, ok, hkc, hlc, hks, hls⟩ := hv.open
  obtain ⟨nk, hnk⟩ : ∃ n, keys.length = n := ⟨_, rfl⟩
  obtain ⟨nl, hnl⟩ : ∃ n, l.length = n := ⟨_, rfl⟩
  have hn := ok.okN
  have hf := ok.okF
  have hs := ok.okS
  have h2 := ok.okL
  have HC : Hid (clean (.mk kind n f s keys l) = if kind = 1 then .mk 1 (if n = 0 then 0 else 1) 0 ⟨#[]⟩ [] [] else if kind = 2 then .mk 2 n 0 ⟨#[]⟩ [] [] else if kind = 3 then .mk 3 0 f ⟨#[]⟩ [] []
    else if kind = 4 then .mk 4 0 0 s [] [] else if kind = 5 then .mk 5 0 0 ⟨#[]⟩ [] (cleans l) else if kind = 6 then mkMap (insAll keys (cleans l) []) else .mk 0 0 0 ⟨#[]⟩ [] []) := clean.eq_1 ..
  generalize hcl : clean (.mk kind n f s keys l) = cl at HC ⊢
  rw [hnk, hnl] at hv ⊢
  have Hk := Lib.hid hnk; have Hl := Lib.hid hnl
  have hE0 : Ext w ((w.alloc (.cells #[.int .i64 kind, .int .i64 n, .float .f64 f, .string s, .slice ka nk kc, .slice la nl lc] 26)).alloc (.cells #[.int .i64 0, .int .i64 0, .float .f64 0, .string ⟨#[]⟩, .slice none 0 0, .slice none 0 0] 26)) := ((Ext.refl w).alloc _).alloc _
  have hA0 := old_at (.cells #[.int .i64 0, .int .i64 0, .float .f64 0, .string ⟨#[]⟩, .slice none 0 0, .slice none 0 0] 26) (new_at (w := w) (.cells #[.int .i64 kind, .int .i64 n, .float .f64 f, .string s, .slice ka nk kc, .slice la nl lc] 26) rfl)
  have hB0 := new_at (w := w.alloc (.cells #[.int .i64 kind, .int .i64 n, .float .f64 f, .string s, .slice ka nk kc, .slice la nl lc] 26)) (.cells #[.int .i64 0, .int .i64 0, .float .f64 0, .string ⟨#[]⟩, .slice none 0 0, .slice none 0 0] 26) (size_alloc _ _)
  have hz0 : w.heap.size + 2 ≤ ((w.alloc (.cells #[.int .i64 kind, .int .i64 n, .float .f64 f, .string s, .slice ka nk kc, .slice la nl lc] 26)).alloc (.cells #[.int .i64 0, .int .i64 0, .float .f64 0, .string ⟨#[]⟩, .slice none 0 0, .slice none 0 0] 26)).heap.size := by simp only [size_alloc]; omega
  go_enter Try.func19, Try.ntmps19
  go_upto_region 1 with fail
  generalize (w.alloc (.cells #[.int .i64 kind, .int .i64 n, .float .f64 f, .string s, .slice ka nk kc, .slice la nl lc] 26)).alloc (.cells #[.int .i64 0, .int .i64 0, .float .f64 0, .string ⟨#[]⟩, .slice none 0 0, .slice none 0 0] 26) = w2 at hE0 hA0 hB0 hz0 ⊢
  have HV := Lib.hid (hv.ext hE0); have HLS := Lib.hid (RepGVs.ext hls hE0)
  have a0 := cell_of hA0 (i := 0) rfl; have a1 := cell_of hA0 (i := 1) rfl; have a2 := cell_of hA0 (i := 2) rfl; have a3 := cell_of hA0 (i := 3) rfl; have a4 := cell_of hA0 (i := 4) rfl; have a5 := cell_of hA0 (i := 5) rfl
  have HE := Lib.hid hE0; have HB := Lib.hid hB0
  clear hv hls hks ok hE0 hA0 hB0 hkc hlc hcl
  have SN : ∀ v0 v1 v2 v3 v4 v5, Hid ((six w2 (w.heap.size + 1) v0 v1 v2 v3 v4 v5).heap[w.heap.size + 1]? = some (.cells #[v0, v1, v2, v3, v4, v5] 26 (0, 0)) ∧ Ext w (six w2 (w.heap.size + 1) v0 v1 v2 v3 v4 v5)) := fun v0 v1 v2 v3 v4 v5 => ⟨six_at HB.out _ _ _ _ _ _, six_ext HE.out (by omega) _ _ _ _ _ _⟩
  by_cases k6 : kind = 6
  · subst k6
    go_wp2_with fail
    refine (plainMapS_step 6 n f s keys l IH _ _ S HV.out).mono ?_
    rintro e w1 ⟨u, rfl, ⟨cu, rfl, hu⟩, hE1⟩
    have hE2 := HE.out.trans hE1
    have HB1 := Lib.hid (hE1.heap HB.out)
    obtain ⟨f0, f1, f2, f3, f4, f5, rfl⟩ := hu.list6
    obtain ⟨p0, p1, p2, p3, p4, p5⟩ := hu.six
    have HQ : Hid ((six w1 (w.heap.size + 1) f0 f1 f2 f3 f4 f5).heap[w.heap.size + 1]? = some (.cells #[f0, f1, f2, f3, f4, f5] 26 (0, 0))) := six_at HB1.out _ _ _ _ _ _
    have HEq : Hid (Ext w (six w1 (w.heap.size + 1) f0 f1 f2 f3 f4 f5)) := six_ext hE2 (by omega) _ _ _ _ _ _
    have HRq : Hid (RepGV (w.heap.size ≤ ·) (six w1 (w.heap.size + 1) f0 f1 f2 f3 f4 f5) (mkMap (insAll keys (cleans l) [])) [f0, f1, f2, f3, f4, f5]) := RepGV.frame (S' := (w.heap.size ≤ ·)) ((six_same w1 (w.heap.size + 1) _ _ _ _ _ _).mono fun b hb => by omega) (fun b hb => by omega) hu
    clear hu hE1 hE2
    have hz : ∀ o, w1.frozen? ⟨w.heap.size + 1, o, none⟩ = false := fun o => by simp [World.frozen?, HB1.out]
    have g0 := cell_of HB1.out (i := 0) rfl; have g1 := cell_of HB1.out (i := 1) rfl; have g2 := cell_of HB1.out (i := 2) rfl; have g3 := cell_of HB1.out (i := 3) rfl; have g4 := cell_of HB1.out (i := 4) rfl; have g5 := cell_of HB1.out (i := 5) rfl
    go_wp2
    (try simp only [Exit.inBlock, Exit.then]); refine bodyPost_ret (res6 Try.results19 rfl HQ.out) rfl ?_
    exact ⟨_, rfl, ⟨_, rfl, by have := HC.out; simp only [reduceIte, Int.reduceEq] at this; rw [this]; exact HRq.out⟩, HEq.out⟩
  by_cases k5 : kind = 5
  · subst k5
    go_wp2_with fail
    refine (plainList_step l IH la nl lc _ S HLS.out Hl.out (by omega)).mono ?_
    rintro e w1 ⟨u, rfl, ⟨A', c', rfl, hc', hu⟩, hE1⟩
    have hE2 := HE.out.trans hE1
    have HB1 := Lib.hid (hE1.heap HB.out)
    have HQ : Hid ((six w1 (w.heap.size + 1) (.int .i64 5) (.int .i64 0) (.float .f64 0) (.string ⟨#[]⟩) (.slice none 0 0) (.slice A' nl c')).heap[w.heap.size + 1]? = some (.cells #[.int .i64 5, .int .i64 0, .float .f64 0, .string ⟨#[]⟩, .slice none 0 0, .slice A' nl c'] 26 (0, 0))) := six_at HB1.out _ _ _ _ _ _
    have HEq : Hid (Ext w (six w1 (w.heap.size + 1) (.int .i64 5) (.int .i64 0) (.float .f64 0) (.string ⟨#[]⟩) (.slice none 0 0) (.slice A' nl c'))) := six_ext hE2 (by omega) _ _ _ _ _ _
    have hll : (cleans l).length = nl := by rw [cleans_eq, List.length_map, Hl.out]
    have HRq : Hid (RepGV (w.heap.size ≤ ·) (six w1 (w.heap.size + 1) (.int .i64 5) (.int .i64 0) (.float .f64 0) (.string ⟨#[]⟩) (.slice none 0 0) (.slice A' nl c')) (.mk 5 0 0 ⟨#[]⟩ [] (cleans l)) [.int .i64 5, .int .i64 0, .float .f64 0, .string ⟨#[]⟩, .slice none 0 0, .slice A' nl c']) := by
      have hr := RepGVs.frame (S' := (w.heap.size ≤ ·)) hu ((six_same w1 (w.heap.size + 1) (.int .i64 5) (.int .i64 0) (.float .f64 0) (.string ⟨#[]⟩) (.slice none 0 0) (.slice A' nl c')).mono fun b hb => by omega) (fun b hb => by omega)
      have := RepGV.close (keys := []) (l := cleans l) (kind := 5) (n := 0) (f := 0) (s := ⟨#[]⟩) (ka := none) (kc := 0) (lc := c') ⟨by omega, by omega, by omega, Nat.zero_le _, by simp, by simp, by rw [hll]; omega⟩ (Nat.zero_le _) (by omega) RowOf.nil hr
      rw [hll] at this; exact this
    clear hu hE1 hE2
    have hz : ∀ o, w1.frozen? ⟨w.heap.size + 1, o, none⟩ = false := fun o => by simp [World.frozen?, HB1.out]
    have g0 := cell_of HB1.out (i := 0) rfl; have g1 := cell_of HB1.out (i := 1) rfl; have g2 := cell_of HB1.out (i := 2) rfl; have g3 := cell_of HB1.out (i := 3) rfl; have g4 := cell_of HB1.out (i := 4) rfl; have g5 := cell_of HB1.out (i := 5) rfl
    go_wp2
    (try simp only [Exit.inBlock, Exit.then]); refine bodyPost_ret (res6 Try.results19 rfl HQ.out) rfl ?_
    exact ⟨_, rfl, ⟨_, rfl, by have := HC.out; simp only [reduceIte, Int.reduceEq] at this; rw [this]; exact HRq.out⟩, HEq.out⟩
  have hz : ∀ o, w2.frozen? ⟨w.heap.size + 1, o, none⟩ = false := fun o => by simp [World.frozen?, HB.out]
  have g0 := cell_of HB.out (i := 0) rfl; have g1 := cell_of HB.out (i := 1) rfl; have g2 := cell_of HB.out (i := 2) rfl; have g3 := cell_of HB.out (i := 3) rfl; have g4 := cell_of HB.out (i := 4) rfl; have g5 := cell_of HB.out (i := 5) rfl
  by_cases k1 : kind = 1
  · subst k1
    by_cases n0 : n = 0
    · subst n0
      go_wp2
      (try simp only [Exit.inBlock, Exit.then]); refine bodyPost_ret (res6 Try.results19 rfl (SN (.int .i64 1) (.int .i64 0) (.float .f64 0) (.string ⟨#[]⟩) (.slice none 0 0) (.slice none 0 0)).out.1) rfl ?_
      exact ⟨_, rfl, ⟨_, rfl, by have := HC.out; simp only [reduceIte, Int.reduceEq] at this; rw [this]; exact leaf_rep _ _ ⟨by omega, by omega, by omega, Nat.zero_le _, by simp, by simp, by simp⟩⟩, (SN _ _ _ _ _ _).out.2⟩
    · have hnn : (n == 0) = false := by simp [n0]
      go_wp2
      (try simp only [Exit.inBlock, Exit.then]); refine bodyPost_ret (res6 Try.results19 rfl (SN (.int .i64 1) (.int .i64 1) (.float .f64 0) (.string ⟨#[]⟩) (.slice none 0 0) (.slice none 0 0)).out.1) rfl ?_
      exact ⟨_, rfl, ⟨_, rfl, by have := HC.out; simp only [reduceIte, Int.reduceEq, n0] at this; rw [this]; exact leaf_rep _ _ ⟨by omega, by omega, by omega, Nat.zero_le _, by simp, by simp, by simp⟩⟩, (SN _ _ _ _ _ _).out.2⟩
  by_cases k2 : kind = 2
  · subst k2
    go_wp2
    (try simp only [Exit.inBlock, Exit.then]); refine bodyPost_ret (res6 Try.results19 rfl (SN (.int .i64 2) (.int .i64 n) (.float .f64 0) (.string ⟨#[]⟩) (.slice none 0 0) (.slice none 0 0)).out.1) rfl ?_
    exact ⟨_, rfl, ⟨_, rfl, by have := HC.out; simp only [reduceIte, Int.reduceEq] at this; rw [this]; exact leaf_rep _ _ ⟨by omega, by omega, by omega, Nat.zero_le _, by simp, by simp, by simp⟩⟩, (SN _ _ _ _ _ _).out.2⟩
  by_cases k3 : kind = 3
  · subst k3
    go_wp2
    (try simp only [Exit.inBlock, Exit.then]); refine bodyPost_ret (res6 Try.results19 rfl (SN (.int .i64 3) (.int .i64 0) (.float .f64 f) (.string ⟨#[]⟩) (.slice none 0 0) (.slice none 0 0)).out.1) rfl ?_
    exact ⟨_, rfl, ⟨_, rfl, by have := HC.out; simp only [reduceIte, Int.reduceEq] at this; rw [this]; exact leaf_rep _ _ ⟨by omega, by omega, by omega, Nat.zero_le _, by simp, by simp, by simp⟩⟩, (SN _ _ _ _ _ _).out.2⟩
  by_cases k4 : kind = 4
  · subst k4
    go_wp2
    (try simp only [Exit.inBlock, Exit.then]); refine bodyPost_ret (res6 Try.results19 rfl (SN (.int .i64 4) (.int .i64 0) (.float .f64 0) (.string s) (.slice none 0 0) (.slice none 0 0)).out.1) rfl ?_
    exact ⟨_, rfl, ⟨_, rfl, by have := HC.out; simp only [reduceIte, Int.reduceEq] at this; rw [this]; exact leaf_rep _ _ ⟨by omega, by omega, by omega, by omega, by simp, by simp, by simp⟩⟩, (SN _ _ _ _ _ _).out.2⟩
  have b1 : (kind == 1) = false := by simp [k1]
  have b2 : (kind == 2) = false := by simp [k2]
  have b3 : (kind == 3) = false := by simp [k3]
  have b4 : (kind == 4) = false := by simp [k4]
  have b5 : (kind == 5) = false := by simp [k5]
  have b6 : (kind == 6) = false := by simp [k6]
  go_wp2
  (try simp only [Exit.inBlock, Exit.then]); refine bodyPost_ret (res6 Try.results19 rfl (SN (.int .i64 0) (.int .i64 0) (.float .f64 0) (.string ⟨#[]⟩) (.slice none 0 0) (.slice none 0 0)).out.1) rfl ?_
  exact ⟨_, rfl, ⟨_, rfl, by have := HC.out; rw [if_neg k1, if_neg k2, if_neg k3, if_neg k4, if_neg k5, if_neg k6] at this; rw [this]; exact leaf_rep _ _ ⟨by omega, by omega, by omega, Nat.zero_le _, by simp, by simp, by simp⟩⟩, (SN _ _ _ _ _ _).out.2⟩
end Go.Smd
