/- spec.WithField. -/
import Derived.Test.YtphldfnnjoehpaaClean
set_option linter.unusedSimpArgs false
namespace Go.Smd
open Go.RowKit Go.Proofs

set_option maxRecDepth 100000 in
set_option maxHeartbeats 4000000 in
theorem withField_c (kind n : Int) (f : Nat) (s : ByteArray) (fs : List (ByteArray × GV)) (key : ByteArray) (v : GV) (cs cv : List Value) (w : World) (S : Nat → Prop)
    (hm : RepGV S w (.mk kind n f s (fs.map (·.1)) (fs.map (·.2))) cs) (hv : RepGV S w v cv) (hsort : Sorted fs) (hroom : (fs.length + 1) * 88 ≤ 140737488351232) (hkey : key.size ≤ 140737488351232) :
    Calls Try.prog 48 #[.agg cs.toArray, .string key, .agg cv.toArray] w (Makes (fun W u => ∃ cs', u = .agg cs'.toArray ∧ RepGV (fun b => S b ∨ w.heap.size ≤ b) W (mkMap (sIns key v fs)) cs') w) := by
  have hm0 := hm.lt
  have hv0 := hv.lt
  obtain ⟨ka, kc, la, lc, rfl, ok, hkc, hlc, hks, hls⟩ := hm0.open
  have hm1 := Lib.hid hm
  obtain ⟨d0, d1, d2, d3, d4, d5, rfl⟩ : ∃ d0 d1 d2 d3 d4 d5, cv = [d0, d1, d2, d3, d4, d5] := by
    match cv, hv.length with
    | [d0, d1, d2, d3, d4, d5], _ => exact ⟨d0, d1, d2, d3, d4, d5, rfl⟩
  obtain ⟨o0, o1, o2, o3, o4, o5⟩ := hv.six
  obtain ⟨m, hmdef⟩ : ∃ m, lower key (fs.map (·.1)) = m := ⟨_, rfl⟩
  have hml := lower_le key (fs.map (·.1))
  rw [hmdef] at hml
  obtain ⟨nk, hnk⟩ : ∃ n, fs.length = n := ⟨_, rfl⟩
  simp only [List.length_map, hnk] at hml hkc hlc hroom ⊢
  obtain ⟨ok', hokd⟩ : ∃ b : Bool, decide ((fs.map (·.1))[m]? = some key) = b := ⟨_, rfl⟩
  have HFS : Hid (∀ ks ls, fs.map (·.1) = ks → fs.map (·.2) = ls → ks = fs.map (·.1) ∧ ls = fs.map (·.2)) := fun ks ls h1 h2 => ⟨h1.symm, h2.symm⟩
  have HS := Lib.hid hsort
  have hkl : (fs.map (·.1)).length = nk := by simp [hnk]
  have hll : (fs.map (·.2)).length = nk := by simp [hnk]
  have hsort' : (fs.map (·.1)).Pairwise fun a b => blt a b = true := hsort
  clear hsort
  generalize hK : fs.map (·.1) = ks at *
  generalize hL : fs.map (·.2) = ls at *
  have HK := Lib.hid hK; have HL := Lib.hid hL; have Hkl := Lib.hid hkl; have Hll := Lib.hid hll; have HSo := Lib.hid hsort'
  have Hm := Lib.hid hmdef; have Hn := Lib.hid hnk; have Ho := Lib.hid hokd
  have Hok := Lib.hid ok
  clear hm hv hmdef hnk hokd ok hK hL hkl hll hsort' HFS
  go_enter Try.func48, Try.ntmps48
  go_wp2_with fail
  have hE0 : Ext w (((w.alloc (.cells #[.int .i64 kind, .int .i64 n, .float .f64 f, .string s, .slice ka nk kc, .slice la nk lc] 26)).alloc (.cells #[d0, d1, d2, d3, d4, d5] 26)).alloc (.cells #[.int .i64 0, .int .i64 0, .float .f64 0, .string ⟨#[]⟩, .slice none 0 0, .slice none 0 0] 26)) := (((Ext.refl w).alloc _).alloc _).alloc _
  have hb0 := old_at (.cells #[.int .i64 0, .int .i64 0, .float .f64 0, .string ⟨#[]⟩, .slice none 0 0, .slice none 0 0] 26) (old_at (.cells #[d0, d1, d2, d3, d4, d5] 26) (new_at (w := w) (.cells #[.int .i64 kind, .int .i64 n, .float .f64 f, .string s, .slice ka nk kc, .slice la nk lc] 26) rfl))
  have hb1 := old_at (.cells #[.int .i64 0, .int .i64 0, .float .f64 0, .string ⟨#[]⟩, .slice none 0 0, .slice none 0 0] 26) (new_at (w := w.alloc (.cells #[.int .i64 kind, .int .i64 n, .float .f64 f, .string s, .slice ka nk kc, .slice la nk lc] 26)) (.cells #[d0, d1, d2, d3, d4, d5] 26) (size_alloc w _))
  have hb2 := new_at (w := (w.alloc (.cells #[.int .i64 kind, .int .i64 n, .float .f64 f, .string s, .slice ka nk kc, .slice la nk lc] 26)).alloc (.cells #[d0, d1, d2, d3, d4, d5] 26)) (.cells #[.int .i64 0, .int .i64 0, .float .f64 0, .string ⟨#[]⟩, .slice none 0 0, .slice none 0 0] 26) (by rw [size_alloc, size_alloc])
  refine (fieldIndex_c kind n f s ks ls key [.int .i64 kind, .int .i64 n, .float .f64 f, .string s, .slice ka nk kc, .slice la nk lc] _ _ (by have := hm1.out.ext hE0; rw [Hkl.out, Hll.out] at this; exact this) HSo.out).mono ?_
  rintro e w1 ⟨u, rfl, hu, hE1⟩
  rw [Hm.out, Ho.out] at hu
  subst hu
  have hE1' := hE0.trans hE1
  have hb0' := hE1.heap hb0; have hb1' := hE1.heap hb1; have hb2' := hE1.heap hb2
  clear hE0 hb0 hb1 hb2 hE1
  go_wp2
  have HO : OutSt w1 (fun b => S b ∧ b < w.heap.size) w1.heap.size (w1.alloc (.cells #[.int .i64 6, .int .i64 0, .float .f64 0, .string ⟨#[]⟩, .slice none 0 0, .slice none 0 0] 26)) (.slice none 0 0) (.slice none 0 0) [] [] :=
    ⟨Nat.le_refl _, fun b hb => by have := hE1'.size; omega, (Ext.refl w1).alloc _, by rw [size_alloc]; omega, new_at _ rfl, Build.nil, Build.nil⟩
  have Hsz := Lib.hid hE1'.size
  generalize hbo : w1.heap.size = bo at HO Hsz ⊢
  generalize w1.alloc (.cells #[.int .i64 6, .int .i64 0, .float .f64 0, .string ⟨#[]⟩, .slice none 0 0, .slice none 0 0] 26) = w2 at HO ⊢
  have Hbo := Lib.hid hbo; clear hbo
  have Hb0 := Lib.hid hb0'; have Hb1 := Lib.hid hb1'; have Hb2 := Lib.hid hb2'; have HE1 := Lib.hid hE1'
  clear hb0' hb1' hb2' hE1'
  have HO1 := Lib.hid HO; clear HO
  have hml1 : (m : Int) ≤ (kc : Int) := by omega
  have hml2 : (m : Int) ≤ (lc : Int) := by omega
  have hml0 : (0 : Int) ≤ (m : Int) := by omega
  have Hks := Lib.hid hks; have Hls := Lib.hid hls; have Hv := Lib.hid hv0
  clear hks hls hv0
  have ck := cell_of HO1.out.out (i := 4) rfl
  have c4 := HO1.out.ext.cell (cell_of Hb0.out (i := 4) rfl)
  refine wp_region_E [6, 8] (by kernel_rfl) ?_
  refine E_takes (listed' := lst 9 [0, 1, 2, 3, 4, 5]) [0, 1, 2, 3, 4, 5] 3 (by kernel_rfl) (fun _ _ _ _ h => h) (by kernel_rfl) rfl (by kernel_rfl) ?_
  repeat (refine qIdx_step rfl ?_; go_big_quiet_step (fail); refine wpQuiet_nil ?_)
  refine qIdx_nil ?_
  obtain ⟨_, w3, hrun, ⟨A1, c1, rfl⟩, hc, hfz, HO⟩ := HO1.out.drew.appK (A := ka) (n := m) (c := kc) (N := m) (ys := ks.take m) (by simp [Hkl.out]; omega) (((RowOf.take ((Hks.out.ext HE1.out).ext HO1.out.drew.ext) m : RepStrs (fun b => S b ∧ b < w.heap.size) _ _ _))) (by simp only [List.length_append, List.length_nil, List.length_take, List.length_drop, List.length_singleton, Hkl.out, Hll.out]; omega) (by omega)
  have HR := Lib.hid hrun; have HO2 := Lib.hid HO; clear hrun HO ck c4
  refine E_bar (n := 2) (i := 6) (listed' := lst 9 [0, 1, 2, 3, 4, 5, 6]) (by kernel_rfl) rfl rfl rfl (by kernel_rfl) ?_
  refine wpList_append_run HR.out rfl rfl rfl rfl ?_
  refine E_end ?_
  simp only [Act.put, List.setIfInBounds_toArray, List.set_cons_zero, List.set_cons_succ]
  refine E_takes (listed' := lst 9 [0, 1, 2, 3, 4, 5, 6, 7]) [7] 1 (by kernel_rfl) (fun _ _ _ _ h => h) (by kernel_rfl) rfl (by kernel_rfl) ?_
  repeat (refine qIdx_step rfl ?_; go_big_quiet_step (fail); refine wpQuiet_nil ?_)
  refine qIdx_nil ?_
  refine E_bar (n := 0) (i := 8) (listed' := lst 9 [0, 1, 2, 3, 4, 5, 6, 7, 8]) (by kernel_rfl) rfl rfl rfl (by kernel_rfl) ?_
  go_wp2
  refine E_done (by kernel_rfl) ?_
  clear hc hfz HR
  generalize w3.setCell ⟨bo, 4, none⟩ (Value.slice A1 m c1) = w3' at HO2 ⊢
  go_wp2
  have ck := cell_of HO2.out.out (i := 5) rfl
  have c4 := HO2.out.ext.cell (cell_of Hb0.out (i := 5) rfl)
  refine wp_region_E [6, 8] (by kernel_rfl) ?_
  refine E_takes (listed' := lst 9 [0, 1, 2, 3, 4, 5]) [0, 1, 2, 3, 4, 5] 3 (by kernel_rfl) (fun _ _ _ _ h => h) (by kernel_rfl) rfl (by kernel_rfl) ?_
  repeat (refine qIdx_step rfl ?_; go_big_quiet_step (fail); refine wpQuiet_nil ?_)
  refine qIdx_nil ?_
  obtain ⟨_, w4, hrun, ⟨A2, c2, rfl⟩, hc, hfz, HO⟩ := HO2.out.drew.appL (A := la) (n := m) (c := lc) (N := m) (ys := ls.take m) (by simp [Hll.out]; omega) (((RowOf.take ((Hls.out.ext HE1.out).ext HO2.out.drew.ext) m : RepGVs (fun b => S b ∧ b < w.heap.size) _ _ _))) (by simp only [List.length_append, List.length_nil, List.length_take, List.length_drop, List.length_singleton, Hkl.out, Hll.out]; omega) (by omega)
  have HR := Lib.hid hrun; have HO3 := Lib.hid HO; clear hrun HO ck c4
  refine E_bar (n := 2) (i := 6) (listed' := lst 9 [0, 1, 2, 3, 4, 5, 6]) (by kernel_rfl) rfl rfl rfl (by kernel_rfl) ?_
  refine wpList_append_run HR.out rfl rfl rfl rfl ?_
  refine E_end ?_
  simp only [Act.put, List.setIfInBounds_toArray, List.set_cons_zero, List.set_cons_succ]
  refine E_takes (listed' := lst 9 [0, 1, 2, 3, 4, 5, 6, 7]) [7] 1 (by kernel_rfl) (fun _ _ _ _ h => h) (by kernel_rfl) rfl (by kernel_rfl) ?_
  repeat (refine qIdx_step rfl ?_; go_big_quiet_step (fail); refine wpQuiet_nil ?_)
  refine qIdx_nil ?_
  refine E_bar (n := 0) (i := 8) (listed' := lst 9 [0, 1, 2, 3, 4, 5, 6, 7, 8]) (by kernel_rfl) rfl rfl rfl (by kernel_rfl) ?_
  go_wp2
  refine E_done (by kernel_rfl) ?_
  clear hc hfz HR
  generalize w4.setCell ⟨bo, 5, none⟩ (Value.slice A2 m c2) = w4' at HO3 ⊢
  have ck := cell_of HO3.out.out (i := 4) rfl
  obtain ⟨_, w5, hrun, ⟨A3, c3, rfl⟩, hc, hfz, HO⟩ := HO3.out.pushK key (N := m + 1) (by simp [Hkl.out]; omega) (by omega)
  have HR := Lib.hid hrun; have HO4 := Lib.hid HO; clear hrun HO
  go_upto_region 6 with (at_builtin; refine wpList_append_run HR.out rfl rfl rfl rfl ?_)
  clear HR hc hfz ck
  generalize w5.setCell ⟨bo, 4, none⟩ (Value.slice A3 (m + 1) c3) = w5' at HO4 ⊢
  have hd := fun i (v : Value) (hi : #[d0, d1, d2, d3, d4, d5][i]? = some v) => HO4.out.ext.cell (cell_of Hb1.out hi)
  have hd0 := hd 0 d0 rfl; have hd1 := hd 1 d1 rfl; have hd2 := hd 2 d2 rfl; have hd3 := hd 3 d3 rfl; have hd4 := hd 4 d4 rfl; have hd5 := hd 5 d5 rfl
  clear hd
  have cl := cell_of HO4.out.out (i := 5) rfl
  obtain ⟨_, w6, hrun, ⟨A4, c4, rfl⟩, hc, hfz, HO⟩ := HO4.out.pushL ((Hv.out.ext HE1.out).ext HO4.out.ext) (N := m + 1) (by simp [Hll.out]; omega) (by omega)
  have HR := Lib.hid hrun; have HO5 := Lib.hid HO; clear hrun HO
  go_upto_region 7 with (at_builtin; refine wpList_append_run HR.out rfl rfl rfl rfl ?_)
  clear HR hc hfz cl hd0 hd1 hd2 hd3 hd4 hd5
  generalize w6.setCell ⟨bo, 5, none⟩ (Value.slice A4 (m + 1) c4) = w6' at HO5 ⊢
  cases ok' with
  | true =>
    have hlt : m < nk := by have := of_decide_eq_true Ho.out; have := (List.getElem?_eq_some_iff.1 this).1; rw [Hkl.out] at this; exact this
    obtain ⟨A5, hcut, hA5⟩ := slice_from (P := Try.prog) 23 9 (size := 1) Try.underlying23 (by kernel_rfl) ka nk kc (m + 1) ((m : Int) + 1) (by omega) (by omega)
    obtain ⟨A6, hcut2, hA6⟩ := slice_from (P := Try.prog) 24 26 (size := 6) Try.underlying24 (by kernel_rfl) la nk lc (m + 1) ((m : Int) + 1) (by omega) (by omega)
    have HA5 : Hid (∀ W, RowOf RStr 1 (fun b => S b ∧ b < w.heap.size) W ka ks → RowOf RStr 1 (fun b => S b ∧ b < w.heap.size) W A5 (ks.drop (m + 1))) := fun W h => hA5 (by rw [Hkl.out]; omega) h
    have HA6 : Hid (∀ W, RepGVs (fun b => S b ∧ b < w.heap.size) W la ls → RepGVs (fun b => S b ∧ b < w.heap.size) W A6 (ls.drop (m + 1))) := fun W h => hA6 (by rw [Hll.out]; omega) h
    clear hA5 hA6
    go_wp2
    have ck := cell_of HO5.out.out (i := 4) rfl
    have c4 := HO5.out.ext.cell (cell_of Hb0.out (i := 4) rfl)
    refine wp_region_E [6, 8] (by kernel_rfl) ?_
    refine E_takes (listed' := lst 9 [0, 1, 2, 3, 4, 5]) [0, 1, 2, 3, 4, 5] 3 (by kernel_rfl) (fun _ _ _ _ h => h) (by kernel_rfl) rfl (by kernel_rfl) ?_
    repeat (refine qIdx_step rfl ?_; go_big_quiet_step (fail); refine wpQuiet_nil ?_)
    refine qIdx_nil ?_
    obtain ⟨_, w7, hrun, ⟨A7, c7, rfl⟩, hc, hfz, HO⟩ := HO5.out.drew.appK (A := A5) (n := nk - (m + 1)) (c := kc - (m + 1)) (N := m + 1 + (nk - (m + 1))) (ys := ks.drop (m + 1)) (by simp [Hkl.out]) ((HA5.out _ ((Hks.out.ext HE1.out).ext HO5.out.drew.ext))) (by simp only [List.length_append, List.length_nil, List.length_take, List.length_drop, List.length_singleton, Hkl.out, Hll.out]; omega) (by omega)
    have HR := Lib.hid hrun; have HO6 := Lib.hid HO; clear hrun HO ck c4
    refine E_bar (n := 2) (i := 6) (listed' := lst 9 [0, 1, 2, 3, 4, 5, 6]) (by kernel_rfl) rfl rfl rfl (by kernel_rfl) ?_
    refine wpList_append_run HR.out rfl rfl rfl rfl ?_
    refine E_end ?_
    simp only [Act.put, List.setIfInBounds_toArray, List.set_cons_zero, List.set_cons_succ]
    refine E_takes (listed' := lst 9 [0, 1, 2, 3, 4, 5, 6, 7]) [7] 1 (by kernel_rfl) (fun _ _ _ _ h => h) (by kernel_rfl) rfl (by kernel_rfl) ?_
    repeat (refine qIdx_step rfl ?_; go_big_quiet_step (fail); refine wpQuiet_nil ?_)
    refine qIdx_nil ?_
    refine E_bar (n := 0) (i := 8) (listed' := lst 9 [0, 1, 2, 3, 4, 5, 6, 7, 8]) (by kernel_rfl) rfl rfl rfl (by kernel_rfl) ?_
    go_wp2
    refine E_done (by kernel_rfl) ?_
    clear hc hfz HR
    generalize w7.setCell ⟨bo, 4, none⟩ (Value.slice A7 _ c7) = w7' at HO6 ⊢
    go_wp2
    have ck := cell_of HO6.out.out (i := 5) rfl
    have c4 := HO6.out.ext.cell (cell_of Hb0.out (i := 5) rfl)
    refine wp_region_E [6, 8] (by kernel_rfl) ?_
    refine E_takes (listed' := lst 9 [0, 1, 2, 3, 4, 5]) [0, 1, 2, 3, 4, 5] 3 (by kernel_rfl) (fun _ _ _ _ h => h) (by kernel_rfl) rfl (by kernel_rfl) ?_
    repeat (refine qIdx_step rfl ?_; go_big_quiet_step (fail); refine wpQuiet_nil ?_)
    refine qIdx_nil ?_
    obtain ⟨_, w8, hrun, ⟨A8, c8, rfl⟩, hc, hfz, HO⟩ := HO6.out.drew.appL (A := A6) (n := nk - (m + 1)) (c := lc - (m + 1)) (N := m + 1 + (nk - (m + 1))) (ys := ls.drop (m + 1)) (by simp [Hll.out]) ((HA6.out _ ((Hls.out.ext HE1.out).ext HO6.out.drew.ext))) (by simp only [List.length_append, List.length_nil, List.length_take, List.length_drop, List.length_singleton, Hkl.out, Hll.out]; omega) (by omega)
    have HR := Lib.hid hrun; have HO7 := Lib.hid HO; clear hrun HO ck c4
    refine E_bar (n := 2) (i := 6) (listed' := lst 9 [0, 1, 2, 3, 4, 5, 6]) (by kernel_rfl) rfl rfl rfl (by kernel_rfl) ?_
    refine wpList_append_run HR.out rfl rfl rfl rfl ?_
    refine E_end ?_
    simp only [Act.put, List.setIfInBounds_toArray, List.set_cons_zero, List.set_cons_succ]
    refine E_takes (listed' := lst 9 [0, 1, 2, 3, 4, 5, 6, 7]) [7] 1 (by kernel_rfl) (fun _ _ _ _ h => h) (by kernel_rfl) rfl (by kernel_rfl) ?_
    repeat (refine qIdx_step rfl ?_; go_big_quiet_step (fail); refine wpQuiet_nil ?_)
    refine qIdx_nil ?_
    refine E_bar (n := 0) (i := 8) (listed' := lst 9 [0, 1, 2, 3, 4, 5, 6, 7, 8]) (by kernel_rfl) rfl rfl rfl (by kernel_rfl) ?_
    go_wp2
    refine E_done (by kernel_rfl) ?_
    clear hc hfz HR
    generalize w8.setCell ⟨bo, 5, none⟩ (Value.slice A8 _ c8) = w8' at HO7 ⊢
    have e0 := cell_of HO7.out.out (i := 0) rfl
    have e1 := cell_of HO7.out.out (i := 1) rfl
    have e2 := cell_of HO7.out.out (i := 2) rfl
    have e3 := cell_of HO7.out.out (i := 3) rfl
    have e4 := cell_of HO7.out.out (i := 4) rfl
    have e5 := cell_of HO7.out.out (i := 5) rfl
    have hq := fun i (v : Value) (hi : #[Value.int .i64 0, .int .i64 0, .float .f64 0, .string ⟨#[]⟩, .slice none 0 0, .slice none 0 0][i]? = some v) => HO7.out.ext.cell (cell_of Hb2.out hi)
    have q0 := hq 0 _ rfl; have q1 := hq 1 _ rfl; have q2 := hq 2 _ rfl; have q3 := hq 3 _ rfl; have q4 := hq 4 _ rfl; have q5 := hq 5 _ rfl
    have hz : ∀ o, w8'.frozen? ⟨w.heap.size + 1 + 1, o, none⟩ = false := fun o => by simp [World.frozen?, HO7.out.ext.heap Hb2.out]
    clear hq
    go_wp2
    have HE9 : Hid (Ext w (six w8' (w.heap.size + 1 + 1) (.int .i64 6) (.int .i64 0) (.float .f64 0) (.string ⟨#[]⟩) (.slice A7 (m + 1 + (nk - (m + 1))) c7) (.slice A8 (m + 1 + (nk - (m + 1))) c8))) := six_ext (HE1.out.trans HO7.out.ext) (by omega) _ _ _ _ _ _
    have HV9 : Hid (RepGV (fun b => S b ∨ w.heap.size ≤ b) (six w8' (w.heap.size + 1 + 1) (.int .i64 6) (.int .i64 0) (.float .f64 0) (.string ⟨#[]⟩) (.slice A7 (m + 1 + (nk - (m + 1))) c7) (.slice A8 (m + 1 + (nk - (m + 1))) c8)) (mkMap (sIns key v fs)) [.int .i64 6, .int .i64 0, .float .f64 0, .string ⟨#[]⟩, .slice A7 (m + 1 + (nk - (m + 1))) c7, .slice A8 (m + 1 + (nk - (m + 1))) c8]) := by
      have hks : (sIns key v fs).map (·.1) = [] ++ ks.take m ++ [key] ++ ks.drop (m + 1) := by
        rw [sIns_split, HK.out, Hm.out, if_pos (by simpa using Ho.out)]; rw [← HK.out]; simp [List.map_take, List.map_drop]
      have hls : (sIns key v fs).map (·.2) = [] ++ ls.take m ++ [v] ++ ls.drop (m + 1) := by
        rw [sIns_split, HK.out, Hm.out, if_pos (by simpa using Ho.out)]; rw [← HL.out]; simp [List.map_take, List.map_drop]
      have hlen : (sIns key v fs).length ≤ nk + 1 := by have := sIns_length key v fs; rw [Hn.out] at this; exact this
      have hd := HO7.out.done (by
        rw [← hks, ← hls]
        refine ⟨by omega, by omega, by omega, Nat.zero_le _, by rw [List.length_map]; omega, fun k hk => ?_, by rw [List.length_map]; omega⟩
        rw [hks] at hk
        rcases List.mem_append.1 hk with hk | hk
        · rcases List.mem_append.1 hk with hk | hk
          · exact Hok.out.okEach k (List.mem_of_mem_take (by simpa using hk))
          · simp at hk; rw [hk]; exact hkey
        · exact Hok.out.okEach k (List.mem_of_mem_drop hk))
      rw [← hks, ← hls] at hd
      have hsz := HE1.out.size
      have hb2 := (Array.getElem?_eq_some_iff.1 Hb2.out).1
      have hbo := Hbo.out
      refine RepGV.frame (S' := fun b => S b ∨ w.heap.size ≤ b) ((six_same w8' (w.heap.size + 1 + 1) _ _ _ _ _ _).mono fun b hb => ?_) (fun b hb => ?_) hd
      · rcases hb with hb | hb <;> omega
      · rcases hb with hb | hb
        · exact .inl hb.1
        · exact .inr (by omega)
    clear HO7
    refine bodyPost_ret (v := .agg #[.int .i64 6, .int .i64 0, .float .f64 0, .string ⟨#[]⟩, .slice A7 (m + 1 + (nk - (m + 1))) c7, .slice A8 (m + 1 + (nk - (m + 1))) c8]) (by simp [results, Try.results48, go_sem, q0, q1, q2, q3, q4, q5]) rfl ?_
    exact ⟨_, rfl, ⟨_, rfl, HV9.out⟩, HE9.out⟩
  | false =>
    have hlt : m ≤ nk := hml
    obtain ⟨A5, hcut, hA5⟩ := slice_from (P := Try.prog) 23 9 (size := 1) Try.underlying23 (by kernel_rfl) ka nk kc (m) ((m : Int)) (by omega) (by omega)
    obtain ⟨A6, hcut2, hA6⟩ := slice_from (P := Try.prog) 24 26 (size := 6) Try.underlying24 (by kernel_rfl) la nk lc (m) ((m : Int)) (by omega) (by omega)
    have HA5 : Hid (∀ W, RowOf RStr 1 (fun b => S b ∧ b < w.heap.size) W ka ks → RowOf RStr 1 (fun b => S b ∧ b < w.heap.size) W A5 (ks.drop (m))) := fun W h => hA5 (by rw [Hkl.out]; omega) h
    have HA6 : Hid (∀ W, RepGVs (fun b => S b ∧ b < w.heap.size) W la ls → RepGVs (fun b => S b ∧ b < w.heap.size) W A6 (ls.drop (m))) := fun W h => hA6 (by rw [Hll.out]; omega) h
    clear hA5 hA6
    go_wp2
    have ck := cell_of HO5.out.out (i := 4) rfl
    have c4 := HO5.out.ext.cell (cell_of Hb0.out (i := 4) rfl)
    refine wp_region_E [6, 8] (by kernel_rfl) ?_
    refine E_takes (listed' := lst 9 [0, 1, 2, 3, 4, 5]) [0, 1, 2, 3, 4, 5] 3 (by kernel_rfl) (fun _ _ _ _ h => h) (by kernel_rfl) rfl (by kernel_rfl) ?_
    repeat (refine qIdx_step rfl ?_; go_big_quiet_step (fail); refine wpQuiet_nil ?_)
    refine qIdx_nil ?_
    obtain ⟨_, w7, hrun, ⟨A7, c7, rfl⟩, hc, hfz, HO⟩ := HO5.out.drew.appK (A := A5) (n := nk - (m)) (c := kc - (m)) (N := m + 1 + (nk - (m))) (ys := ks.drop (m)) (by simp [Hkl.out]) ((HA5.out _ ((Hks.out.ext HE1.out).ext HO5.out.drew.ext))) (by simp only [List.length_append, List.length_nil, List.length_take, List.length_drop, List.length_singleton, Hkl.out, Hll.out]; omega) (by omega)
    have HR := Lib.hid hrun; have HO6 := Lib.hid HO; clear hrun HO ck c4
    refine E_bar (n := 2) (i := 6) (listed' := lst 9 [0, 1, 2, 3, 4, 5, 6]) (by kernel_rfl) rfl rfl rfl (by kernel_rfl) ?_
    refine wpList_append_run HR.out rfl rfl rfl rfl ?_
    refine E_end ?_
    simp only [Act.put, List.setIfInBounds_toArray, List.set_cons_zero, List.set_cons_succ]
    refine E_takes (listed' := lst 9 [0, 1, 2, 3, 4, 5, 6, 7]) [7] 1 (by kernel_rfl) (fun _ _ _ _ h => h) (by kernel_rfl) rfl (by kernel_rfl) ?_
    repeat (refine qIdx_step rfl ?_; go_big_quiet_step (fail); refine wpQuiet_nil ?_)
    refine qIdx_nil ?_
    refine E_bar (n := 0) (i := 8) (listed' := lst 9 [0, 1, 2, 3, 4, 5, 6, 7, 8]) (by kernel_rfl) rfl rfl rfl (by kernel_rfl) ?_
    go_wp2
    refine E_done (by kernel_rfl) ?_
    clear hc hfz HR
    generalize w7.setCell ⟨bo, 4, none⟩ (Value.slice A7 _ c7) = w7' at HO6 ⊢
    go_wp2
    have ck := cell_of HO6.out.out (i := 5) rfl
    have c4 := HO6.out.ext.cell (cell_of Hb0.out (i := 5) rfl)
    refine wp_region_E [6, 8] (by kernel_rfl) ?_
    refine E_takes (listed' := lst 9 [0, 1, 2, 3, 4, 5]) [0, 1, 2, 3, 4, 5] 3 (by kernel_rfl) (fun _ _ _ _ h => h) (by kernel_rfl) rfl (by kernel_rfl) ?_
    repeat (refine qIdx_step rfl ?_; go_big_quiet_step (fail); refine wpQuiet_nil ?_)
    refine qIdx_nil ?_
    obtain ⟨_, w8, hrun, ⟨A8, c8, rfl⟩, hc, hfz, HO⟩ := HO6.out.drew.appL (A := A6) (n := nk - (m)) (c := lc - (m)) (N := m + 1 + (nk - (m))) (ys := ls.drop (m)) (by simp [Hll.out]) ((HA6.out _ ((Hls.out.ext HE1.out).ext HO6.out.drew.ext))) (by simp only [List.length_append, List.length_nil, List.length_take, List.length_drop, List.length_singleton, Hkl.out, Hll.out]; omega) (by omega)
    have HR := Lib.hid hrun; have HO7 := Lib.hid HO; clear hrun HO ck c4
    refine E_bar (n := 2) (i := 6) (listed' := lst 9 [0, 1, 2, 3, 4, 5, 6]) (by kernel_rfl) rfl rfl rfl (by kernel_rfl) ?_
    refine wpList_append_run HR.out rfl rfl rfl rfl ?_
    refine E_end ?_
    simp only [Act.put, List.setIfInBounds_toArray, List.set_cons_zero, List.set_cons_succ]
    refine E_takes (listed' := lst 9 [0, 1, 2, 3, 4, 5, 6, 7]) [7] 1 (by kernel_rfl) (fun _ _ _ _ h => h) (by kernel_rfl) rfl (by kernel_rfl) ?_
    repeat (refine qIdx_step rfl ?_; go_big_quiet_step (fail); refine wpQuiet_nil ?_)
    refine qIdx_nil ?_
    refine E_bar (n := 0) (i := 8) (listed' := lst 9 [0, 1, 2, 3, 4, 5, 6, 7, 8]) (by kernel_rfl) rfl rfl rfl (by kernel_rfl) ?_
    go_wp2
    refine E_done (by kernel_rfl) ?_
    clear hc hfz HR
    generalize w8.setCell ⟨bo, 5, none⟩ (Value.slice A8 _ c8) = w8' at HO7 ⊢
    have e0 := cell_of HO7.out.out (i := 0) rfl
    have e1 := cell_of HO7.out.out (i := 1) rfl
    have e2 := cell_of HO7.out.out (i := 2) rfl
    have e3 := cell_of HO7.out.out (i := 3) rfl
    have e4 := cell_of HO7.out.out (i := 4) rfl
    have e5 := cell_of HO7.out.out (i := 5) rfl
    have hq := fun i (v : Value) (hi : #[Value.int .i64 0, .int .i64 0, .float .f64 0, .string ⟨#[]⟩, .slice none 0 0, .slice none 0 0][i]? = some v) => HO7.out.ext.cell (cell_of Hb2.out hi)
    have q0 := hq 0 _ rfl; have q1 := hq 1 _ rfl; have q2 := hq 2 _ rfl; have q3 := hq 3 _ rfl; have q4 := hq 4 _ rfl; have q5 := hq 5 _ rfl
    have hz : ∀ o, w8'.frozen? ⟨w.heap.size + 1 + 1, o, none⟩ = false := fun o => by simp [World.frozen?, HO7.out.ext.heap Hb2.out]
    clear hq
    go_wp2
    have HE9 : Hid (Ext w (six w8' (w.heap.size + 1 + 1) (.int .i64 6) (.int .i64 0) (.float .f64 0) (.string ⟨#[]⟩) (.slice A7 (m + 1 + (nk - (m))) c7) (.slice A8 (m + 1 + (nk - (m))) c8))) := six_ext (HE1.out.trans HO7.out.ext) (by omega) _ _ _ _ _ _
    have HV9 : Hid (RepGV (fun b => S b ∨ w.heap.size ≤ b) (six w8' (w.heap.size + 1 + 1) (.int .i64 6) (.int .i64 0) (.float .f64 0) (.string ⟨#[]⟩) (.slice A7 (m + 1 + (nk - (m))) c7) (.slice A8 (m + 1 + (nk - (m))) c8)) (mkMap (sIns key v fs)) [.int .i64 6, .int .i64 0, .float .f64 0, .string ⟨#[]⟩, .slice A7 (m + 1 + (nk - (m))) c7, .slice A8 (m + 1 + (nk - (m))) c8]) := by
      have hks : (sIns key v fs).map (·.1) = [] ++ ks.take m ++ [key] ++ ks.drop (m) := by
        rw [sIns_split, HK.out, Hm.out, if_neg (by simpa using Ho.out)]; rw [← HK.out]; simp [List.map_take, List.map_drop]
      have hls : (sIns key v fs).map (·.2) = [] ++ ls.take m ++ [v] ++ ls.drop (m) := by
        rw [sIns_split, HK.out, Hm.out, if_neg (by simpa using Ho.out)]; rw [← HL.out]; simp [List.map_take, List.map_drop]
      have hlen : (sIns key v fs).length ≤ nk + 1 := by have := sIns_length key v fs; rw [Hn.out] at this; exact this
      have hd := HO7.out.done (by
        rw [← hks, ← hls]
        refine ⟨by omega, by omega, by omega, Nat.zero_le _, by rw [List.length_map]; omega, fun k hk => ?_, by rw [List.length_map]; omega⟩
        rw [hks] at hk
        rcases List.mem_append.1 hk with hk | hk
        · rcases List.mem_append.1 hk with hk | hk
          · exact Hok.out.okEach k (List.mem_of_mem_take (by simpa using hk))
          · simp at hk; rw [hk]; exact hkey
        · exact Hok.out.okEach k (List.mem_of_mem_drop hk))
      rw [← hks, ← hls] at hd
      have hsz := HE1.out.size
      have hb2 := (Array.getElem?_eq_some_iff.1 Hb2.out).1
      have hbo := Hbo.out
      refine RepGV.frame (S' := fun b => S b ∨ w.heap.size ≤ b) ((six_same w8' (w.heap.size + 1 + 1) _ _ _ _ _ _).mono fun b hb => ?_) (fun b hb => ?_) hd
      · rcases hb with hb | hb <;> omega
      · rcases hb with hb | hb
        · exact .inl hb.1
        · exact .inr (by omega)
    clear HO7
    refine bodyPost_ret (v := .agg #[.int .i64 6, .int .i64 0, .float .f64 0, .string ⟨#[]⟩, .slice A7 (m + 1 + (nk - (m))) c7, .slice A8 (m + 1 + (nk - (m))) c8]) (by simp [results, Try.results48, go_sem, q0, q1, q2, q3, q4, q5]) rfl ?_
    exact ⟨_, rfl, ⟨_, rfl, HV9.out⟩, HE9.out⟩
end Go.Smd
