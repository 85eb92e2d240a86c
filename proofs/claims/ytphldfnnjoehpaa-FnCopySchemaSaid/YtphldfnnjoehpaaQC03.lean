/- Part 3 of the proof: With Spec Fit. -/
import Derived.Test.YtphldfnnjoehpaaQC02
import Derived.Laws.FloatBits
set_option linter.unusedVariables false
section
set_option linter.unusedSimpArgs false
namespace Go.Smd
open Go.RowKit Go.Proofs
set_option maxRecDepth 100000 in
set_option maxHeartbeats 4000000 in
theorem withField_c (kind n : Int) (f : Nat) (s : ByteArray) (fs : List (ByteArray × GV)) (key : ByteArray) (v : GV) (cs cv : List Value) (w : World) (S : Nat → Prop)
    (hm : RepGV S w (.mk kind n f s (fs.map (·.1)) (fs.map (·.2))) cs) (hv : RepGV S w v cv) (hsort : Sorted fs) (hroom : (fs.length + 1) * 88 ≤ 140737488351232) (hkey : key.size ≤ 140737488351232) :
    Calls Try.prog 48 #[.agg cs.toArray, .string key, .agg cv.toArray] w (Makes (fun W u => ∃ cs', u = .agg cs'.toArray ∧ RepGV (fun b => S b ∨ w.heap.size ≤ b) W (mkMap (sIns key v fs)) cs') w) := by
  have hm0 := hm.lt
  have hv0 := hv.lt
  obtain ⟨ka, kc, la, lc, rfl, ok, hkc, hlc, hks, hls⟩ := hm0.open
  have hm1 := Lib.hid hm
  obtain ⟨d0, d1, d2, d3, d4, d5, rfl⟩ : ∃ d0 d1 d2 d3 d4 d5, cv = [d0, d1, d2, d3, d4, d5] := by
    match cv, hv.length with
    | [d0, d1, d2, d3, d4, d5], _ => exact ⟨d0, d1, d2, d3, d4, d5, rfl⟩
  obtain ⟨o0, o1, o2, o3, o4, o5⟩ := hv.six
  obtain ⟨m, hmdef⟩ : ∃ m, lower key (fs.map (·.1)) = m := ⟨_, rfl⟩
  have hml := lower_le key (fs.map (·.1))
  rw [hmdef] at hml
  obtain ⟨nk, hnk⟩ : ∃ n, fs.length = n := ⟨_, rfl⟩
  simp only [List.length_map, hnk] at hml hkc hlc hroom ⊢
  obtain ⟨ok', hokd⟩ : ∃ b : Bool, decide ((fs.map (·.1))[m]? = some key) = b := ⟨_, rfl⟩
  have HFS : Hid (∀ ks ls, fs.map (·.1) = ks → fs.map (·.2) = ls → ks = fs.map (·.1) ∧ ls = fs.map (·.2)) := fun ks ls h1 h2 => ⟨h1.symm, h2.symm⟩
  have HS := Lib.hid hsort
  have hkl : (fs.map (·.1)).length = nk := by simp [hnk]
  have hll : (fs.map (·.2)).length = nk := by simp [hnk]
  have hsort' : (fs.map (·.1)).Pairwise fun a b => blt a b = true := hsort
  clear hsort
  generalize hK : fs.map (·.1) = ks at *
  generalize hL : fs.map (·.2) = ls at *
  have HK := Lib.hid hK; have HL := Lib.hid hL; have Hkl := Lib.hid hkl; have Hll := Lib.hid hll; have HSo := Lib.hid hsort'
  have Hm := Lib.hid hmdef; have Hn := Lib.hid hnk; have Ho := Lib.hid hokd
  have Hok := Lib.hid ok
  clear hm hv hmdef hnk hokd ok hK hL hkl hll hsort' HFS
  go_enter Try.func48, Try.ntmps48
  go_wp2_with fail
  have hE0 : Ext w (((w.alloc (.cells #[.int .i64 kind, .int .i64 n, .float .f64 f, .string s, .slice ka nk kc, .slice la nk lc] 26)).alloc (.cells #[d0, d1, d2, d3, d4, d5] 26)).alloc (.cells #[.int .i64 0, .int .i64 0, .float .f64 0, .string ⟨#[]⟩, .slice none 0 0, .slice none 0 0] 26)) := (((Ext.refl w).alloc _).alloc _).alloc _
  have hb0 := old_at (.cells #[.int .i64 0, .int .i64 0, .float .f64 0, .string ⟨#[]⟩, .slice none 0 0, .slice none 0 0] 26) (old_at (.cells #[d0, d1, d2, d3, d4, d5] 26) (new_at (w := w) (.cells #[.int .i64 kind, .int .i64 n, .float .f64 f, .string s, .slice ka nk kc, .slice la nk lc] 26) rfl))
  have hb1 := old_at (.cells #[.int .i64 0, .int .i64 0, .float .f64 0, .string ⟨#[]⟩, .slice none 0 0, .slice none 0 0] 26) (new_at (w := w.alloc (.cells #[.int .i64 kind, .int .i64 n, .float .f64 f, .string s, .slice ka nk kc, .slice la nk lc] 26)) (.cells #[d0, d1, d2, d3, d4, d5] 26) (size_alloc w _))
  have hb2 := new_at (w := (w.alloc (.cells #[.int .i64 kind, .int .i64 n, .float .f64 f, .string s, .slice ka nk kc, .slice la nk lc] 26)).alloc (.cells #[d0, d1, d2, d3, d4, d5] 26)) (.cells #[.int .i64 0, .int .i64 0, .float .f64 0, .string ⟨#[]⟩, .slice none 0 0, .slice none 0 0] 26) (by rw [size_alloc, size_alloc])
  refine (fieldIndex_c kind n f s ks ls key [.int .i64 kind, .int .i64 n, .float .f64 f, .string s, .slice ka nk kc, .slice la nk lc] _ _ (by have := hm1.out.ext hE0; rw [Hkl.out, Hll.out] at this; exact this) HSo.out).mono ?_
  rintro e w1 ⟨u, rfl, hu, hE1⟩
  rw [Hm.out, Ho.out] at hu
  subst hu
  have hE1' := hE0.trans hE1
  have hb0' := hE1.heap hb0; have hb1' := hE1.heap hb1; have hb2' := hE1.heap hb2
  clear hE0 hb0 hb1 hb2 hE1
  go_wp2
  have HO : OutSt w1 (fun b => S b ∧ b < w.heap.size) w1.heap.size (w1.alloc (.cells #[.int .i64 6, .int .i64 0, .float .f64 0, .string ⟨#[]⟩, .slice none 0 0, .slice none 0 0] 26)) (.slice none 0 0) (.slice none 0 0) [] [] :=
    ⟨Nat.le_refl _, fun b hb => by have := hE1'.size; omega, (Ext.refl w1).alloc _, by rw [size_alloc]; omega, new_at _ rfl, Build.nil, Build.nil⟩
  have Hsz := Lib.hid hE1'.size
  generalize hbo : w1.heap.size = bo at HO Hsz ⊢
  generalize w1.alloc (.cells #[.int .i64 6, .int .i64 0, .float .f64 0, .string ⟨#[]⟩, .slice none 0 0, .slice none 0 0] 26) = w2 at HO ⊢
  have Hbo := Lib.hid hbo; clear hbo
  have Hb0 := Lib.hid hb0'; have Hb1 := Lib.hid hb1'; have Hb2 := Lib.hid hb2'; have HE1 := Lib.hid hE1'
  clear hb0' hb1' hb2' hE1'
  have HO1 := Lib.hid HO; clear HO
  have hml1 : (m : Int) ≤ (kc : Int) := by omega
  have hml2 : (m : Int) ≤ (lc : Int) := by omega
  have hml0 : (0 : Int) ≤ (m : Int) := by omega
  have Hks := Lib.hid hks; have Hls := Lib.hid hls; have Hv := Lib.hid hv0
  clear hks hls hv0
  have ck := cell_of HO1.out.out (i := 4) rfl
  have c4 := HO1.out.ext.cell (cell_of Hb0.out (i := 4) rfl)
  refine wp_region_E [6, 8] (by kernel_rfl) ?_
  refine E_takes (listed' := lst 9 [0, 1, 2, 3, 4, 5]) [0, 1, 2, 3, 4, 5] 3 (by kernel_rfl) (fun _ _ _ _ h => h) (by kernel_rfl) rfl (by kernel_rfl) ?_
  repeat (refine qIdx_step rfl ?_; go_big_quiet_step (fail); refine wpQuiet_nil ?_)
  refine qIdx_nil ?_
  obtain ⟨_, w3, hrun, ⟨A1, c1, rfl⟩, hc, hfz, HO⟩ := HO1.out.drew.appK (A := ka) (n := m) (c := kc) (N := m) (ys := ks.take m) (by simp [Hkl.out]; omega) (((RowOf.take ((Hks.out.ext HE1.out).ext HO1.out.drew.ext) m : RepStrs (fun b => S b ∧ b < w.heap.size) _ _ _))) (by simp only [List.length_append, List.length_nil, List.length_take, List.length_drop, List.length_singleton, Hkl.out, Hll.out]; omega) (by omega)
  have HR := Lib.hid hrun; have HO2 := Lib.hid HO; clear hrun HO ck c4
  refine E_bar (n := 2) (i := 6) (listed' := lst 9 [0, 1, 2, 3, 4, 5, 6]) (by kernel_rfl) rfl rfl rfl (by kernel_rfl) ?_
  refine wpList_append_run HR.out rfl rfl rfl rfl ?_
  refine E_end ?_
  simp only [Act.put, List.setIfInBounds_toArray, List.set_cons_zero, List.set_cons_succ]
  refine E_takes (listed' := lst 9 [0, 1, 2, 3, 4, 5, 6, 7]) [7] 1 (by kernel_rfl) (fun _ _ _ _ h => h) (by kernel_rfl) rfl (by kernel_rfl) ?_
  repeat (refine qIdx_step rfl ?_; go_big_quiet_step (fail); refine wpQuiet_nil ?_)
  refine qIdx_nil ?_
  refine E_bar (n := 0) (i := 8) (listed' := lst 9 [0, 1, 2, 3, 4, 5, 6, 7, 8]) (by kernel_rfl) rfl rfl rfl (by kernel_rfl) ?_
  go_wp2
  refine E_done (by kernel_rfl) ?_
  clear hc hfz HR
  generalize w3.setCell ⟨bo, 4, none⟩ (Value.slice A1 m c1) = w3' at HO2 ⊢
  go_wp2
  have ck := cell_of HO2.out.out (i := 5) rfl
  have c4 := HO2.out.ext.cell (cell_of Hb0.out (i := 5) rfl)
  refine wp_region_E [6, 8] (by kernel_rfl) ?_
  refine E_takes (listed' := lst 9 [0, 1, 2, 3, 4, 5]) [0, 1, 2, 3, 4, 5] 3 (by kernel_rfl) (fun _ _ _ _ h => h) (by kernel_rfl) rfl (by kernel_rfl) ?_
  repeat (refine qIdx_step rfl ?_; go_big_quiet_step (fail); refine wpQuiet_nil ?_)
  refine qIdx_nil ?_
  obtain ⟨_, w4, hrun, ⟨A2, c2, rfl⟩, hc, hfz, HO⟩ := HO2.out.drew.appL (A := la) (n := m) (c := lc) (N := m) (ys := ls.take m) (by simp [Hll.out]; omega) (((RowOf.take ((Hls.out.ext HE1.out).ext HO2.out.drew.ext) m : RepGVs (fun b => S b ∧ b < w.heap.size) _ _ _))) (by simp only [List.length_append, List.length_nil, List.length_take, List.length_drop, List.length_singleton, Hkl.out, Hll.out]; omega) (by omega)
  have HR := Lib.hid hrun; have HO3 := Lib.hid HO; clear hrun HO ck c4
  refine E_bar (n := 2) (i := 6) (listed' := lst 9 [0, 1, 2, 3, 4, 5, 6]) (by kernel_rfl) rfl rfl rfl (by kernel_rfl) ?_
  refine wpList_append_run HR.out rfl rfl rfl rfl ?_
  refine E_end ?_
  simp only [Act.put, List.setIfInBounds_toArray, List.set_cons_zero, List.set_cons_succ]
  refine E_takes (listed' := lst 9 [0, 1, 2, 3, 4, 5, 6, 7]) [7] 1 (by kernel_rfl) (fun _ _ _ _ h => h) (by kernel_rfl) rfl (by kernel_rfl) ?_
  repeat (refine qIdx_step rfl ?_; go_big_quiet_step (fail); refine wpQuiet_nil ?_)
  refine qIdx_nil ?_
  refine E_bar (n := 0) (i := 8) (listed' := lst 9 [0, 1, 2, 3, 4, 5, 6, 7, 8]) (by kernel_rfl) rfl rfl rfl (by kernel_rfl) ?_
  go_wp2
  refine E_done (by kernel_rfl) ?_
  clear hc hfz HR
  generalize w4.setCell ⟨bo, 5, none⟩ (Value.slice A2 m c2) = w4' at HO3 ⊢
  have ck := cell_of HO3.out.out (i := 4) rfl
  obtain ⟨_, w5, hrun, ⟨A3, c3, rfl⟩, hc, hfz, HO⟩ := HO3.out.pushK key (N := m + 1) (by simp [Hkl.out]; omega) (by omega)
  have HR := Lib.hid hrun; have HO4 := Lib.hid HO; clear hrun HO
  go_upto_region 6 with (at_builtin; refine wpList_append_run HR.out rfl rfl rfl rfl ?_)
  clear HR hc hfz ck
  generalize w5.setCell ⟨bo, 4, none⟩ (Value.slice A3 (m + 1) c3) = w5' at HO4 ⊢
  have hd := fun i (v : Value) (hi : #[d0, d1, d2, d3, d4, d5][i]? = some v) => HO4.out.ext.cell (cell_of Hb1.out hi)
  have hd0 := hd 0 d0 rfl; have hd1 := hd 1 d1 rfl; have hd2 := hd 2 d2 rfl; have hd3 := hd 3 d3 rfl; have hd4 := hd 4 d4 rfl; have hd5 := hd 5 d5 rfl
  clear hd
  have cl := cell_of HO4.out.out (i := 5) rfl
  obtain ⟨_, w6, hrun, ⟨A4, c4, rfl⟩, hc, hfz, HO⟩ := HO4.out.pushL ((Hv.out.ext HE1.out).ext HO4.out.ext) (N := m + 1) (by simp [Hll.out]; omega) (by omega)
  have HR := Lib.hid hrun; have HO5 := Lib.hid HO; clear hrun HO
  go_upto_region 7 with (at_builtin; refine wpList_append_run HR.out rfl rfl rfl rfl ?_)
  clear HR hc hfz cl hd0 hd1 hd2 hd3 hd4 hd5
  generalize w6.setCell ⟨bo, 5, none⟩ (Value.slice A4 (m + 1) c4) = w6' at HO5 ⊢
  cases ok' with
  | true =>
    have hlt : m < nk := by have := of_decide_eq_true Ho.out; have := (List.getElem?_eq_some_iff.1 this).1; rw [Hkl.out] at this; exact this
    obtain ⟨A5, hcut, hA5⟩ := slice_from (P := Try.prog) 23 9 (size := 1) Try.underlying23 (by kernel_rfl) ka nk kc (m + 1) ((m : Int) + 1) (by omega) (by omega)
    obtain ⟨A6, hcut2, hA6⟩ := slice_from (P := Try.prog) 24 26 (size := 6) Try.underlying24 (by kernel_rfl) la nk lc (m + 1) ((m : Int) + 1) (by omega) (by omega)
    have HA5 : Hid (∀ W, RowOf RStr 1 (fun b => S b ∧ b < w.heap.size) W ka ks → RowOf RStr 1 (fun b => S b ∧ b < w.heap.size) W A5 (ks.drop (m + 1))) := fun W h => hA5 (by rw [Hkl.out]; omega) h
    have HA6 : Hid (∀ W, RepGVs (fun b => S b ∧ b < w.heap.size) W la ls → RepGVs (fun b => S b ∧ b < w.heap.size) W A6 (ls.drop (m + 1))) := fun W h => hA6 (by rw [Hll.out]; omega) h
    clear hA5 hA6
    go_wp2
    have ck := cell_of HO5.out.out (i := 4) rfl
    have c4 := HO5.out.ext.cell (cell_of Hb0.out (i := 4) rfl)
    refine wp_region_E [6, 8] (by kernel_rfl) ?_
    refine E_takes (listed' := lst 9 [0, 1, 2, 3, 4, 5]) [0, 1, 2, 3, 4, 5] 3 (by kernel_rfl) (fun _ _ _ _ h => h) (by kernel_rfl) rfl (by kernel_rfl) ?_
    repeat (refine qIdx_step rfl ?_; go_big_quiet_step (fail); refine wpQuiet_nil ?_)
    refine qIdx_nil ?_
    obtain ⟨_, w7, hrun, ⟨A7, c7, rfl⟩, hc, hfz, HO⟩ := HO5.out.drew.appK (A := A5) (n := nk - (m + 1)) (c := kc - (m + 1)) (N := m + 1 + (nk - (m + 1))) (ys := ks.drop (m + 1)) (by simp [Hkl.out]) ((HA5.out _ ((Hks.out.ext HE1.out).ext HO5.out.drew.ext))) (by simp only [List.length_append, List.length_nil, List.length_take, List.length_drop, List.length_singleton, Hkl.out, Hll.out]; omega) (by omega)
    have HR := Lib.hid hrun; have HO6 := Lib.hid HO; clear hrun HO ck c4
    refine E_bar (n := 2) (i := 6) (listed' := lst 9 [0, 1, 2, 3, 4, 5, 6]) (by kernel_rfl) rfl rfl rfl (by kernel_rfl) ?_
    refine wpList_append_run HR.out rfl rfl rfl rfl ?_
    refine E_end ?_
    simp only [Act.put, List.setIfInBounds_toArray, List.set_cons_zero, List.set_cons_succ]
    refine E_takes (listed' := lst 9 [0, 1, 2, 3, 4, 5, 6, 7]) [7] 1 (by kernel_rfl) (fun _ _ _ _ h => h) (by kernel_rfl) rfl (by kernel_rfl) ?_
    repeat (refine qIdx_step rfl ?_; go_big_quiet_step (fail); refine wpQuiet_nil ?_)
    refine qIdx_nil ?_
    refine E_bar (n := 0) (i := 8) (listed' := lst 9 [0, 1, 2, 3, 4, 5, 6, 7, 8]) (by kernel_rfl) rfl rfl rfl (by kernel_rfl) ?_
    go_wp2
    refine E_done (by kernel_rfl) ?_
    clear hc hfz HR
    generalize w7.setCell ⟨bo, 4, none⟩ (Value.slice A7 _ c7) = w7' at HO6 ⊢
    go_wp2
    have ck := cell_of HO6.out.out (i := 5) rfl
    have c4 := HO6.out.ext.cell (cell_of Hb0.out (i := 5) rfl)
    refine wp_region_E [6, 8] (by kernel_rfl) ?_
    refine E_takes (listed' := lst 9 [0, 1, 2, 3, 4, 5]) [0, 1, 2, 3, 4, 5] 3 (by kernel_rfl) (fun _ _ _ _ h => h) (by kernel_rfl) rfl (by kernel_rfl) ?_
    repeat (refine qIdx_step rfl ?_; go_big_quiet_step (fail); refine wpQuiet_nil ?_)
    refine qIdx_nil ?_
    obtain ⟨_, w8, hrun, ⟨A8, c8, rfl⟩, hc, hfz, HO⟩ := HO6.out.drew.appL (A := A6) (n := nk - (m + 1)) (c := lc - (m + 1)) (N := m + 1 + (nk - (m + 1))) (ys := ls.drop (m + 1)) (by simp [Hll.out]) ((HA6.out _ ((Hls.out.ext HE1.out).ext HO6.out.drew.ext))) (by simp only [List.length_append, List.length_nil, List.length_take, List.length_drop, List.length_singleton, Hkl.out, Hll.out]; omega) (by omega)
    have HR := Lib.hid hrun; have HO7 := Lib.hid HO; clear hrun HO ck c4
    refine E_bar (n := 2) (i := 6) (listed' := lst 9 [0, 1, 2, 3, 4, 5, 6]) (by kernel_rfl) rfl rfl rfl (by kernel_rfl) ?_
    refine wpList_append_run HR.out rfl rfl rfl rfl ?_
    refine E_end ?_
    simp only [Act.put, List.setIfInBounds_toArray, List.set_cons_zero, List.set_cons_succ]
    refine E_takes (listed' := lst 9 [0, 1, 2, 3, 4, 5, 6, 7]) [7] 1 (by kernel_rfl) (fun _ _ _ _ h => h) (by kernel_rfl) rfl (by kernel_rfl) ?_
    repeat (refine qIdx_step rfl ?_; go_big_quiet_step (fail); refine wpQuiet_nil ?_)
    refine qIdx_nil ?_
    refine E_bar (n := 0) (i := 8) (listed' := lst 9 [0, 1, 2, 3, 4, 5, 6, 7, 8]) (by kernel_rfl) rfl rfl rfl (by kernel_rfl) ?_
    go_wp2
    refine E_done (by kernel_rfl) ?_
    clear hc hfz HR
    generalize w8.setCell ⟨bo, 5, none⟩ (Value.slice A8 _ c8) = w8' at HO7 ⊢
    have e0 := cell_of HO7.out.out (i := 0) rfl
    have e1 := cell_of HO7.out.out (i := 1) rfl
    have e2 := cell_of HO7.out.out (i := 2) rfl
    have e3 := cell_of HO7.out.out (i := 3) rfl
    have e4 := cell_of HO7.out.out (i := 4) rfl
    have e5 := cell_of HO7.out.out (i := 5) rfl
    have hq := fun i (v : Value) (hi : #[Value.int .i64 0, .int .i64 0, .float .f64 0, .string ⟨#[]⟩, .slice none 0 0, .slice none 0 0][i]? = some v) => HO7.out.ext.cell (cell_of Hb2.out hi)
    have q0 := hq 0 _ rfl; have q1 := hq 1 _ rfl; have q2 := hq 2 _ rfl; have q3 := hq 3 _ rfl; have q4 := hq 4 _ rfl; have q5 := hq 5 _ rfl
    have hz : ∀ o, w8'.frozen? ⟨w.heap.size + 1 + 1, o, none⟩ = false := fun o => by simp [World.frozen?, HO7.out.ext.heap Hb2.out]
    clear hq
    go_wp2
    have HE9 : Hid (Ext w (six w8' (w.heap.size + 1 + 1) (.int .i64 6) (.int .i64 0) (.float .f64 0) (.string ⟨#[]⟩) (.slice A7 (m + 1 + (nk - (m + 1))) c7) (.slice A8 (m + 1 + (nk - (m + 1))) c8))) := six_ext (HE1.out.trans HO7.out.ext) (by omega) _ _ _ _ _ _
    have HV9 : Hid (RepGV (fun b => S b ∨ w.heap.size ≤ b) (six w8' (w.heap.size + 1 + 1) (.int .i64 6) (.int .i64 0) (.float .f64 0) (.string ⟨#[]⟩) (.slice A7 (m + 1 + (nk - (m + 1))) c7) (.slice A8 (m + 1 + (nk - (m + 1))) c8)) (mkMap (sIns key v fs)) [.int .i64 6, .int .i64 0, .float .f64 0, .string ⟨#[]⟩, .slice A7 (m + 1 + (nk - (m + 1))) c7, .slice A8 (m + 1 + (nk - (m + 1))) c8]) := by
      have hks : (sIns key v fs).map (·.1) = [] ++ ks.take m ++ [key] ++ ks.drop (m + 1) := by
        rw [sIns_split, HK.out, Hm.out, if_pos (by simpa using Ho.out)]; rw [← HK.out]; simp [List.map_take, List.map_drop]
      have hls : (sIns key v fs).map (·.2) = [] ++ ls.take m ++ [v] ++ ls.drop (m + 1) := by
        rw [sIns_split, HK.out, Hm.out, if_pos (by simpa using Ho.out)]; rw [← HL.out]; simp [List.map_take, List.map_drop]
      have hlen : (sIns key v fs).length ≤ nk + 1 := by have := sIns_length key v fs; rw [Hn.out] at this; exact this
      have hd := HO7.out.done (by
        rw [← hks, ← hls]
        refine ⟨by omega, by omega, by omega, Nat.zero_le _, by rw [List.length_map]; omega, fun k hk => ?_, by rw [List.length_map]; omega⟩
        rw [hks] at hk
        rcases List.mem_append.1 hk with hk | hk
        · rcases List.mem_append.1 hk with hk | hk
          · exact Hok.out.okEach k (List.mem_of_mem_take (by simpa using hk))
          · simp at hk; rw [hk]; exact hkey
        · exact Hok.out.okEach k (List.mem_of_mem_drop hk))
      rw [← hks, ← hls] at hd
      have hsz := HE1.out.size
      have hb2 := (Array.getElem?_eq_some_iff.1 Hb2.out).1
      have hbo := Hbo.out
      refine RepGV.frame (S' := fun b => S b ∨ w.heap.size ≤ b) ((six_same w8' (w.heap.size + 1 + 1) _ _ _ _ _ _).mono fun b hb => ?_) (fun b hb => ?_) hd
      · rcases hb with hb | hb <;> omega
      · rcases hb with hb | hb
        · exact .inl hb.1
        · exact .inr (by omega)
    clear HO7
    refine bodyPost_ret (v := .agg #[.int .i64 6, .int .i64 0, .float .f64 0, .string ⟨#[]⟩, .slice A7 (m + 1 + (nk - (m + 1))) c7, .slice A8 (m + 1 + (nk - (m + 1))) c8]) (by simp [results, Try.results48, go_sem, q0, q1, q2, q3, q4, q5]) rfl ?_
    exact ⟨_, rfl, ⟨_, rfl, HV9.out⟩, HE9.out⟩
  | false =>
    have hlt : m ≤ nk := hml
    obtain ⟨A5, hcut, hA5⟩ := slice_from (P := Try.prog) 23 9 (size := 1) Try.underlying23 (by kernel_rfl) ka nk kc (m) ((m : Int)) (by omega) (by omega)
    obtain ⟨A6, hcut2, hA6⟩ := slice_from (P := Try.prog) 24 26 (size := 6) Try.underlying24 (by kernel_rfl) la nk lc (m) ((m : Int)) (by omega) (by omega)
    have HA5 : Hid (∀ W, RowOf RStr 1 (fun b => S b ∧ b < w.heap.size) W ka ks → RowOf RStr 1 (fun b => S b ∧ b < w.heap.size) W A5 (ks.drop (m))) := fun W h => hA5 (by rw [Hkl.out]; omega) h
    have HA6 : Hid (∀ W, RepGVs (fun b => S b ∧ b < w.heap.size) W la ls → RepGVs (fun b => S b ∧ b < w.heap.size) W A6 (ls.drop (m))) := fun W h => hA6 (by rw [Hll.out]; omega) h
    clear hA5 hA6
    go_wp2
    have ck := cell_of HO5.out.out (i := 4) rfl
    have c4 := HO5.out.ext.cell (cell_of Hb0.out (i := 4) rfl)
    refine wp_region_E [6, 8] (by kernel_rfl) ?_
    refine E_takes (listed' := lst 9 [0, 1, 2, 3, 4, 5]) [0, 1, 2, 3, 4, 5] 3 (by kernel_rfl) (fun _ _ _ _ h => h) (by kernel_rfl) rfl (by kernel_rfl) ?_
    repeat (refine qIdx_step rfl ?_; go_big_quiet_step (fail); refine wpQuiet_nil ?_)
    refine qIdx_nil ?_
    obtain ⟨_, w7, hrun, ⟨A7, c7, rfl⟩, hc, hfz, HO⟩ := HO5.out.drew.appK (A := A5) (n := nk - (m)) (c := kc - (m)) (N := m + 1 + (nk - (m))) (ys := ks.drop (m)) (by simp [Hkl.out]) ((HA5.out _ ((Hks.out.ext HE1.out).ext HO5.out.drew.ext))) (by simp only [List.length_append, List.length_nil, List.length_take, List.length_drop, List.length_singleton, Hkl.out, Hll.out]; omega) (by omega)
    have HR := Lib.hid hrun; have HO6 := Lib.hid HO; clear hrun HO ck c4
    refine E_bar (n := 2) (i := 6) (listed' := lst 9 [0, 1, 2, 3, 4, 5, 6]) (by kernel_rfl) rfl rfl rfl (by kernel_rfl) ?_
    refine wpList_append_run HR.out rfl rfl rfl rfl ?_
    refine E_end ?_
    simp only [Act.put, List.setIfInBounds_toArray, List.set_cons_zero, List.set_cons_succ]
    refine E_takes (listed' := lst 9 [0, 1, 2, 3, 4, 5, 6, 7]) [7] 1 (by kernel_rfl) (fun _ _ _ _ h => h) (by kernel_rfl) rfl (by kernel_rfl) ?_
    repeat (refine qIdx_step rfl ?_; go_big_quiet_step (fail); refine wpQuiet_nil ?_)
    refine qIdx_nil ?_
    refine E_bar (n := 0) (i := 8) (listed' := lst 9 [0, 1, 2, 3, 4, 5, 6, 7, 8]) (by kernel_rfl) rfl rfl rfl (by kernel_rfl) ?_
    go_wp2
    refine E_done (by kernel_rfl) ?_
    clear hc hfz HR
    generalize w7.setCell ⟨bo, 4, none⟩ (Value.slice A7 _ c7) = w7' at HO6 ⊢
    go_wp2
    have ck := cell_of HO6.out.out (i := 5) rfl
    have c4 := HO6.out.ext.cell (cell_of Hb0.out (i := 5) rfl)
    refine wp_region_E [6, 8] (by kernel_rfl) ?_
    refine E_takes (listed' := lst 9 [0, 1, 2, 3, 4, 5]) [0, 1, 2, 3, 4, 5] 3 (by kernel_rfl) (fun _ _ _ _ h => h) (by kernel_rfl) rfl (by kernel_rfl) ?_
    repeat (refine qIdx_step rfl ?_; go_big_quiet_step (fail); refine wpQuiet_nil ?_)
    refine qIdx_nil ?_
    obtain ⟨_, w8, hrun, ⟨A8, c8, rfl⟩, hc, hfz, HO⟩ := HO6.out.drew.appL (A := A6) (n := nk - (m)) (c := lc - (m)) (N := m + 1 + (nk - (m))) (ys := ls.drop (m)) (by simp [Hll.out]) ((HA6.out _ ((Hls.out.ext HE1.out).ext HO6.out.drew.ext))) (by simp only [List.length_append, List.length_nil, List.length_take, List.length_drop, List.length_singleton, Hkl.out, Hll.out]; omega) (by omega)
    have HR := Lib.hid hrun; have HO7 := Lib.hid HO; clear hrun HO ck c4
    refine E_bar (n := 2) (i := 6) (listed' := lst 9 [0, 1, 2, 3, 4, 5, 6]) (by kernel_rfl) rfl rfl rfl (by kernel_rfl) ?_
    refine wpList_append_run HR.out rfl rfl rfl rfl ?_
    refine E_end ?_
    simp only [Act.put, List.setIfInBounds_toArray, List.set_cons_zero, List.set_cons_succ]
    refine E_takes (listed' := lst 9 [0, 1, 2, 3, 4, 5, 6, 7]) [7] 1 (by kernel_rfl) (fun _ _ _ _ h => h) (by kernel_rfl) rfl (by kernel_rfl) ?_
    repeat (refine qIdx_step rfl ?_; go_big_quiet_step (fail); refine wpQuiet_nil ?_)
    refine qIdx_nil ?_
    refine E_bar (n := 0) (i := 8) (listed' := lst 9 [0, 1, 2, 3, 4, 5, 6, 7, 8]) (by kernel_rfl) rfl rfl rfl (by kernel_rfl) ?_
    go_wp2
    refine E_done (by kernel_rfl) ?_
    clear hc hfz HR
    generalize w8.setCell ⟨bo, 5, none⟩ (Value.slice A8 _ c8) = w8' at HO7 ⊢
    have e0 := cell_of HO7.out.out (i := 0) rfl
    have e1 := cell_of HO7.out.out (i := 1) rfl
    have e2 := cell_of HO7.out.out (i := 2) rfl
    have e3 := cell_of HO7.out.out (i := 3) rfl
    have e4 := cell_of HO7.out.out (i := 4) rfl
    have e5 := cell_of HO7.out.out (i := 5) rfl
    have hq := fun i (v : Value) (hi : #[Value.int .i64 0, .int .i64 0, .float .f64 0, .string ⟨#[]⟩, .slice none 0 0, .slice none 0 0][i]? = some v) => HO7.out.ext.cell (cell_of Hb2.out hi)
    have q0 := hq 0 _ rfl; have q1 := hq 1 _ rfl; have q2 := hq 2 _ rfl; have q3 := hq 3 _ rfl; have q4 := hq 4 _ rfl; have q5 := hq 5 _ rfl
    have hz : ∀ o, w8'.frozen? ⟨w.heap.size + 1 + 1, o, none⟩ = false := fun o => by simp [World.frozen?, HO7.out.ext.heap Hb2.out]
    clear hq
    go_wp2
    have HE9 : Hid (Ext w (six w8' (w.heap.size + 1 + 1) (.int .i64 6) (.int .i64 0) (.float .f64 0) (.string ⟨#[]⟩) (.slice A7 (m + 1 + (nk - (m))) c7) (.slice A8 (m + 1 + (nk - (m))) c8))) := six_ext (HE1.out.trans HO7.out.ext) (by omega) _ _ _ _ _ _
    have HV9 : Hid (RepGV (fun b => S b ∨ w.heap.size ≤ b) (six w8' (w.heap.size + 1 + 1) (.int .i64 6) (.int .i64 0) (.float .f64 0) (.string ⟨#[]⟩) (.slice A7 (m + 1 + (nk - (m))) c7) (.slice A8 (m + 1 + (nk - (m))) c8)) (mkMap (sIns key v fs)) [.int .i64 6, .int .i64 0, .float .f64 0, .string ⟨#[]⟩, .slice A7 (m + 1 + (nk - (m))) c7, .slice A8 (m + 1 + (nk - (m))) c8]) := by
      have hks : (sIns key v fs).map (·.1) = [] ++ ks.take m ++ [key] ++ ks.drop (m) := by
        rw [sIns_split, HK.out, Hm.out, if_neg (by simpa using Ho.out)]; rw [← HK.out]; simp [List.map_take, List.map_drop]
      have hls : (sIns key v fs).map (·.2) = [] ++ ls.take m ++ [v] ++ ls.drop (m) := by
        rw [sIns_split, HK.out, Hm.out, if_neg (by simpa using Ho.out)]; rw [← HL.out]; simp [List.map_take, List.map_drop]
      have hlen : (sIns key v fs).length ≤ nk + 1 := by have := sIns_length key v fs; rw [Hn.out] at this; exact this
      have hd := HO7.out.done (by
        rw [← hks, ← hls]
        refine ⟨by omega, by omega, by omega, Nat.zero_le _, by rw [List.length_map]; omega, fun k hk => ?_, by rw [List.length_map]; omega⟩
        rw [hks] at hk
        rcases List.mem_append.1 hk with hk | hk
        · rcases List.mem_append.1 hk with hk | hk
          · exact Hok.out.okEach k (List.mem_of_mem_take (by simpa using hk))
          · simp at hk; rw [hk]; exact hkey
        · exact Hok.out.okEach k (List.mem_of_mem_drop hk))
      rw [← hks, ← hls] at hd
      have hsz := HE1.out.size
      have hb2 := (Array.getElem?_eq_some_iff.1 Hb2.out).1
      have hbo := Hbo.out
      refine RepGV.frame (S' := fun b => S b ∨ w.heap.size ≤ b) ((six_same w8' (w.heap.size + 1 + 1) _ _ _ _ _ _).mono fun b hb => ?_) (fun b hb => ?_) hd
      · rcases hb with hb | hb <;> omega
      · rcases hb with hb | hb
        · exact .inl hb.1
        · exact .inr (by omega)
    clear HO7
    refine bodyPost_ret (v := .agg #[.int .i64 6, .int .i64 0, .float .f64 0, .string ⟨#[]⟩, .slice A7 (m + 1 + (nk - (m))) c7, .slice A8 (m + 1 + (nk - (m))) c8]) (by simp [results, Try.results48, go_sem, q0, q1, q2, q3, q4, q5]) rfl ?_
    exact ⟨_, rfl, ⟨_, rfl, HV9.out⟩, HE9.out⟩
end Go.Smd
end
section
set_option linter.unusedSimpArgs false
namespace Go.Smd
open Go.RowKit Go.Proofs
def insAll : List ByteArray → List GV → List (ByteArray × GV) → List (ByteArray × GV)
  | k :: ks, v :: vs, m => insAll ks vs (sIns k v m)
  | _, _, m => m
mutual
def clean : GV → GV
  | .mk kind n f s keys l =>
    if kind = 1 then .mk 1 (if n = 0 then 0 else 1) 0 ⟨#[]⟩ [] [] else if kind = 2 then .mk 2 n 0 ⟨#[]⟩ [] [] else if kind = 3 then .mk 3 0 f ⟨#[]⟩ [] []
    else if kind = 4 then .mk 4 0 0 s [] [] else if kind = 5 then .mk 5 0 0 ⟨#[]⟩ [] (cleans l) else if kind = 6 then mkMap (insAll keys (cleans l) []) else .mk 0 0 0 ⟨#[]⟩ [] []
def cleans : List GV → List GV
  | [] => []
  | x :: l => clean x :: cleans l
end
theorem cleans_eq : ∀ l, cleans l = l.map clean
  | [] => by simp [cleans]
  | x :: l => by simp [cleans, cleans_eq l]
theorem insAll_length : ∀ (ks : List ByteArray) (vs : List GV) (m : List (ByteArray × GV)), (insAll ks vs m).length ≤ m.length + min ks.length vs.length
  | [], vs, m => by simp [insAll]
  | k :: ks, [], m => by simp [insAll]
  | k :: ks, v :: vs, m => by
    simp only [insAll]
    have h1 := insAll_length ks vs (sIns k v m)
    have h2 := sIns_length k v m
    simp; omega
theorem insAll_sorted : ∀ (ks : List ByteArray) (vs : List GV) (m : List (ByteArray × GV)), Sorted m → Sorted (insAll ks vs m)
  | [], vs, m, h => by simpa [insAll] using h
  | k :: ks, [], m, h => by simpa [insAll] using h
  | k :: ks, v :: vs, m, h => by simp only [insAll]; exact insAll_sorted ks vs _ (sIns_sorted h)
theorem insAll_snoc : ∀ (ks : List ByteArray) (vs : List GV) (m : List (ByteArray × GV)) (i : Nat) (k : ByteArray) (v : GV), ks[i]? = some k → vs[i]? = some v →
    insAll (ks.take (i + 1)) (vs.take (i + 1)) m = sIns k v (insAll (ks.take i) (vs.take i) m)
  | [], _, _, i, _, _, h, _ => by simp at h
  | _ :: _, [], _, i, _, _, _, h => by simp at h
  | q :: ks, u :: vs, m, 0, k, v, hk, hv => by
    simp at hk hv; subst hk; subst hv
    simp [insAll]
  | q :: ks, u :: vs, m, i + 1, k, v, hk, hv => by
    simp only [List.take_succ_cons, insAll]
    exact insAll_snoc ks vs (sIns q u m) i k v (by simpa using hk) (by simpa using hv)
theorem insAll_take : ∀ (ks : List ByteArray) (vs : List GV) (m : List (ByteArray × GV)) (i : Nat), (ks.length ≤ i ∨ vs.length ≤ i) → insAll (ks.take i) (vs.take i) m = insAll ks vs m
  | [], vs, m, i, _ => by simp [insAll]
  | k :: ks, [], m, i, _ => by cases i <;> simp [insAll]
  | k :: ks, v :: vs, m, 0, h => by simp at h
  | k :: ks, v :: vs, m, i + 1, h => by
    simp only [List.take_succ_cons, insAll]
    exact insAll_take ks vs _ i (by simpa using h)
def GivesGV (S : Nat → Prop) (v : GV) (w : World) : Ending → World → Prop := Makes (fun W u => ∃ cs, u = .agg cs.toArray ∧ RepGV S W v cs) w
def CleanC (v : GV) : Prop := ∀ (cs : List Value) (w : World) (S : Nat → Prop), RepGV S w v cs → Calls Try.prog 19 #[.agg cs.toArray] w (GivesGV (w.heap.size ≤ ·) (clean v) w)
theorem RowOf.toGVs {S T : Nat → Prop} {w : World} {A : Option Addr} {l : List GV} (h : RowOf (RG w T) 6 S w A l) (hT : ∀ b, T b → S b) : RepGVs S w A l := RowOf.frame h (fun _ _ => rfl) (fun _ h => h) fun _ _ _ k => RepGV.mono k hT
set_option maxRecDepth 100000 in
set_option maxHeartbeats 1000000 in
theorem plainList_step (l : List GV) (IH : ∀ x ∈ l, CleanC x) (A : Option Addr) (n c : Nat) (w : World) (S : Nat → Prop) (hl : RepGVs S w A l) (hn : l.length = n) (hb : n * 88 ≤ 140737488351232) :
    Calls Try.prog 58 #[.slice A n c] w (Makes (fun W u => ∃ A' c', u = .slice A' n c' ∧ n ≤ c' ∧ RepGVs (w.heap.size ≤ ·) W A' (cleans l)) w) := by
  have Hn := Lib.hid hn; clear hn
  obtain ⟨cur, hmk, hB⟩ := Build.make (P := Try.prog) (R := RG) (S := (w.heap.size ≤ ·)) (T := (w.heap.size ≤ ·)) Try.underlying24 info_val (by omega) w n (by omega) (Nat.le_refl _)
  have HB := Lib.hid hB; clear hB
  go_enter Try.func58, Try.ntmps58
  go_wp2
  clear hmk
  go_loopw [3, 11] (fun v i wr => ∃ k : Nat, k ≤ n ∧ i = .int .i64 k ∧ Hid (Ext w wr) ∧ Hid (Build RG 26 6 (w.heap.size ≤ ·) (w.heap.size ≤ ·) wr v (cleans (l.take k)))) (fun _ i _ => n - (intOf i).toNat)
  case atStart => exact ⟨0, Nat.zero_le _, rfl, (Ext.refl w).alloc _, HB⟩
  case round =>
    obtain ⟨k, hk, rfl, hE, hB⟩ := hrel
    by_cases hlt : k < n
    · obtain ⟨x, hx⟩ : ∃ x, l[k]? = some x := ⟨l[k]'(by rw [Hn.out]; exact hlt), List.getElem?_eq_getElem _⟩
      obtain ⟨bd, d0, d1, d2, d3, d4, d5, rfl, _, hxr, hxc⟩ := (hl.ext hE.out).at hx
      have Hx := Lib.hid hx; clear hx
      obtain ⟨pa, hpa⟩ : ∃ pa, bd.add (k * 6) = pa := ⟨_, rfl⟩
      rw [hpa] at hxc
      obtain ⟨e0, e1, e2, e3, e4, e5⟩ := hxc.six
      obtain ⟨o0, o1, o2, o3, o4, o5⟩ := hxr.six
      go_wp2_with fail
      refine (IH x (List.mem_of_getElem? Hx.out) [d0, d1, d2, d3, d4, d5] _ S (hxr.ext ((Ext.refl _).alloc _))).mono ?_
      rintro e w1 ⟨u, rfl, ⟨cs, rfl, hu⟩, hE1⟩
      obtain ⟨f0, f1, f2, f3, f4, f5, rfl⟩ := hu.list6
      obtain ⟨p0, p1, p2, p3, p4, p5⟩ := hu.six
      have hsz := hE.out.size
      have hE2 : Ext wr w1 := ((Ext.refl wr).alloc _).trans hE1
      have hsz1 := hE1.size
      rw [size_alloc] at hsz1
      have hB1 := hB.out.ext framedRG hE2
      have hlk := hB.out
      obtain ⟨v2, w2, hrun, hB2, hg, hat, A2, c2, hv2⟩ := Build.push (P := Try.prog) framedRG (t := 24) (ty := 24) Try.underlying24 info_val rfl (by omega) (by omega) hB1 (y := clean x) (ys := [f0, f1, f2, f3, f4, f5]) (hu.mono fun b hb => by
        rw [size_alloc] at hb
        exact ⟨by omega, fun hc => by have := hlk.row_lt hc; omega⟩) rfl hu.ones (by omega) (by rw [cleans_eq, List.length_map, List.length_take]; omega)
      have HB2 : Hid (Build RG 26 6 (w.heap.size ≤ ·) (w.heap.size ≤ ·) w2 v2 (cleans (l.take (k + 1)))) := by
        have : cleans (l.take (k + 1)) = cleans (l.take k) ++ [clean x] := by rw [List.take_add_one, Hx.out]; simp [cleans_eq]
        rw [this]; exact hB2
      have HE2 : Hid (Ext w w2) := Below.grown (Below.trans hE.out (hE2.below hsz)) hg (by omega) fun b hb => hlk.row_in hb
      rw [hv2] at hrun HB2
      have HR := Lib.hid hrun
      clear hB2 hg hat hlk hB1 hB hE hu hE1 hE2 hv2 hrun
      go_wp2_with (at_builtin; go_must (refine wpList_append_run HR.out rfl rfl rfl rfl ?_))
      go_roundw
      case rel => exact ⟨k + 1, by omega, by go_num, HE2, HB2⟩
      case measure => simp [intOf]; omega
    · obtain ⟨A', c', rfl, hcap, hrow⟩ := hB.out.done framedRG (by omega)
      have e : l.take k = l := List.take_of_length_le (by rw [Hn.out]; omega)
      have hlen : (cleans (l.take k)).length = n := by rw [e, cleans_eq, List.length_map, Hn.out]
      rw [e] at hrow hcap
      rw [hlen]
      rw [cleans_eq, List.length_map, Hn.out] at hcap
      have HD := Lib.hid (RowOf.toGVs hrow fun b h => h)
      clear hrow hB e hlen
      go_wp2
      go_ret
      exact ⟨_, rfl, ⟨A', c', rfl, hcap, HD.out⟩, hE.out⟩
theorem res6 {fn : Func} {p : Tmp} (h : fn.results = #[.cell p 26]) {tmps : Array Value} {w : World} {g : Nat} {t : TypeId} {c0 c1 c2 c3 c4 c5 : Value} {fr : Nat × Nat} (hp : tmps.getD p undef = .pointer (some ⟨g, 0, none⟩)) (hg : w.heap[g]? = some (.cells #[c0, c1, c2, c3, c4, c5] t fr)) :
    (results fn tmps).run Try.prog w = .ok (.agg #[c0, c1, c2, c3, c4, c5]) w := results_cell_row h tmps w g t _ fr _ hp hg Try.underlying26 rfl (by kernel_rfl)
theorem mkMap_ok {fs : List (ByteArray × GV)} (hn : fs.length * 88 ≤ 140737488351232) (hk : ∀ p ∈ fs, p.1.size ≤ 140737488351232) : GVok 6 0 0 ⟨#[]⟩ (fs.map (·.1)) (fs.map (·.2)) :=
  ⟨by omega, by omega, by omega, Nat.zero_le _, by rw [List.length_map]; omega, fun k hkk => by obtain ⟨p, hp, rfl⟩ := List.mem_map.1 hkk; exact hk p hp, by rw [List.length_map]; omega⟩
set_option maxRecDepth 100000 in
set_option maxHeartbeats 2000000 in
theorem plainMapS_step (kind n : Int) (f : Nat) (s : ByteArray) (keys : List ByteArray) (l : List GV) (IH : ∀ x ∈ l, CleanC x) (cs : List Value) (w : World) (S : Nat → Prop) (hv : RepGV S w (.mk kind n f s keys l) cs) :
    Calls Try.prog 59 #[.agg cs.toArray] w (GivesGV (w.heap.size ≤ ·) (mkMap (insAll keys (cleans l) [])) w) := by
  obtain ⟨ka, kc, la, lc, rfl, ok, hkc, hlc, hks, hls⟩ := hv.open
  have h1 := ok.okKeys
  have h2 := ok.okL
  have Hkeach := Lib.hid ok.okEach
  obtain ⟨nk, hnk⟩ : ∃ n, keys.length = n := ⟨_, rfl⟩
  obtain ⟨nl, hnl⟩ : ∃ n, l.length = n := ⟨_, rfl⟩
  have Hk := Lib.hid hnk; have Hl := Lib.hid hnl
  rw [hnk] at h1 hkc ⊢; rw [hnl] at h2 hlc ⊢
  have Hv := Lib.hid hv
  clear hnk hnl ok hv
  go_enter Try.func59, Try.ntmps59
  go_wp2
  go_loopw [4] (fun i wr => ∃ k : Nat, k ≤ nk ∧ k ≤ nl ∧ i = .int .i64 k ∧ Hid (Ext w wr ∧ wr.heap[w.heap.size]? = some (.cells #[.int .i64 kind, .int .i64 n, .float .f64 f, .string s, .slice ka nk kc, .slice la nl lc] 26 (0, 0)) ∧ wr.heap[w.heap.size + 1]? = some (.cells #[.int .i64 0, .int .i64 0, .float .f64 0, .string ⟨#[]⟩, .slice none 0 0, .slice none 0 0] 26 (0, 0))) ∧ w.heap.size + 3 ≤ wr.heap.size ∧
    Hid (∃ c0 c1 c2 c3 c4 c5, wr.heap[w.heap.size + 2]? = some (.cells #[c0, c1, c2, c3, c4, c5] 26 (0, 0)) ∧ RepGV (w.heap.size + 3 ≤ ·) wr (mkMap (insAll (keys.take k) ((cleans l).take k) [])) [c0, c1, c2, c3, c4, c5])) (fun i _ => nk - (intOf i).toNat)
  case atStart =>
    refine ⟨0, Nat.zero_le _, Nat.zero_le _, rfl, ⟨(((Ext.refl w).alloc _).alloc _).alloc _, old_at _ (old_at _ (new_at _ rfl)), old_at _ (new_at _ (size_alloc _ _))⟩, ?_, ?_⟩
    · simp only [size_alloc]; omega
    · exact ⟨_, _, _, _, _, _, new_at _ (by simp only [size_alloc]), RepGV.close (keys := []) (l := []) (mkMap_ok (fs := []) (by simp) (by simp)) (Nat.zero_le _) (Nat.zero_le _) RowOf.nil RowOf.nil⟩
  case round =>
    obtain ⟨k, hk1, hk2, rfl, hb, hsz, hout⟩ := hrel
    have f4 := cell_of hb.out.2.1 (i := 4) rfl
    have f5 := cell_of hb.out.2.1 (i := 5) rfl
    by_cases hlt : k < nk
    · by_cases hlt2 : k < nl
      · obtain ⟨q, hq⟩ : ∃ q, keys[k]? = some q := ⟨keys[k]'(by rw [Hk.out]; exact hlt), List.getElem?_eq_getElem _⟩
        obtain ⟨x, hx⟩ : ∃ x, l[k]? = some x := ⟨l[k]'(by rw [Hl.out]; exact hlt2), List.getElem?_eq_getElem _⟩
        have hE := hb.out.1
        obtain ⟨ad, rfl, cq⟩ := (hks.ext hE).at hq
        obtain ⟨bd, d0, d1, d2, d3, d4, d5, rfl, _, hxr, hxc⟩ := (hls.ext hE).at hx
        have Hq := Lib.hid hq; have Hx := Lib.hid hx; clear hq hx
        obtain ⟨pa, hpa⟩ : ∃ pa, bd.add (k * 6) = pa := ⟨_, rfl⟩
        rw [hpa] at hxc
        obtain ⟨e0, e1, e2, e3, e4, e5⟩ := hxc.six
        obtain ⟨o0, o1, o2, o3, o4, o5⟩ := hxr.six
        obtain ⟨c0, c1, c2, c3, c4, c5, hbo, hrep⟩ := hout.out
        have g0 := cell_of hbo (i := 0) rfl; have g1 := cell_of hbo (i := 1) rfl; have g2 := cell_of hbo (i := 2) rfl
        have g3 := cell_of hbo (i := 3) rfl; have g4 := cell_of hbo (i := 4) rfl; have g5 := cell_of hbo (i := 5) rfl
        have Hbo := Lib.hid hbo; have Hrep := Lib.hid hrep
        clear hbo hrep hE
        go_wp2
        have hk0 : (0 : Int) ≤ (k : Int) := by omega
        have hk3 : (k : Int) < (nk : Int) := by omega
        have hk4 : (k : Int) < (nl : Int) := by omega
        refine wp_region_E [13] (by kernel_rfl) ?_
        refine E_takes (listed' := lst 14 [0, 1, 2, 3, 4, 5, 6, 7, 8, 9, 10]) [0, 1, 2, 3, 4, 5, 6, 7, 8, 9, 10] 3 (by kernel_rfl) (fun _ _ _ _ h => h) (by kernel_rfl) rfl (by kernel_rfl) ?_
        repeat (refine qIdx_step rfl ?_; go_big_quiet_step (fail); refine wpQuiet_nil ?_)
        refine qIdx_nil ?_
        obtain ⟨wd, hwd⟩ : ∃ W, wr.drew = W := ⟨_, rfl⟩
        rw [hwd]
        have HEd : Hid (Ext wr wd) := by rw [← hwd]; exact (Ext.refl wr).drew
        clear hwd
        refine E_one (n := 2) (i := 11) (listed' := lst 14 [0, 1, 2, 3, 4, 5, 6, 7, 8, 9, 10, 11]) (by kernel_rfl) rfl rfl (by kernel_rfl) ?_
        go_wp2_with fail
        refine (IH x (List.mem_of_getElem? Hx.out) [d0, d1, d2, d3, d4, d5] _ S (hxr.ext HEd.out)).mono ?_
        rintro e w1 ⟨u, rfl, ⟨cv, rfl, hu⟩, hE1⟩
        have hE02 := (hb.out.1.trans HEd.out).trans hE1
        have hsz2 := HEd.out.size
        have hsz3 := hE1.size
        go_wp2_with fail
        refine ⟨hE1, ?_⟩
        refine E_one (n := 1) (i := 12) (listed' := lst 14 [0, 1, 2, 3, 4, 5, 6, 7, 8, 9, 10, 11, 12]) (by kernel_rfl) rfl rfl (by kernel_rfl) ?_
        go_wp2_with fail
        refine (withField_c 6 0 0 ⟨#[]⟩ (insAll (keys.take k) ((cleans l).take k) []) q (clean x) _ cv w1 (w.heap.size + 3 ≤ ·) (Hrep.out.ext (HEd.out.trans hE1)) (hu.mono fun b hb => by omega) (insAll_sorted _ _ _ .nil) (by have := insAll_length (keys.take k) ((cleans l).take k) []; simp only [List.length_take, List.length_nil] at this; omega) (Hkeach.out q (List.mem_of_getElem? Hq.out))).mono ?_
        rintro e w2 ⟨u, rfl, ⟨cf, rfl, huf⟩, hE2⟩
        go_wp2_with fail
        refine ⟨hE2, ?_⟩
        obtain ⟨f0, f1, f2, f3, f4, f5, rfl⟩ := huf.list6
        obtain ⟨p0, p1, p2, p3, p4, p5⟩ := huf.six
        have hE3 := (HEd.out.trans hE1).trans hE2
        have hbo2 := hE3.heap Hbo.out
        have hz : ∀ o, w2.frozen? ⟨w.heap.size + 1 + 1, o, none⟩ = false := fun o => by simp [World.frozen?, hbo2]
        have g0 := cell_of hbo2 (i := 0) rfl; have g1 := cell_of hbo2 (i := 1) rfl; have g2 := cell_of hbo2 (i := 2) rfl
        have g3 := cell_of hbo2 (i := 3) rfl; have g4 := cell_of hbo2 (i := 4) rfl; have g5 := cell_of hbo2 (i := 5) rfl
        have HB2 := Lib.hid hbo2; have HUF := Lib.hid huf; have HE3 := Lib.hid hE3
        have hsz4 := hE3.size
        clear hbo2 huf hE3 hE1 hE2 hE02 hu
        refine E_bar (n := 0) (i := 13) (listed' := lst 14 [0, 1, 2, 3, 4, 5, 6, 7, 8, 9, 10, 11, 12, 13]) (by kernel_rfl) rfl rfl rfl (by kernel_rfl) ?_
        go_wp2
        refine E_done (by kernel_rfl) ?_
        have e : (cleans l)[k]? = some (clean x) := by rw [cleans_eq]; simp [Hx.out]
        have HN : Hid (∃ c0 c1 c2 c3 c4 c5, (six w2 (w.heap.size + 1 + 1) f0 f1 f2 f3 f4 f5).heap[w.heap.size + 2]? = some (.cells #[c0, c1, c2, c3, c4, c5] 26 (0, 0)) ∧ RepGV (w.heap.size + 3 ≤ ·) (six w2 (w.heap.size + 1 + 1) f0 f1 f2 f3 f4 f5) (mkMap (insAll (keys.take (k + 1)) ((cleans l).take (k + 1)) [])) [c0, c1, c2, c3, c4, c5]) := by
          rw [insAll_snoc keys (cleans l) [] k q (clean x) Hq.out e]
          refine ⟨_, _, _, _, _, _, six_at HB2.out _ _ _ _ _ _, ?_⟩
          exact RepGV.frame (S' := (w.heap.size + 3 ≤ ·)) ((six_same w2 (w.heap.size + 1 + 1) _ _ _ _ _ _).mono fun b hb => by omega) (fun b hb => by omega) HUF.out
        have HM : Hid (Ext w (six w2 (w.heap.size + 1 + 1) f0 f1 f2 f3 f4 f5) ∧ (six w2 (w.heap.size + 1 + 1) f0 f1 f2 f3 f4 f5).heap[w.heap.size]? = some (.cells #[.int .i64 kind, .int .i64 n, .float .f64 f, .string s, .slice (some ad) nk kc, .slice (some bd) nl lc] 26 (0, 0)) ∧ (six w2 (w.heap.size + 1 + 1) f0 f1 f2 f3 f4 f5).heap[w.heap.size + 1]? = some (.cells #[.int .i64 0, .int .i64 0, .float .f64 0, .string ⟨#[]⟩, .slice none 0 0, .slice none 0 0] 26 (0, 0))) :=
          ⟨six_ext (hb.out.1.trans HE3.out) (by omega) _ _ _ _ _ _, (six_same w2 (w.heap.size + 1 + 1) _ _ _ _ _ _ _ (by omega)).trans (HE3.out.heap hb.out.2.1), (six_same w2 (w.heap.size + 1 + 1) _ _ _ _ _ _ _ (by omega)).trans (HE3.out.heap hb.out.2.2)⟩
        have hsz5 : w.heap.size + 3 ≤ (six w2 (w.heap.size + 1 + 1) f0 f1 f2 f3 f4 f5).heap.size := by rw [six_size]; omega
        clear hout hb
        go_wp2
        go_roundw
        case rel => exact ⟨k + 1, by omega, by omega, by go_num, HM, hsz5, HN⟩
        case measure => simp [intOf]; omega
      · have hk0 : (0 : Int) ≤ (k : Int) := by omega
        have hk3 : (k : Int) < (nk : Int) := by omega
        have hk4 : ¬ (k : Int) < (nl : Int) := by omega
        obtain ⟨c0, c1, c2, c3, c4, c5, hbo, hrep⟩ := hout.out
        rw [insAll_take keys (cleans l) [] k (by rw [cleans_eq, List.length_map, Hl.out]; omega)] at hrep
        obtain ⟨o0, o1, o2, o3, o4, o5⟩ := hrep.six
        have g0 := cell_of hbo (i := 0) rfl; have g1 := cell_of hbo (i := 1) rfl; have g2 := cell_of hbo (i := 2) rfl
        have g3 := cell_of hbo (i := 3) rfl; have g4 := cell_of hbo (i := 4) rfl; have g5 := cell_of hbo (i := 5) rfl
        have q0 := cell_of hb.out.2.2 (i := 0) rfl; have q1 := cell_of hb.out.2.2 (i := 1) rfl; have q2 := cell_of hb.out.2.2 (i := 2) rfl
        have q3 := cell_of hb.out.2.2 (i := 3) rfl; have q4 := cell_of hb.out.2.2 (i := 4) rfl; have q5 := cell_of hb.out.2.2 (i := 5) rfl
        have hz : ∀ o, wr.frozen? ⟨w.heap.size + 1, o, none⟩ = false := fun o => by simp [World.frozen?, hb.out.2.2]
        have Hrep := Lib.hid hrep
        clear hbo hrep
        go_wp2
        have HQ : Hid ((six wr (w.heap.size + 1) c0 c1 c2 c3 c4 c5).heap[w.heap.size + 1]? = some (.cells #[c0, c1, c2, c3, c4, c5] 26 (0, 0))) := six_at hb.out.2.2 _ _ _ _ _ _
        have HEq : Hid (Ext w (six wr (w.heap.size + 1) c0 c1 c2 c3 c4 c5)) := six_ext hb.out.1 (by omega) _ _ _ _ _ _
        have HRq : Hid (RepGV (w.heap.size ≤ ·) (six wr (w.heap.size + 1) c0 c1 c2 c3 c4 c5) (mkMap (insAll keys (cleans l) [])) [c0, c1, c2, c3, c4, c5]) := RepGV.frame (S' := (w.heap.size ≤ ·)) ((six_same wr (w.heap.size + 1) _ _ _ _ _ _).mono fun b hb => by omega) (fun b hb => by omega) Hrep.out
        refine bodyPost_ret (res6 Try.results59 rfl HQ.out) rfl ?_
        exact ⟨_, rfl, ⟨_, rfl, HRq.out⟩, HEq.out⟩
    · have hk0 : (0 : Int) ≤ (k : Int) := by omega
      have hk3 : ¬ (k : Int) < (nk : Int) := by omega
      obtain ⟨c0, c1, c2, c3, c4, c5, hbo, hrep⟩ := hout.out
      rw [insAll_take keys (cleans l) [] k (.inl (by rw [Hk.out]; omega))] at hrep
      obtain ⟨o0, o1, o2, o3, o4, o5⟩ := hrep.six
      have g0 := cell_of hbo (i := 0) rfl; have g1 := cell_of hbo (i := 1) rfl; have g2 := cell_of hbo (i := 2) rfl
      have g3 := cell_of hbo (i := 3) rfl; have g4 := cell_of hbo (i := 4) rfl; have g5 := cell_of hbo (i := 5) rfl
      have q0 := cell_of hb.out.2.2 (i := 0) rfl; have q1 := cell_of hb.out.2.2 (i := 1) rfl; have q2 := cell_of hb.out.2.2 (i := 2) rfl
      have q3 := cell_of hb.out.2.2 (i := 3) rfl; have q4 := cell_of hb.out.2.2 (i := 4) rfl; have q5 := cell_of hb.out.2.2 (i := 5) rfl
      have hz : ∀ o, wr.frozen? ⟨w.heap.size + 1, o, none⟩ = false := fun o => by simp [World.frozen?, hb.out.2.2]
      have Hrep := Lib.hid hrep
      clear hbo hrep
      go_wp2
      have HQ : Hid ((six wr (w.heap.size + 1) c0 c1 c2 c3 c4 c5).heap[w.heap.size + 1]? = some (.cells #[c0, c1, c2, c3, c4, c5] 26 (0, 0))) := six_at hb.out.2.2 _ _ _ _ _ _
      have HEq : Hid (Ext w (six wr (w.heap.size + 1) c0 c1 c2 c3 c4 c5)) := six_ext hb.out.1 (by omega) _ _ _ _ _ _
      have HRq : Hid (RepGV (w.heap.size ≤ ·) (six wr (w.heap.size + 1) c0 c1 c2 c3 c4 c5) (mkMap (insAll keys (cleans l) [])) [c0, c1, c2, c3, c4, c5]) := RepGV.frame (S' := (w.heap.size ≤ ·)) ((six_same wr (w.heap.size + 1) _ _ _ _ _ _).mono fun b hb => by omega) (fun b hb => by omega) Hrep.out
      refine bodyPost_ret (res6 Try.results59 rfl HQ.out) rfl ?_
      exact ⟨_, rfl, ⟨_, rfl, HRq.out⟩, HEq.out⟩
end Go.Smd
end
section
set_option linter.unusedSimpArgs false
namespace Go.Smd
open Go.RowKit Go.Proofs
mutual
def Fits : Tree → Prop
  | .list l => l.length * 88 ≤ 140737488351232 ∧ FitsL l
  | .map m => m.length * 88 ≤ 140737488351232 ∧ (m.map (·.1)).Nodup ∧ FitsM m
  | _ => True
def FitsL : List Tree → Prop
  | [] => True
  | x :: l => Fits x ∧ FitsL l
def FitsM : List (ByteArray × Tree) → Prop
  | [] => True
  | p :: m => Fits p.2 ∧ FitsM m
end
theorem FitsL.mem : ∀ {l : List Tree}, FitsL l → ∀ x ∈ l, Fits x
  | [], _, x, h => by cases h
  | y :: l, hf, x, h => by
    simp only [FitsL] at hf
    rcases List.mem_cons.1 h with rfl | h
    · exact hf.1
    · exact FitsL.mem hf.2 x h
theorem FitsM.mem : ∀ {m : List (ByteArray × Tree)}, FitsM m → ∀ p ∈ m, Fits p.2
  | [], _, x, h => by cases h
  | y :: l, hf, x, h => by
    simp only [FitsM] at hf
    rcases List.mem_cons.1 h with rfl | h
    · exact hf.1
    · exact FitsM.mem hf.2 x h
theorem ins_mem (k q : ByteArray) (t : Tree) : ∀ m : Fields, q ∈ (ins k t m).map (·.1) ↔ q = k ∨ q ∈ m.map (·.1)
  | [] => by simp [ins]
  | p :: m => by
    simp only [ins]
    by_cases h : p.1 = k
    · rw [if_pos h]; simp [h]
    · rw [if_neg h]
      have := ins_mem k q t m
      simp only [List.map_cons, List.mem_cons, this]
      constructor <;> rintro (h | h | h) <;> simp [h]
theorem ins_in {k : ByteArray} {t : Tree} {p : ByteArray × Tree} : ∀ {m : Fields}, p ∈ ins k t m → p = (k, t) ∨ p ∈ m
  | [], h => by simp [ins] at h; exact .inl h
  | q :: m, h => by
    simp only [ins] at h
    split at h
    · rcases List.mem_cons.1 h with h | h
      · exact .inl h
      · exact .inr (List.mem_cons_of_mem _ h)
    · rcases List.mem_cons.1 h with h | h
      · exact .inr (h ▸ List.mem_cons_self ..)
      · rcases ins_in h with h | h
        · exact .inl h
        · exact .inr (List.mem_cons_of_mem _ h)
theorem ins_nodup {k : ByteArray} {t : Tree} : ∀ {m : Fields}, (m.map (·.1)).Nodup → ((ins k t m).map (·.1)).Nodup
  | [], _ => by simp [ins]
  | q :: m, h => by
    simp only [List.map_cons, List.nodup_cons] at h
    simp only [ins]
    split
    · next e => simp only [List.map_cons, List.nodup_cons]; rw [← e]; exact h
    · next e =>
      simp only [List.map_cons, List.nodup_cons]
      refine ⟨fun hm => ?_, ins_nodup h.2⟩
      rcases (ins_mem k q.1 t m).1 hm with h' | h'
      · exact e h'
      · exact h.1 h'
theorem ins_le (k : ByteArray) (t : Tree) : ∀ m : Fields, (ins k t m).length ≤ m.length + 1
  | [] => by simp [ins]
  | q :: m => by simp only [ins]; split <;> simp; exact ins_le k t m
theorem mapOf_fits : ∀ (ks : List ByteArray) (ts : List Tree) (m : Fields), (m.map (·.1)).Nodup → (∀ p ∈ m, Fits p.2) → (∀ t ∈ ts, Fits t) →
    ((mapOf ks ts m).map (·.1)).Nodup ∧ (∀ p ∈ mapOf ks ts m, Fits p.2) ∧ (mapOf ks ts m).length ≤ m.length + ts.length
  | [], ts, m, h1, h2, _ => by cases ts <;> exact ⟨by simpa [mapOf] using h1, by simpa [mapOf] using h2, by simp [mapOf]⟩
  | k :: ks, [], m, h1, h2, _ => ⟨by simpa [mapOf] using h1, by simpa [mapOf] using h2, by simp [mapOf]⟩
  | k :: ks, t :: ts, m, h1, h2, h3 => by
    simp only [mapOf]
    obtain ⟨a, b, c⟩ := mapOf_fits ks ts (ins k t m) (ins_nodup h1) (fun p hp => by
      rcases ins_in hp with rfl | hp
      · exact h3 t (List.mem_cons_self ..)
      · exact h2 p hp) fun t ht => h3 t (List.mem_cons_of_mem _ ht)
    exact ⟨a, b, by have := ins_le k t m; simp; omega⟩
theorem FitsL.of : ∀ {l : List Tree}, (∀ x ∈ l, Fits x) → FitsL l
  | [], _ => by simp [FitsL]
  | x :: l, h => by simp only [FitsL]; exact ⟨h x (List.mem_cons_self ..), FitsL.of fun y hy => h y (List.mem_cons_of_mem _ hy)⟩
theorem FitsM.of : ∀ {l : List (ByteArray × Tree)}, (∀ x ∈ l, Fits x.2) → FitsM l
  | [], _ => by simp [FitsM]
  | x :: l, h => by simp only [FitsM]; exact ⟨h x (List.mem_cons_self ..), FitsM.of fun y hy => h y (List.mem_cons_of_mem _ hy)⟩
theorem tree_fits {S : Nat → Prop} {w : World} {v : GV} {cs : List Value} (h : RepGV S w v cs) : Fits (treeOf v) := by
  induction h with
  | @mk kind n f s keys l ka la kc lc ok hkc hlc hk ll hl hc ih =>
    have hall : ∀ t ∈ treesOf l, Fits t := fun t ht => by
      rw [treesOf_eq] at ht
      obtain ⟨x, hx, rfl⟩ := List.mem_map.1 ht
      obtain ⟨j, hj, rfl⟩ := List.getElem_of_mem hx
      exact ih j l[j] (List.getElem?_eq_getElem hj)
    have hlen : (treesOf l).length = l.length := by rw [treesOf_eq, List.length_map]
    have hL := ok.okL
    simp only [treeOf]
    repeat' split
    all_goals (try trivial)
    all_goals (try simp only [Fits])
    · exact ⟨by rw [hlen]; exact hL, FitsL.of hall⟩
    · obtain ⟨a, b, c⟩ := mapOf_fits keys (treesOf l) [] (by simp) (by simp) hall
      refine ⟨?_, a, FitsM.of b⟩
      rw [hlen] at c
      simp at c
      omega
end Go.Smd
end
