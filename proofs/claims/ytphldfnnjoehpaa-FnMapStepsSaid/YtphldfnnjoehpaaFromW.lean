/- The walk of impl.fromTree at a map; the whole. -/
import Derived.Test.YtphldfnnjoehpaaFromM
set_option linter.unusedSimpArgs false
namespace Go.Smd
open Go.RowKit Go.Proofs

set_option maxRecDepth 100000 in
set_option maxHeartbeats 4000000 in
theorem from_map (m : List (ByteArray × Tree)) (IH : ∀ p ∈ m, FromC p.2) : FromC (.map m) := by
  intro x w S hx hfit
  simp only [Fits] at hfit
  obtain ⟨hlen, hnd, hfl⟩ := hfit
  have hE0 : Ext w (w.alloc (.cells #[.int .i64 0, .int .i64 0, .float .f64 0, .string ⟨#[]⟩, .slice none 0 0, .slice none 0 0] 26)) := (Ext.refl w).alloc _
  have hB0 := new_at (w := w) (.cells #[.int .i64 0, .int .i64 0, .float .f64 0, .string ⟨#[]⟩, .slice none 0 0, .slice none 0 0] 26) rfl
  have hs0 := size_alloc w (.cells #[.int .i64 0, .int .i64 0, .float .f64 0, .string ⟨#[]⟩, .slice none 0 0, .slice none 0 0] 26)
  obtain ⟨r, es, clock, rfl, hr, hm47, hk, hs, hb, hbc, hat⟩ := hx.map_inv hnd
  obtain ⟨fs, hfs⟩ : ∃ fs, fromMs m = fs := ⟨_, rfl⟩
  have hso : (fs.map (·.1)).Pairwise fun a b => blt a b = true := hfs ▸ fromMs_sorted m
  have hmem : ∀ q, q ∈ fs.map (·.1) ↔ q ∈ m.map (·.1) := fun q => hfs ▸ fromMs_keys q m
  have hfm : ∀ k v, (k, v) ∈ fs → ∃ t, (k, t) ∈ m ∧ v = fromT t := fun k v h => fromMs_mem (hfs ▸ h)
  have hfn : fs.length ≤ m.length := by
    rw [← hfs]; clear hfs hso hmem hfm hat hk hs hb hbc hm47 hr hx hfl hnd hlen IH
    induction m with
    | nil => simp [fromMs]
    | cons p m ih => simp only [fromMs]; have := sIns_length p.1 (fromT p.2) (fromMs m); simp; omega
  have hr0 := hE0.heap hr
  have hsk := fun (W : World) (e : Ext w W) => sortedKeys_c W r clock es (m.map (·.1)) (fs.map (·.1)) (e.heap hr) (by simp; omega) hk hs hb hbc hnd hso hmem
  obtain ⟨n, hn⟩ : ∃ n, fs.length = n := ⟨_, rfl⟩
  have Hn := Lib.hid hn
  simp only [List.length_map, hn] at hsk
  have HSK := Lib.hid hsk
  have hks' : ∀ k ∈ fs.map (·.1), k.size ≤ 140737488351232 := fun k hkk => hs k ((hmem k).1 hkk)
  have HAt := Lib.hid hat; have HFL := Lib.hid hfl; have HNd := Lib.hid hnd; have HFm := Lib.hid hfm; have HFs := Lib.hid hfs; have Hks' := Lib.hid hks'
  have HR0 : Hid (w.heap[r]? = some (.map es.toArray clock)) := hr
  rw [hn] at hfn
  clear hat hfl hx hr hr0 hk hs hb hbc hnd hso hmem hfm hfs hsk hks' hn
  go_enter Try.func90, Try.ntmps90
  go_upto_region 1 with fail
  generalize w.alloc (.cells #[.int .i64 0, .int .i64 0, .float .f64 0, .string ⟨#[]⟩, .slice none 0 0, .slice none 0 0] 26) = w2 at hE0 hB0 hs0 ⊢
  have HE := Lib.hid hE0; have HB := Lib.hid hB0; have Hs0 := Lib.hid hs0
  clear hE0 hB0 hs0
  go_upto_region 28 with fail
  have hE3 : Ext w2 (w2.alloc (.cells #[.int .i64 6, .int .i64 0, .float .f64 0, .string ⟨#[]⟩, .slice none 0 0, .slice none 0 0] 26)) := (Ext.refl w2).alloc _
  have hO3 := new_at (w := w2) (.cells #[.int .i64 6, .int .i64 0, .float .f64 0, .string ⟨#[]⟩, .slice none 0 0, .slice none 0 0] 26) rfl
  have hs3 := size_alloc w2 (.cells #[.int .i64 6, .int .i64 0, .float .f64 0, .string ⟨#[]⟩, .slice none 0 0, .slice none 0 0] 26)
  generalize w2.alloc (.cells #[.int .i64 6, .int .i64 0, .float .f64 0, .string ⟨#[]⟩, .slice none 0 0, .slice none 0 0] 26) = w3 at hE3 hO3 hs3 ⊢
  have HE3 := Lib.hid hE3; have HO3 := Lib.hid hO3; have Hs3 := Lib.hid hs3
  clear hE3 hO3 hs3
  go_wp2_with fail
  refine (HSK.out w3 (HE.out.trans HE3.out)).mono ?_
  rintro e w4 ⟨u, rfl, ⟨Ak, ck, rfl, hck, hkr⟩, hE4⟩
  have hO4 := hE4.heap HO3.out
  have hs4 := hE4.size
  have z4 := cell_of hO4 (i := 4) rfl
  have hz4 : ∀ o, w4.frozen? ⟨w2.heap.size, o, none⟩ = false := fun o => by simp [World.frozen?, hO4]
  have HKR := Lib.hid hkr.lt
  have HL : Hid (LSm w2 w4 (w4.setCell ⟨w2.heap.size, 4, none⟩ (.slice Ak n ck)) 6 (.slice Ak n ck) (.slice none 0 0) []) :=
    ⟨((HE3.out.trans hE4)).setCell (Nat.le_refl _) _, by have := Hs3.out; omega, by simp [World.setCell], setCell_at _ hO4, fun b h1 h2 => setCell_same w4 _ 4 _ b (by omega), Build.nil⟩
  have hw4 : w2.heap.size < w4.heap.size := by have := Hs3.out; omega
  clear hO4 hkr
  have HE4 := Lib.hid hE4
  clear hE4
  go_upto_region 29 with fail
  generalize w4.setCell ⟨w2.heap.size, 4, none⟩ (.slice Ak n ck) = w5 at HL ⊢
  have k4 := cell_of HL.out.out (i := 4) rfl
  clear z4 hz4
  go_wp2
  clear k4
  go_loopw [66] (fun i wr => ∃ (k : Nat) (lv : Value), k ≤ n ∧ i = .int .i64 k ∧ Hid (LSm w2 w4 wr 6 (.slice Ak n ck) lv ((fs.map (·.2)).take k))) (fun i _ => n - (intOf i).toNat)
  case atStart => exact ⟨0, _, Nat.zero_le _, rfl, HL⟩
  case round =>
    obtain ⟨k, lv, hk, rfl, hl⟩ := hrel
    have hKS : RepStrs (w2.heap.size < ·) wr Ak (fs.map (·.1)) := RowOf.frame HKR.out (S' := (w2.heap.size < ·)) (fun b hb => hl.out.mid b (by have := Hs3.out; omega) hb.2) (fun b hb => by have := Hs3.out; omega) fun _ _ _ h => h
    by_cases hlt : k < n
    · obtain ⟨⟨q, v⟩, hq⟩ : ∃ x, fs[k]? = some x := ⟨fs[k]'(by rw [Hn.out]; exact hlt), List.getElem?_eq_getElem _⟩
      obtain ⟨t, htm, rfl⟩ := HFm.out q v (List.mem_of_getElem? hq)
      obtain ⟨ad, rfl, cq⟩ := hKS.at (j := k) (s := q) (by rw [List.getElem?_map, hq]; rfl)
      obtain ⟨y, hry, hlook⟩ := HAt.out (q, t) htm
      have Hq := Lib.hid hq; have Htm := Lib.hid htm
      have Hry := Lib.hid (hry.ext (HE.out.trans hl.out.ext))
      have hrw := (HE.out.trans hl.out.ext).heap HR0.out
      have hlk : ∀ g : Grow wr.drew, (Instr.lookup 154 (.map (some r)) (.string q) false).run Try.prog g.val = .ok y g.val := fun g => hlook g.val ((g.heapq r (by show (wr.heap[r]?).isSome = true; rw [hrw]; rfl)).trans hrw)
      clear hq htm hry hlook hKS hrw
      have e1 : ((fs.map (·.2)).take k).length = k := by rw [List.length_take, List.length_map, Hn.out]; omega
      have hlv := hl.out.bl.slice
      rw [e1] at hlv
      obtain ⟨A1, c1, rfl⟩ := hlv
      have f5 := cell_of hl.out.out (i := 5) rfl
      go_wp2
      refine wp_region_E [7, 9] (by kernel_rfl) ?_
      refine E_takes (listed' := lst 10 [0, 1, 2, 3, 4]) [0, 1, 2, 3, 4] 5 (by kernel_rfl) (fun _ _ _ _ h => h) (by kernel_rfl) rfl (by kernel_rfl) ?_
      repeat (refine qIdx_step rfl ?_; go_big_quiet_step (fail); refine wpQuiet_nil ?_)
      refine qIdx_nil ?_
      have HL1 : Hid (LSm w2 w4 wr.drew 6 (.slice (some ad) n ck) (.slice A1 k c1) ((fs.map (·.2)).take k)) := hl.out.grow (Ext.refl wr).drew
      have Hry1 : Hid (RepT wr.drew S t y) := Hry.out.ext (Ext.refl wr).drew
      clear hl f5 hlk Hry cq
      generalize wr.drew = w6 at HL1 Hry1 ⊢
      refine E_one (n := 4) (i := 5) (listed' := lst 10 [0, 1, 2, 3, 4, 5]) (by kernel_rfl) rfl rfl (by kernel_rfl) ?_
      go_wp2_with fail
      refine (IH (q, t) Htm.out y w6 S Hry1.out (FitsM.mem HFL.out (q, t) Htm.out)).mono ?_
      rintro e w7 ⟨u, rfl, ⟨cs, rfl, hu⟩, hE7⟩
      obtain ⟨f0, f1, f2, f3, f4, f5, rfl⟩ := hu.list6
      obtain ⟨p0, p1, p2, p3, p4, p5⟩ := hu.six
      have hL7 := HL1.out.grow hE7
      obtain ⟨lv', w8, hrun, ⟨A8, c8, rfl⟩, hc8, hz8, hL8⟩ := hL7.push (v := fromT t) (cs := [f0, f1, f2, f3, f4, f5]) (hu.mono fun b hb => ⟨by have := HL1.out.szk; omega, fun hc => by have := (HL1.out.own hc).2; omega⟩) (N := k + 1) (by rw [e1]) (by omega)
      have e2 : (fs.map (·.2)).take k ++ [fromT t] = (fs.map (·.2)).take (k + 1) := by rw [List.take_add_one, List.getElem?_map, Hq.out]; rfl
      rw [e2] at hL8
      have HR := Lib.hid hrun; have HL8 := Lib.hid hL8
      clear hrun hL8 hL7 hu e2 e1
      go_wp2_with fail
      refine ⟨hE7, ?_⟩
      refine E_one (n := 3) (i := 6) (listed' := lst 10 [0, 1, 2, 3, 4, 5, 6]) (by kernel_rfl) rfl rfl (by kernel_rfl) ?_
      go_wp2_with fail
      refine ⟨(Ext.refl _).alloc _, ?_⟩
      refine E_bar (n := 2) (i := 7) (listed' := lst 10 [0, 1, 2, 3, 4, 5, 6, 7]) (by kernel_rfl) rfl rfl rfl (by kernel_rfl) ?_
      refine wpList_append_run HR.out rfl rfl rfl rfl ?_
      refine E_end ?_
      simp only [Act.put, List.setIfInBounds_toArray, List.set_cons_zero, List.set_cons_succ]
      refine E_takes (listed' := lst 10 [0, 1, 2, 3, 4, 5, 6, 7, 8]) [8] 1 (by kernel_rfl) (fun _ _ _ _ h => h) (by kernel_rfl) rfl (by kernel_rfl) ?_
      repeat (refine qIdx_step rfl ?_; go_big_quiet_step (fail); refine wpQuiet_nil ?_)
      refine qIdx_nil ?_
      refine E_bar (n := 0) (i := 9) (listed' := lst 10 [0, 1, 2, 3, 4, 5, 6, 7, 8, 9]) (by kernel_rfl) rfl rfl rfl (by kernel_rfl) ?_
      go_wp2
      refine E_done (by kernel_rfl) ?_
      clear HR hc8 hz8 hE7
      generalize w8.setCell ⟨w2.heap.size, 5, none⟩ (.slice A8 (k + 1) c8) = w9 at HL8 ⊢
      go_wp2
      go_roundw
      case rel => exact ⟨k + 1, _, by omega, by go_num, HL8⟩
      case measure => simp [intOf]; omega
    · have e : (fs.map (·.2)).take k = fs.map (·.2) := List.take_of_length_le (by rw [List.length_map, Hn.out]; omega)
      rw [e] at hl
      obtain ⟨A1, c1, rfl, hcc, hrow⟩ := hl.out.bl.done framedRG (by omega)
      have hln : (fs.map (·.2)).length = n := by rw [List.length_map, Hn.out]
      have hln1 : (fs.map (·.1)).length = n := by rw [List.length_map, Hn.out]
      rw [hln] at hcc hl
      have h0 := cell_of hl.out.out (i := 0) rfl; have h1 := cell_of hl.out.out (i := 1) rfl; have h2 := cell_of hl.out.out (i := 2) rfl; have h3 := cell_of hl.out.out (i := 3) rfl; have h4 := cell_of hl.out.out (i := 4) rfl; have h5 := cell_of hl.out.out (i := 5) rfl
      have HB2 := Lib.hid (hl.out.ext.heap HB.out)
      have hz : ∀ o, wr.frozen? ⟨w.heap.size, o, none⟩ = false := fun o => by simp [World.frozen?, HB2.out]
      have g0 := cell_of HB2.out (i := 0) rfl; have g1 := cell_of HB2.out (i := 1) rfl; have g2 := cell_of HB2.out (i := 2) rfl; have g3 := cell_of HB2.out (i := 3) rfl; have g4 := cell_of HB2.out (i := 4) rfl; have g5 := cell_of HB2.out (i := 5) rfl
      have HEW := Lib.hid (HE.out.trans hl.out.ext)
      have hs0 := Hs0.out
      have HRP : Hid (RepGV (w.heap.size ≤ ·) (six wr w.heap.size (.int .i64 6) (.int .i64 0) (.float .f64 0) (.string ⟨#[]⟩) (.slice Ak n ck) (.slice A1 n c1)) (fromT (.map m)) [.int .i64 6, .int .i64 0, .float .f64 0, .string ⟨#[]⟩, .slice Ak n ck, .slice A1 n c1]) := by
        have hsm := fun b (hb : w.heap.size < b) => six_same wr w.heap.size (.int .i64 6) (.int .i64 0) (.float .f64 0) (.string ⟨#[]⟩) (.slice Ak n ck) (.slice A1 n c1) b (by omega)
        have hr : RepGVs (w.heap.size ≤ ·) (six wr w.heap.size (.int .i64 6) (.int .i64 0) (.float .f64 0) (.string ⟨#[]⟩) (.slice Ak n ck) (.slice A1 n c1)) A1 (fs.map (·.2)) := RowOf.frame (R' := RepGV (w.heap.size ≤ ·) (six wr w.heap.size (.int .i64 6) (.int .i64 0) (.float .f64 0) (.string ⟨#[]⟩) (.slice Ak n ck) (.slice A1 n c1))) (S' := (w.heap.size ≤ ·)) hrow (fun b hb => hsm b (by omega)) (fun b hb => by omega) fun x _ cs k => RepGV.frame (S := (w4.heap.size ≤ ·)) (fun b hb => hsm b (by omega)) (fun b hb => by omega) k
        have hkk : RepStrs (w.heap.size ≤ ·) (six wr w.heap.size (.int .i64 6) (.int .i64 0) (.float .f64 0) (.string ⟨#[]⟩) (.slice Ak n ck) (.slice A1 n c1)) Ak (fs.map (·.1)) := RepStrs.frame hKS (fun b hb => hsm b (by omega)) (fun b hb => by omega)
        have := RepGV.close (keys := fs.map (·.1)) (l := fs.map (·.2)) (kind := 6) (n := 0) (f := 0) (s := ⟨#[]⟩) (kc := ck) (lc := c1) ⟨by omega, by omega, by omega, Nat.zero_le _, by rw [hln1]; omega, Hks'.out, by rw [hln]; omega⟩ (by omega) (by omega) hkk hr
        rw [hln, hln1] at this
        simp only [fromT, HFs.out]; exact this
      clear hl hrow hs0 hKS
      go_wp2
      (try simp only [Exit.inBlock, Exit.then]); refine bodyPost_ret (res6 Try.results90 rfl (leafs HEW.out (Nat.le_refl _) HB2.out (.int .i64 6) (.int .i64 0) (.float .f64 0) (.string ⟨#[]⟩) (.slice Ak n ck) (.slice A1 n c1)).1) rfl ?_
      exact ⟨_, rfl, ⟨_, rfl, HRP.out⟩, (leafs HEW.out (Nat.le_refl _) HB2.out _ _ _ _ _ _).2⟩

theorem from_c : ∀ t, FromC t := Tree.ind from_nil (fun b => by cases b; exact from_bool_false; exact from_bool_true) from_int from_float from_str from_list from_map
end Go.Smd
