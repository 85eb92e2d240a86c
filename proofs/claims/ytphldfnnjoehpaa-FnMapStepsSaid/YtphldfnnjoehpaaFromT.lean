/- The walk of impl.fromTree. -/
import Derived.Test.YtphldfnnjoehpaaFrom
set_option linter.unusedSimpArgs false
namespace Go.Smd
open Go.RowKit Go.Proofs

def FromC (t : Tree) : Prop := ∀ (x : Value) (w : World) (S : Nat → Prop), RepT w S t x → Fits t → Calls Try.prog 90 #[x] w (GivesGV (w.heap.size ≤ ·) (fromT t) w)
theorem RepT.list_inv {w : World} {S : Nat → Prop} {l : List Tree} {v : Value} (h : RepT w S (.list l) v) : ∃ A c, v = .iface 128 (.slice A l.length c) ∧ l.length * 16 ≤ 140737488351232 ∧ l.length ≤ c ∧
    ∀ W, Ext w W → ∀ j x, l[j]? = some x → ∃ y ad, A = some ad ∧ W.cell? (ad.add j) = some y ∧ RepT W S x y := by
  cases h with
  | list ll hlen hcap hl hc =>
    refine ⟨_, _, rfl, hlen, hcap, fun W e j x hj => ?_⟩
    obtain ⟨ad, ha, _, hcc⟩ := hc j x hj
    exact ⟨ll j, ad, ha, e.cell hcc, (hl j x hj).ext e⟩
theorem leafs {w W : World} (hE : Ext w W) {bo : Nat} (hbo : w.heap.size ≤ bo) (hB : W.heap[bo]? = some (.cells #[.int .i64 0, .int .i64 0, .float .f64 0, .string ⟨#[]⟩, .slice none 0 0, .slice none 0 0] 26 (0, 0))) (v0 v1 v2 v3 v4 v5 : Value) :
    (six W bo v0 v1 v2 v3 v4 v5).heap[bo]? = some (.cells #[v0, v1, v2, v3, v4, v5] 26 (0, 0)) ∧ Ext w (six W bo v0 v1 v2 v3 v4 v5) :=
  ⟨six_at hB _ _ _ _ _ _, six_ext hE hbo _ _ _ _ _ _⟩

set_option maxRecDepth 100000 in
set_option maxHeartbeats 2000000 in
theorem from_nil : FromC .nil := by
  intro x w S hx hfit
  have hE0 : Ext w (w.alloc (.cells #[.int .i64 0, .int .i64 0, .float .f64 0, .string ⟨#[]⟩, .slice none 0 0, .slice none 0 0] 26)) := (Ext.refl w).alloc _
  have hB0 := new_at (w := w) (.cells #[.int .i64 0, .int .i64 0, .float .f64 0, .string ⟨#[]⟩, .slice none 0 0, .slice none 0 0] 26) rfl
  cases hx
  go_enter Try.func90, Try.ntmps90
  go_upto_region 1 with fail
  generalize w.alloc (.cells #[.int .i64 0, .int .i64 0, .float .f64 0, .string ⟨#[]⟩, .slice none 0 0, .slice none 0 0] 26) = w2 at hE0 hB0 ⊢
  have HE := Lib.hid hE0; have HB := Lib.hid hB0
  have hz : ∀ o, w2.frozen? ⟨w.heap.size, o, none⟩ = false := fun o => by simp [World.frozen?, HB.out]
  have g0 := cell_of HB.out (i := 0) rfl; have g1 := cell_of HB.out (i := 1) rfl; have g2 := cell_of HB.out (i := 2) rfl; have g3 := cell_of HB.out (i := 3) rfl; have g4 := cell_of HB.out (i := 4) rfl; have g5 := cell_of HB.out (i := 5) rfl
  clear hE0 hB0
  go_wp2
  (try simp only [Exit.inBlock, Exit.then]); refine bodyPost_ret (res6 Try.results90 rfl (leafs HE.out (Nat.le_refl _) HB.out (.int .i64 0) (.int .i64 0) (.float .f64 0) (.string ⟨#[]⟩) (.slice none 0 0) (.slice none 0 0)).1) rfl ?_
  refine ⟨_, rfl, ⟨_, rfl, ?_⟩, (leafs HE.out (Nat.le_refl _) HB.out _ _ _ _ _ _).2⟩
  simp only [fromT, reduceIte, Bool.false_eq_true]
  exact leaf_rep _ _ ⟨by omega, by omega, by omega, Nat.zero_le _, by simp, by simp, by simp⟩

set_option maxRecDepth 100000 in
set_option maxHeartbeats 2000000 in
theorem from_bool_true : FromC (.bool true) := by
  intro x w S hx hfit
  have hE0 : Ext w (w.alloc (.cells #[.int .i64 0, .int .i64 0, .float .f64 0, .string ⟨#[]⟩, .slice none 0 0, .slice none 0 0] 26)) := (Ext.refl w).alloc _
  have hB0 := new_at (w := w) (.cells #[.int .i64 0, .int .i64 0, .float .f64 0, .string ⟨#[]⟩, .slice none 0 0, .slice none 0 0] 26) rfl
  cases hx
  go_enter Try.func90, Try.ntmps90
  go_upto_region 1 with fail
  generalize w.alloc (.cells #[.int .i64 0, .int .i64 0, .float .f64 0, .string ⟨#[]⟩, .slice none 0 0, .slice none 0 0] 26) = w2 at hE0 hB0 ⊢
  have HE := Lib.hid hE0; have HB := Lib.hid hB0
  have hz : ∀ o, w2.frozen? ⟨w.heap.size, o, none⟩ = false := fun o => by simp [World.frozen?, HB.out]
  have g0 := cell_of HB.out (i := 0) rfl; have g1 := cell_of HB.out (i := 1) rfl; have g2 := cell_of HB.out (i := 2) rfl; have g3 := cell_of HB.out (i := 3) rfl; have g4 := cell_of HB.out (i := 4) rfl; have g5 := cell_of HB.out (i := 5) rfl
  clear hE0 hB0
  go_wp2
  (try simp only [Exit.inBlock, Exit.then]); refine bodyPost_ret (res6 Try.results90 rfl (leafs HE.out (Nat.le_refl _) HB.out (.int .i64 1) (.int .i64 1) (.float .f64 0) (.string ⟨#[]⟩) (.slice none 0 0) (.slice none 0 0)).1) rfl ?_
  refine ⟨_, rfl, ⟨_, rfl, ?_⟩, (leafs HE.out (Nat.le_refl _) HB.out _ _ _ _ _ _).2⟩
  simp only [fromT, reduceIte, Bool.false_eq_true]
  exact leaf_rep _ _ ⟨by omega, by omega, by omega, Nat.zero_le _, by simp, by simp, by simp⟩

set_option maxRecDepth 100000 in
set_option maxHeartbeats 2000000 in
theorem from_bool_false : FromC (.bool false) := by
  intro x w S hx hfit
  have hE0 : Ext w (w.alloc (.cells #[.int .i64 0, .int .i64 0, .float .f64 0, .string ⟨#[]⟩, .slice none 0 0, .slice none 0 0] 26)) := (Ext.refl w).alloc _
  have hB0 := new_at (w := w) (.cells #[.int .i64 0, .int .i64 0, .float .f64 0, .string ⟨#[]⟩, .slice none 0 0, .slice none 0 0] 26) rfl
  cases hx
  go_enter Try.func90, Try.ntmps90
  go_upto_region 1 with fail
  generalize w.alloc (.cells #[.int .i64 0, .int .i64 0, .float .f64 0, .string ⟨#[]⟩, .slice none 0 0, .slice none 0 0] 26) = w2 at hE0 hB0 ⊢
  have HE := Lib.hid hE0; have HB := Lib.hid hB0
  have hz : ∀ o, w2.frozen? ⟨w.heap.size, o, none⟩ = false := fun o => by simp [World.frozen?, HB.out]
  have g0 := cell_of HB.out (i := 0) rfl; have g1 := cell_of HB.out (i := 1) rfl; have g2 := cell_of HB.out (i := 2) rfl; have g3 := cell_of HB.out (i := 3) rfl; have g4 := cell_of HB.out (i := 4) rfl; have g5 := cell_of HB.out (i := 5) rfl
  clear hE0 hB0
  go_wp2
  (try simp only [Exit.inBlock, Exit.then]); refine bodyPost_ret (res6 Try.results90 rfl (leafs HE.out (Nat.le_refl _) HB.out (.int .i64 1) (.int .i64 0) (.float .f64 0) (.string ⟨#[]⟩) (.slice none 0 0) (.slice none 0 0)).1) rfl ?_
  refine ⟨_, rfl, ⟨_, rfl, ?_⟩, (leafs HE.out (Nat.le_refl _) HB.out _ _ _ _ _ _).2⟩
  simp only [fromT, reduceIte, Bool.false_eq_true]
  exact leaf_rep _ _ ⟨by omega, by omega, by omega, Nat.zero_le _, by simp, by simp, by simp⟩

set_option maxRecDepth 100000 in
set_option maxHeartbeats 2000000 in
theorem from_int (n : Int) : FromC (.int n) := by
  intro x w S hx hfit
  have hE0 : Ext w (w.alloc (.cells #[.int .i64 0, .int .i64 0, .float .f64 0, .string ⟨#[]⟩, .slice none 0 0, .slice none 0 0] 26)) := (Ext.refl w).alloc _
  have hB0 := new_at (w := w) (.cells #[.int .i64 0, .int .i64 0, .float .f64 0, .string ⟨#[]⟩, .slice none 0 0, .slice none 0 0] 26) rfl
  cases hx with | int hn =>
  go_enter Try.func90, Try.ntmps90
  go_upto_region 1 with fail
  generalize w.alloc (.cells #[.int .i64 0, .int .i64 0, .float .f64 0, .string ⟨#[]⟩, .slice none 0 0, .slice none 0 0] 26) = w2 at hE0 hB0 ⊢
  have HE := Lib.hid hE0; have HB := Lib.hid hB0
  have hz : ∀ o, w2.frozen? ⟨w.heap.size, o, none⟩ = false := fun o => by simp [World.frozen?, HB.out]
  have g0 := cell_of HB.out (i := 0) rfl; have g1 := cell_of HB.out (i := 1) rfl; have g2 := cell_of HB.out (i := 2) rfl; have g3 := cell_of HB.out (i := 3) rfl; have g4 := cell_of HB.out (i := 4) rfl; have g5 := cell_of HB.out (i := 5) rfl
  clear hE0 hB0
  go_wp2
  (try simp only [Exit.inBlock, Exit.then]); refine bodyPost_ret (res6 Try.results90 rfl (leafs HE.out (Nat.le_refl _) HB.out (.int .i64 2) (.int .i64 n) (.float .f64 0) (.string ⟨#[]⟩) (.slice none 0 0) (.slice none 0 0)).1) rfl ?_
  refine ⟨_, rfl, ⟨_, rfl, ?_⟩, (leafs HE.out (Nat.le_refl _) HB.out _ _ _ _ _ _).2⟩
  simp only [fromT, reduceIte, Bool.false_eq_true]
  exact leaf_rep _ _ ⟨by omega, by omega, by omega, Nat.zero_le _, by simp, by simp, by simp⟩

set_option maxRecDepth 100000 in
set_option maxHeartbeats 2000000 in
theorem from_float (f : Nat) : FromC (.float f) := by
  intro x w S hx hfit
  have hE0 : Ext w (w.alloc (.cells #[.int .i64 0, .int .i64 0, .float .f64 0, .string ⟨#[]⟩, .slice none 0 0, .slice none 0 0] 26)) := (Ext.refl w).alloc _
  have hB0 := new_at (w := w) (.cells #[.int .i64 0, .int .i64 0, .float .f64 0, .string ⟨#[]⟩, .slice none 0 0, .slice none 0 0] 26) rfl
  cases hx with | float hn =>
  go_enter Try.func90, Try.ntmps90
  go_upto_region 1 with fail
  generalize w.alloc (.cells #[.int .i64 0, .int .i64 0, .float .f64 0, .string ⟨#[]⟩, .slice none 0 0, .slice none 0 0] 26) = w2 at hE0 hB0 ⊢
  have HE := Lib.hid hE0; have HB := Lib.hid hB0
  have hz : ∀ o, w2.frozen? ⟨w.heap.size, o, none⟩ = false := fun o => by simp [World.frozen?, HB.out]
  have g0 := cell_of HB.out (i := 0) rfl; have g1 := cell_of HB.out (i := 1) rfl; have g2 := cell_of HB.out (i := 2) rfl; have g3 := cell_of HB.out (i := 3) rfl; have g4 := cell_of HB.out (i := 4) rfl; have g5 := cell_of HB.out (i := 5) rfl
  clear hE0 hB0
  go_wp2
  (try simp only [Exit.inBlock, Exit.then]); refine bodyPost_ret (res6 Try.results90 rfl (leafs HE.out (Nat.le_refl _) HB.out (.int .i64 3) (.int .i64 0) (.float .f64 f) (.string ⟨#[]⟩) (.slice none 0 0) (.slice none 0 0)).1) rfl ?_
  refine ⟨_, rfl, ⟨_, rfl, ?_⟩, (leafs HE.out (Nat.le_refl _) HB.out _ _ _ _ _ _).2⟩
  simp only [fromT, reduceIte, Bool.false_eq_true]
  exact leaf_rep _ _ ⟨by omega, by omega, by omega, Nat.zero_le _, by simp, by simp, by simp⟩

set_option maxRecDepth 100000 in
set_option maxHeartbeats 2000000 in
theorem from_str (s : ByteArray) : FromC (.str s) := by
  intro x w S hx hfit
  have hE0 : Ext w (w.alloc (.cells #[.int .i64 0, .int .i64 0, .float .f64 0, .string ⟨#[]⟩, .slice none 0 0, .slice none 0 0] 26)) := (Ext.refl w).alloc _
  have hB0 := new_at (w := w) (.cells #[.int .i64 0, .int .i64 0, .float .f64 0, .string ⟨#[]⟩, .slice none 0 0, .slice none 0 0] 26) rfl
  cases hx with | str hn =>
  go_enter Try.func90, Try.ntmps90
  go_upto_region 1 with fail
  generalize w.alloc (.cells #[.int .i64 0, .int .i64 0, .float .f64 0, .string ⟨#[]⟩, .slice none 0 0, .slice none 0 0] 26) = w2 at hE0 hB0 ⊢
  have HE := Lib.hid hE0; have HB := Lib.hid hB0
  have hz : ∀ o, w2.frozen? ⟨w.heap.size, o, none⟩ = false := fun o => by simp [World.frozen?, HB.out]
  have g0 := cell_of HB.out (i := 0) rfl; have g1 := cell_of HB.out (i := 1) rfl; have g2 := cell_of HB.out (i := 2) rfl; have g3 := cell_of HB.out (i := 3) rfl; have g4 := cell_of HB.out (i := 4) rfl; have g5 := cell_of HB.out (i := 5) rfl
  clear hE0 hB0
  go_wp2
  (try simp only [Exit.inBlock, Exit.then]); refine bodyPost_ret (res6 Try.results90 rfl (leafs HE.out (Nat.le_refl _) HB.out (.int .i64 4) (.int .i64 0) (.float .f64 0) (.string s) (.slice none 0 0) (.slice none 0 0)).1) rfl ?_
  refine ⟨_, rfl, ⟨_, rfl, ?_⟩, (leafs HE.out (Nat.le_refl _) HB.out _ _ _ _ _ _).2⟩
  simp only [fromT, reduceIte, Bool.false_eq_true]
  exact leaf_rep _ _ ⟨by omega, by omega, by omega, by omega, by simp, by simp, by simp⟩

set_option maxRecDepth 100000 in
set_option maxHeartbeats 2000000 in
theorem from_list (l : List Tree) (IH : ∀ x ∈ l, FromC x) : FromC (.list l) := by
  intro x w S hx hfit
  simp only [Fits] at hfit
  obtain ⟨hlen, hfl⟩ := hfit
  have hE0 : Ext w (w.alloc (.cells #[.int .i64 0, .int .i64 0, .float .f64 0, .string ⟨#[]⟩, .slice none 0 0, .slice none 0 0] 26)) := (Ext.refl w).alloc _
  have hB0 := new_at (w := w) (.cells #[.int .i64 0, .int .i64 0, .float .f64 0, .string ⟨#[]⟩, .slice none 0 0, .slice none 0 0] 26) rfl
  have hs0 := size_alloc w (.cells #[.int .i64 0, .int .i64 0, .float .f64 0, .string ⟨#[]⟩, .slice none 0 0, .slice none 0 0] 26)
  obtain ⟨A, c, rfl, h16, hc, hat⟩ := hx.list_inv
  have HAt := Lib.hid hat; have HFL := Lib.hid hfl
  obtain ⟨n, hn⟩ : ∃ n, l.length = n := ⟨_, rfl⟩
  have Hn := Lib.hid hn
  rw [hn] at hlen h16 hc ⊢
  clear hat hfl hn hx
  go_enter Try.func90, Try.ntmps90
  go_upto_region 1 with fail
  generalize w.alloc (.cells #[.int .i64 0, .int .i64 0, .float .f64 0, .string ⟨#[]⟩, .slice none 0 0, .slice none 0 0] 26) = w2 at hE0 hB0 hs0 ⊢
  have HE := Lib.hid hE0; have HB := Lib.hid hB0; have Hs0 := Lib.hid hs0
  clear hE0 hB0 hs0
  go_upto_region 19 with fail
  have HL : Hid (LSt w2 (w2.alloc (.cells #[.int .i64 5, .int .i64 0, .float .f64 0, .string ⟨#[]⟩, .slice none 0 0, .slice none 0 0] 26)) 5 (.slice none 0 0) (.slice none 0 0) []) := ⟨(Ext.refl w2).alloc _, by rw [size_alloc]; omega, new_at _ rfl, Build.nil⟩
  generalize w2.alloc (.cells #[.int .i64 5, .int .i64 0, .float .f64 0, .string ⟨#[]⟩, .slice none 0 0, .slice none 0 0] 26) = w3 at HL ⊢
  go_wp2
  go_loopw [43] (fun i wr => ∃ (k : Nat) (lv : Value), k ≤ n ∧ i = .int .i64 k ∧ Hid (LSt w2 wr 5 (.slice none 0 0) lv (fromTs (l.take k)))) (fun i _ => n - (intOf i).toNat)
  case atStart => exact ⟨0, _, Nat.zero_le _, rfl, HL⟩
  case round =>
    obtain ⟨k, lv, hk, rfl, hl⟩ := hrel
    by_cases hlt : k < n
    · obtain ⟨x, hx⟩ : ∃ x, l[k]? = some x := ⟨l[k]'(by rw [Hn.out]; exact hlt), List.getElem?_eq_getElem _⟩
      obtain ⟨y, ad, rfl, hcy, hry⟩ := HAt.out wr (HE.out.trans hl.out.ext) k x hx
      have Hx := Lib.hid hx; have Hry := Lib.hid hry
      clear hx hry
      have e1 : (fromTs (l.take k)).length = k := by rw [fromTs_eq, List.length_map, List.length_take, Hn.out]; omega
      have hlv := hl.out.bl.slice
      rw [e1] at hlv
      obtain ⟨A1, c1, rfl⟩ := hlv
      have f5 := cell_of hl.out.out (i := 5) rfl
      go_wp2
      refine wp_region_E [5, 7] (by kernel_rfl) ?_
      refine E_takes (listed' := lst 8 [0, 1, 2]) [0, 1, 2] 5 (by kernel_rfl) (fun _ _ _ _ h => h) (by kernel_rfl) rfl (by kernel_rfl) ?_
      repeat (refine qIdx_step rfl ?_; go_big_quiet_step (fail); refine wpQuiet_nil ?_)
      refine qIdx_nil ?_
      have HL1 : Hid (LSt w2 wr.drew 5 (.slice none 0 0) (.slice A1 k c1) (fromTs (l.take k))) := hl.out.grow (Ext.refl wr).drew
      have Hry1 : Hid (RepT wr.drew S x y) := Hry.out.ext (Ext.refl wr).drew
      clear hl f5 hcy Hry
      generalize wr.drew = w4 at HL1 Hry1 ⊢
      refine E_one (n := 4) (i := 3) (listed' := lst 8 [0, 1, 2, 3]) (by kernel_rfl) rfl rfl (by kernel_rfl) ?_
      go_wp2_with fail
      refine (IH x (List.mem_of_getElem? Hx.out) y w4 S Hry1.out (FitsL.mem HFL.out x (List.mem_of_getElem? Hx.out))).mono ?_
      rintro e w5 ⟨u, rfl, ⟨cs, rfl, hu⟩, hE5⟩
      obtain ⟨f0, f1, f2, f3, f4, f5, rfl⟩ := hu.list6
      obtain ⟨p0, p1, p2, p3, p4, p5⟩ := hu.six
      have hL5 := HL1.out.grow hE5
      obtain ⟨lv', w6, hrun, ⟨A6, c6, rfl⟩, hc6, hz6, hL6⟩ := hL5.push (v := fromT x) (cs := [f0, f1, f2, f3, f4, f5]) (hu.mono fun b hb => ⟨by have := HL1.out.lt; omega, fun hc => by have := (HL1.out.own hc).2; omega⟩) (N := k + 1) (by rw [e1]) (by omega)
      have e2 : fromTs (l.take k) ++ [fromT x] = fromTs (l.take (k + 1)) := by rw [List.take_add_one, Hx.out]; simp [fromTs_eq]
      rw [e2] at hL6
      have HR := Lib.hid hrun; have HL6 := Lib.hid hL6
      clear hrun hL6 hL5 hu e2
      go_wp2_with fail
      refine ⟨hE5, ?_⟩
      refine E_one (n := 3) (i := 4) (listed' := lst 8 [0, 1, 2, 3, 4]) (by kernel_rfl) rfl rfl (by kernel_rfl) ?_
      go_wp2_with fail
      refine ⟨(Ext.refl _).alloc _, ?_⟩
      refine E_bar (n := 2) (i := 5) (listed' := lst 8 [0, 1, 2, 3, 4, 5]) (by kernel_rfl) rfl rfl rfl (by kernel_rfl) ?_
      refine wpList_append_run HR.out rfl rfl rfl rfl ?_
      refine E_end ?_
      simp only [Act.put, List.setIfInBounds_toArray, List.set_cons_zero, List.set_cons_succ]
      refine E_takes (listed' := lst 8 [0, 1, 2, 3, 4, 5, 6]) [6] 1 (by kernel_rfl) (fun _ _ _ _ h => h) (by kernel_rfl) rfl (by kernel_rfl) ?_
      repeat (refine qIdx_step rfl ?_; go_big_quiet_step (fail); refine wpQuiet_nil ?_)
      refine qIdx_nil ?_
      refine E_bar (n := 0) (i := 7) (listed' := lst 8 [0, 1, 2, 3, 4, 5, 6, 7]) (by kernel_rfl) rfl rfl rfl (by kernel_rfl) ?_
      go_wp2
      refine E_done (by kernel_rfl) ?_
      clear HR hc6 hz6 hE5
      generalize w6.setCell ⟨w2.heap.size, 5, none⟩ (.slice A6 (k + 1) c6) = w7 at HL6 ⊢
      go_wp2
      go_roundw
      case rel => exact ⟨k + 1, _, by omega, by go_num, HL6⟩
      case measure => simp [intOf]; omega
    · have e : l.take k = l := List.take_of_length_le (by rw [Hn.out]; omega)
      rw [e] at hl
      obtain ⟨A1, c1, rfl, hcc, hrow⟩ := hl.out.bl.done framedRG (by omega)
      have hln : (fromTs l).length = n := by rw [fromTs_eq, List.length_map, Hn.out]
      rw [hln] at hcc hl
      have h0 := cell_of hl.out.out (i := 0) rfl; have h1 := cell_of hl.out.out (i := 1) rfl; have h2 := cell_of hl.out.out (i := 2) rfl; have h3 := cell_of hl.out.out (i := 3) rfl; have h4 := cell_of hl.out.out (i := 4) rfl; have h5 := cell_of hl.out.out (i := 5) rfl
      have HB2 := Lib.hid (hl.out.ext.heap HB.out)
      have hz : ∀ o, wr.frozen? ⟨w.heap.size, o, none⟩ = false := fun o => by simp [World.frozen?, HB2.out]
      have g0 := cell_of HB2.out (i := 0) rfl; have g1 := cell_of HB2.out (i := 1) rfl; have g2 := cell_of HB2.out (i := 2) rfl; have g3 := cell_of HB2.out (i := 3) rfl; have g4 := cell_of HB2.out (i := 4) rfl; have g5 := cell_of HB2.out (i := 5) rfl
      have HEW := Lib.hid (HE.out.trans hl.out.ext)
      have Hrow := Lib.hid hrow
      have hs0 := Hs0.out
      have HRP : Hid (RepGV (w.heap.size ≤ ·) (six wr w.heap.size (.int .i64 5) (.int .i64 0) (.float .f64 0) (.string ⟨#[]⟩) (.slice none 0 0) (.slice A1 n c1)) (fromT (.list l)) [.int .i64 5, .int .i64 0, .float .f64 0, .string ⟨#[]⟩, .slice none 0 0, .slice A1 n c1]) := by
        have hr := RowOf.frame (R' := RepGV (w.heap.size ≤ ·) (six wr w.heap.size (.int .i64 5) (.int .i64 0) (.float .f64 0) (.string ⟨#[]⟩) (.slice none 0 0) (.slice A1 n c1))) (S' := (w.heap.size ≤ ·)) hrow (((six_same wr w.heap.size (.int .i64 5) (.int .i64 0) (.float .f64 0) (.string ⟨#[]⟩) (.slice none 0 0) (.slice A1 n c1))).mono fun b hb => by omega) (fun b hb => by omega) fun x _ cs k => RepGV.frame (S := (w2.heap.size < ·)) ((six_same wr w.heap.size (.int .i64 5) (.int .i64 0) (.float .f64 0) (.string ⟨#[]⟩) (.slice none 0 0) (.slice A1 n c1)).mono fun b hb => by omega) (fun b hb => by omega) k
        have := RepGV.close (keys := []) (l := fromTs l) (kind := 5) (n := 0) (f := 0) (s := ⟨#[]⟩) (ka := none) (kc := 0) (lc := c1) ⟨by omega, by omega, by omega, Nat.zero_le _, by simp, by simp, by rw [hln]; omega⟩ (Nat.zero_le _) (by omega) RowOf.nil hr
        rw [hln] at this
        simp only [fromT]; exact this
      clear hl hrow hs0
      go_wp2
      (try simp only [Exit.inBlock, Exit.then]); refine bodyPost_ret (res6 Try.results90 rfl (leafs HEW.out (Nat.le_refl _) HB2.out (.int .i64 5) (.int .i64 0) (.float .f64 0) (.string ⟨#[]⟩) (.slice none 0 0) (.slice A1 n c1)).1) rfl ?_
      exact ⟨_, rfl, ⟨_, rfl, HRP.out⟩, (leafs HEW.out (Nat.le_refl _) HB2.out _ _ _ _ _ _).2⟩
end Go.Smd
