/- Part 24 of the proof: Ident Pa Pb Mo. -/
import Derived.Test.YtannholebjdckaaQM20
import Derived.Test.YtannholebjdckaaQM23
import Derived.Laws.Externs
import Derived.Test.YtannholebjdckaaQM22
set_option linter.unusedVariables false
section
set_option linter.unusedSimpArgs false
namespace Go.Smd
open Go.RowKit Go.Proofs
open Go.Extern in
@[go_sem] theorem run_bits (f : Nat) (w : World) : (callFunc 49 #[.float .f64 f]).run Try.prog w = .ok (.value (.int .u64 f)) w := by
  rw [run_callFunc_extern Try.func49 (by kernel_rfl) (by kernel_rfl) (by kernel_rfl) (e := MathFloatBits.float64bits) (by kernel_rfl)]
  rfl
def IdentC (v : GV) : Prop := ∀ (cs1 cs2 : List Value) (w : World) (S : Nat → Prop), RepGV S w v cs1 → RepGV S w v cs2 → Calls Try.prog 38 #[.agg cs1.toArray, .agg cs2.toArray] w (Makes (fun _ u => u = .bool true) w)
set_option maxRecDepth 100000 in
set_option maxHeartbeats 4000000 in
theorem ident_c : ∀ v, IdentC v := by
  intro v
  induction v using GV.ind with
  | h kind n f s keys l IH =>
  intro cs1 cs2 w S h1 h2
  obtain ⟨ka, kc, la, lc, rfl, ok, hkc, hlc, hks, hls⟩ := h1.open
  obtain ⟨ka', kc', la', lc', rfl, -, hkc', hlc', hks', hls'⟩ := h2.open
  obtain ⟨nk, hnk⟩ : ∃ n, keys.length = n := ⟨_, rfl⟩
  obtain ⟨nl, hnl⟩ : ∃ n, l.length = n := ⟨_, rfl⟩
  have hm1 := ok.okKeys
  have hm2 := ok.okL
  rw [hnk] at hm1 hkc hkc' ⊢; rw [hnl] at hm2 hlc hlc' ⊢
  have Hk := Lib.hid hnk; have Hl := Lib.hid hnl
  have Hks := Lib.hid hks; have Hls := Lib.hid hls; have Hks' := Lib.hid hks'; have Hls' := Lib.hid hls'
  clear h1 h2 ok hnk hnl hks hls hks' hls'
  have hE0 : Ext w (((w.alloc (.cells #[.int .i64 kind, .int .i64 n, .float .f64 f, .string s, .slice ka nk kc, .slice la nl lc] 29)).alloc (.cells #[.int .i64 kind, .int .i64 n, .float .f64 f, .string s, .slice ka' nk kc', .slice la' nl lc'] 29))) := ((Ext.refl w).alloc _).alloc _
  have hA0 := old_at (.cells #[.int .i64 kind, .int .i64 n, .float .f64 f, .string s, .slice ka' nk kc', .slice la' nl lc'] 29) (new_at (w := w) (.cells #[.int .i64 kind, .int .i64 n, .float .f64 f, .string s, .slice ka nk kc, .slice la nl lc] 29) rfl)
  have hB0 := new_at (w := w.alloc (.cells #[.int .i64 kind, .int .i64 n, .float .f64 f, .string s, .slice ka nk kc, .slice la nl lc] 29)) (.cells #[.int .i64 kind, .int .i64 n, .float .f64 f, .string s, .slice ka' nk kc', .slice la' nl lc'] 29) (size_alloc _ _)
  have b1 : (kind != kind) = false := by simp
  have b2 : (n != n) = false := by simp
  have b3 : (s.toList == s.toList) = true := by simp
  have b4 : ((f : Int) != (f : Int)) = false := by simp
  go_enter Try.func38, Try.ntmps38
  go_upto_region 1 with fail
  generalize (w.alloc (.cells #[.int .i64 kind, .int .i64 n, .float .f64 f, .string s, .slice ka nk kc, .slice la nl lc] 29)).alloc (.cells #[.int .i64 kind, .int .i64 n, .float .f64 f, .string s, .slice ka' nk kc', .slice la' nl lc'] 29) = w2 at hE0 hA0 hB0 ⊢
  have HE := Lib.hid hE0; have HA := Lib.hid hA0; have HB := Lib.hid hB0
  clear hE0 hA0 hB0
  have a0 := cell_of HA.out (i := 0) rfl; have a1 := cell_of HA.out (i := 1) rfl; have a2 := cell_of HA.out (i := 2) rfl; have a3 := cell_of HA.out (i := 3) rfl; have a4 := cell_of HA.out (i := 4) rfl; have a5 := cell_of HA.out (i := 5) rfl
  have d0 := cell_of HB.out (i := 0) rfl; have d1 := cell_of HB.out (i := 1) rfl; have d2 := cell_of HB.out (i := 2) rfl; have d3 := cell_of HB.out (i := 3) rfl; have d4 := cell_of HB.out (i := 4) rfl; have d5 := cell_of HB.out (i := 5) rfl
  refine wp_region_E [] (by kernel_rfl) ?_
  refine E_takes (listed' := lst 28 [0, 1, 2, 3, 4, 5, 6, 7, 8, 9, 10, 11, 12, 13, 14, 15, 16, 17, 18, 19, 20, 21, 23, 24]) [0, 1, 2, 3, 4, 5, 6, 7, 8, 9, 10, 11, 12, 13, 14, 15, 16, 17, 18, 19, 20, 21, 23, 24] 4 (by kernel_rfl) (fun _ _ _ _ h => h) (by kernel_rfl) rfl (by kernel_rfl) ?_
  repeat (refine qIdx_step rfl ?_; go_big_quiet_step (fail); refine wpQuiet_nil ?_)
  refine qIdx_nil ?_
  refine E_one (n := 3) (i := 22) (listed' := lst 28 [0, 1, 2, 3, 4, 5, 6, 7, 8, 9, 10, 11, 12, 13, 14, 15, 16, 17, 18, 19, 20, 21, 22, 23, 24]) (by kernel_rfl) rfl rfl (by kernel_rfl) ?_
  go_wp2
  refine ⟨Ext.refl _, ?_⟩
  refine E_one (n := 2) (i := 25) (listed' := lst 28 [0, 1, 2, 3, 4, 5, 6, 7, 8, 9, 10, 11, 12, 13, 14, 15, 16, 17, 18, 19, 20, 21, 22, 23, 24, 25]) (by kernel_rfl) rfl rfl (by kernel_rfl) ?_
  go_wp2
  refine ⟨Ext.refl _, ?_⟩
  refine E_takes (listed' := lst 28 [0, 1, 2, 3, 4, 5, 6, 7, 8, 9, 10, 11, 12, 13, 14, 15, 16, 17, 18, 19, 20, 21, 22, 23, 24, 25, 26, 27]) [26, 27] 0 (by kernel_rfl) (fun _ _ _ _ h => h) (by kernel_rfl) rfl (by kernel_rfl) ?_
  repeat (refine qIdx_step rfl ?_; go_big_quiet_step (fail); refine wpQuiet_nil ?_)
  refine qIdx_nil ?_
  refine E_done (by kernel_rfl) ?_
  have HE' := Lib.hid HE.out.drew
  have e0 : w2.drew.heap = w2.heap := rfl
  rw [← e0] at HA HB
  generalize w2.drew = w3 at *
  clear HE e0 a0 a1 a2 a3 a4 a5 d0 d1 d2 d3 d4 d5
  have a4 := cell_of HA.out (i := 4) rfl; have a5 := cell_of HA.out (i := 5) rfl
  have d4 := cell_of HB.out (i := 4) rfl; have d5 := cell_of HB.out (i := 5) rfl
  go_wp2
  go_loopw [54] (fun i wr => ∃ k : Nat, k ≤ nk ∧ i = .int .i64 k ∧ Hid (Ext w3 wr)) (fun i _ => nk - (intOf i).toNat)
  case atStart => exact ⟨0, Nat.zero_le _, rfl, Ext.refl _⟩
  case round =>
    obtain ⟨k, hk, rfl, hE⟩ := hrel
    have hA := hE.out.heap HA.out; have hB := hE.out.heap HB.out
    have a4 := cell_of hA (i := 4) rfl; have a5 := cell_of hA (i := 5) rfl
    have d4 := cell_of hB (i := 4) rfl; have d5 := cell_of hB (i := 5) rfl
    clear hA hB
    have hk0 : (0 : Int) ≤ (k : Int) := by omega
    by_cases hlt : k < nk
    · obtain ⟨q, hq⟩ : ∃ q, keys[k]? = some q := ⟨keys[k]'(by rw [Hk.out]; exact hlt), List.getElem?_eq_getElem _⟩
      obtain ⟨ad, rfl, cq⟩ := (Hks.out.ext (HE'.out.trans hE.out)).at hq
      obtain ⟨ad', rfl, cq'⟩ := (Hks'.out.ext (HE'.out.trans hE.out)).at hq
      have hqq : (q.toList == q.toList) = true := by simp
      have hk3 : (k : Int) < (nk : Int) := by omega
      clear hq
      go_wp2
      refine wp_region_E [] (by kernel_rfl) ?_
      refine E_takes (listed' := lst 11 [0, 1, 2, 3, 4, 5, 6, 7, 8, 9, 10]) [0, 1, 2, 3, 4, 5, 6, 7, 8, 9, 10] 0 (by kernel_rfl) (fun _ _ _ _ h => h) (by kernel_rfl) rfl (by kernel_rfl) ?_
      repeat (refine qIdx_step rfl ?_; go_big_quiet_step (fail); refine wpQuiet_nil ?_)
      refine qIdx_nil ?_
      refine E_done (by kernel_rfl) ?_
      have hE2 := Lib.hid hE.out.drew
      go_wp2
      go_roundw
      case rel => exact ⟨k + 1, by omega, by go_num, hE2⟩
      case measure => simp [intOf]; omega
    · have hk3 : ¬ (k : Int) < (nk : Int) := by omega
      have HE3 := Lib.hid (HE'.out.trans hE.out)
      have HA3 := Lib.hid (hE.out.heap HA.out); have HB3 := Lib.hid (hE.out.heap HB.out)
      go_wp2
      go_loopw [72] (fun i wq => ∃ k : Nat, k ≤ nl ∧ i = .int .i64 k ∧ Hid (Ext wr wq)) (fun i _ => nl - (intOf i).toNat)
      case atStart => exact ⟨0, Nat.zero_le _, rfl, Ext.refl _⟩
      case round =>
        obtain ⟨j, hj, rfl, hEj⟩ := hrel
        have hA := hEj.out.heap HA3.out; have hB := hEj.out.heap HB3.out
        clear a4 a5 d4 d5
        have a4 := cell_of hA (i := 4) rfl; have a5 := cell_of hA (i := 5) rfl
        have d4 := cell_of hB (i := 4) rfl; have d5 := cell_of hB (i := 5) rfl
        clear hA hB
        have hj0 : (0 : Int) ≤ (j : Int) := by omega
        by_cases hjt : j < nl
        · obtain ⟨x, hx⟩ : ∃ x, l[j]? = some x := ⟨l[j]'(by rw [Hl.out]; exact hjt), List.getElem?_eq_getElem _⟩
          have hj3 : (j : Int) < (nl : Int) := by omega
          obtain ⟨bd, c0, c1, c2, c3, c4, c5, rfl, _, hxr, hxc⟩ := (RepGVs.ext Hls.out (HE3.out.trans hEj.out)).at hx
          obtain ⟨pa, hpa⟩ : ∃ pa, bd.add (j * 6) = pa := ⟨_, rfl⟩
          rw [hpa] at hxc
          obtain ⟨e0, e1, e2, e3, e4, e5⟩ := hxc.six
          obtain ⟨o0, o1, o2, o3, o4, o5⟩ := hxr.six
          obtain ⟨bd', t0, t1, t2, t3, t4, t5, rfl, _, hxr', hxc'⟩ := (RepGVs.ext Hls'.out (HE3.out.trans hEj.out)).at hx
          obtain ⟨pb, hpb⟩ : ∃ pa, bd'.add (j * 6) = pa := ⟨_, rfl⟩
          rw [hpb] at hxc'
          obtain ⟨r0, r1, r2, r3, r4, r5⟩ := hxc'.six
          obtain ⟨q0, q1, q2, q3, q4, q5⟩ := hxr'.six
          have HX := Lib.hid (List.mem_of_getElem? hx)
          clear hx
          go_wp2
          refine wp_region_E [] (by kernel_rfl) ?_
          refine E_takes (listed' := lst 12 [0, 1, 2, 3, 4, 5, 6, 7, 8, 9]) [0, 1, 2, 3, 4, 5, 6, 7, 8, 9] 2 (by kernel_rfl) (fun _ _ _ _ h => h) (by kernel_rfl) rfl (by kernel_rfl) ?_
          repeat (refine qIdx_step rfl ?_; go_big_quiet_step (fail); refine wpQuiet_nil ?_)
          refine qIdx_nil ?_
          refine E_one (n := 1) (i := 10) (listed' := lst 12 [0, 1, 2, 3, 4, 5, 6, 7, 8, 9, 10]) (by kernel_rfl) rfl rfl (by kernel_rfl) ?_
          go_wp2_with fail
          refine (IH x HX.out [c0, c1, c2, c3, c4, c5] [t0, t1, t2, t3, t4, t5] _ S (hxr.ext (Ext.refl _).drew) (hxr'.ext (Ext.refl _).drew)).mono ?_
          rintro e w4 ⟨u, rfl, rfl, hE4⟩
          have HE4 := Lib.hid (hEj.out.trans ((Ext.refl _).drew.trans hE4))
          go_wp2_with fail
          refine ⟨hE4, ?_⟩
          refine E_takes (listed' := lst 12 [0, 1, 2, 3, 4, 5, 6, 7, 8, 9, 10, 11]) [11] 0 (by kernel_rfl) (fun _ _ _ _ h => h) (by kernel_rfl) rfl (by kernel_rfl) ?_
          repeat (refine qIdx_step rfl ?_; go_big_quiet_step (fail); refine wpQuiet_nil ?_)
          refine qIdx_nil ?_
          refine E_done (by kernel_rfl) ?_
          clear hE4
          go_wp2
          go_roundw
          case rel => exact ⟨j + 1, by omega, by go_num, HE4⟩
          case measure => simp [intOf]; omega
        · have hj3 : ¬ (j : Int) < (nl : Int) := by omega
          have HEF := Lib.hid (HE3.out.trans hEj.out)
          go_wp2
          go_ret
          exact ⟨_, rfl, rfl, HEF.out⟩
end Go.Smd
end
section
set_option linter.unusedSimpArgs false
set_option maxRecDepth 100000
set_option maxHeartbeats 8000000
namespace Go.Smd
open Go.RowKit Go.Proofs
theorem fromValue_x (t : Tree) (ht : Fits t) {a b : Int} {c : Nat} {d : ByteArray} {e : List ByteArray} {f : List GV} (h : fromT t = .mk a b c d e f) : ACalls Try.prog 39 [.c (.d (dV t))] (fun r => r = gvX a b c d e f) := by
  have := fromValue_a t ht
  rw [h, gvA_x] at this; exact this
end Go.Smd
end
section
set_option linter.unusedSimpArgs false
set_option maxRecDepth 100000
set_option maxHeartbeats 8000000
namespace Go.Smd
open Go.RowKit Go.Proofs
theorem raw_b {S : Nat → Prop} {w : World} {x : Value} (hx : okVb x = true) {e : Ending} {w' : World} (h : Makes (fun _ u => u = x) w e w') : ∃ v r, e = .returned v ∧ r = aV x ∧ RepA Try.prog (fun b => S b ∨ w.heap.size ≤ b) noB noH w' r v ∧ Ext w w' := by
  obtain ⟨v, rfl, rfl, hE⟩ := h
  exact ⟨_, _, rfl, rfl, RepD.v hx, hE⟩
theorem identical_a (g : GV) : ACalls Try.prog 38 [gvA g, gvA g] (fun r => r = aV (.bool true)) := by
  refine ⟨⟨_, Try.func38, by kernel_rfl, rfl⟩, fun w S vs hS ha => ?_⟩
  obtain ⟨v, _, rfl, h, ha⟩ := ha.inv
  obtain ⟨u, _, rfl, h2, ha⟩ := ha.inv
  cases ha.inv0
  obtain ⟨cs, rfl, hg⟩ := gvA_iff.1 h
  obtain ⟨cv, rfl, hg2⟩ := gvA_iff.1 h2
  exact (ident_c g cs cv w S hg hg2).mono fun e w' h => raw_b rfl h
theorem identical_x (k n : Int) (f : Nat) (s : ByteArray) (ks : List ByteArray) (l : List GV) : ACalls Try.prog 38 [gvX k n f s ks l, gvX k n f s ks l] (fun r => r = aV (.bool true)) := by
  have h := identical_a (.mk k n f s ks l)
  rw [gvA_x] at h; exact h
end Go.Smd
end
section
set_option linter.unusedSimpArgs false
set_option maxRecDepth 100000
set_option maxHeartbeats 8000000
namespace Go.Smd
open Go.RowKit Go.Proofs
abbrev aNil : Cl := .d (.v (.slice none 0 0))
theorem rem_i {P : Program} {T : TypeId} {ox oy : Operand} {a b : Int} (h : ¬ b = 0) (h1 : -9223372036854775808 ≤ a.tmod b) (h2 : a.tmod b ≤ 9223372036854775807) : binA P .rem T ox oy (.c (.d (.v (.int .i64 a)))) (.c (.d (.v (.int .i64 b)))) = some (.c (.d (.v (.int .i64 (a.tmod b))))) := by
  simp [binA, valPure, eqGuard, binOp, Op.intArith, Op.intDiv, pure, Sem.bind, bind, evalPure, okVb, okInt, h, h1, h2]
set_option maxHeartbeats 1000000 in
theorem mapValue_c (w : World) : Calls Try.prog 17 #[] w (Makes (fun _ u => u = .agg #[.int .i64 6, .int .i64 0, .float .f64 0, .string ⟨#[]⟩, .slice none 0 0, .slice none 0 0]) w) := by
  go_enter Try.func17, Try.ntmps17
  go_wp2
  refine bodyPost_ret (res6 Try.results17 rfl (new_at _ rfl)) rfl ?_
  exact ⟨_, rfl, rfl, (Ext.refl w).alloc _⟩
theorem mapValue_n : ACalls Try.prog 17 [] (fun r => r = .agg [.d (dI 6), .d (dI 0), .d (dF 0), .d (dS ⟨#[]⟩), aNil, aNil]) := by
  refine ⟨⟨_, Try.func17, by kernel_rfl, rfl⟩, fun w S vs hS ha => ?_⟩
  cases ha.inv0
  refine (mapValue_c w).mono fun e w' h => ?_
  obtain ⟨v, rfl, rfl, hE⟩ := h
  refine ⟨_, _, rfl, rfl, ⟨_, rfl, .cons ?_ (.cons ?_ (.cons ?_ (.cons ?_ (.cons ?_ (.cons ?_ .nil)))))⟩, hE⟩ <;> exact RepD.v rfl
def turned (fs : List (ByteArray × GV)) (s : Nat) : List (ByteArray × GV) := fs.drop s ++ fs.take s
theorem turned_perm (fs : List (ByteArray × GV)) (s : Nat) : (turned fs s).Perm fs := by
  have := List.perm_append_comm (l₁ := fs.drop s) (l₂ := fs.take s)
  rwa [List.take_append_drop] at this
theorem turned_at (fs : List (ByteArray × GV)) (s i : Nat) (hs : s < fs.length) (hi : i < fs.length) (h1 : (i + s) % fs.length < fs.length) : (turned fs s)[i]? = some fs[(i + s) % fs.length] := by
  unfold turned
  by_cases h : i < fs.length - s
  · rw [List.getElem?_append_left (by rw [List.length_drop]; exact h), List.getElem?_drop]
    have e : (i + s) % fs.length = s + i := by rw [Nat.mod_eq_of_lt (by omega)]; omega
    rw [List.getElem?_eq_getElem (by omega)]
    simp only [e]
  · rw [List.getElem?_append_right (by rw [List.length_drop]; omega), List.length_drop]
    have e : (i + s) % fs.length = i - (fs.length - s) := by
      rw [Nat.mod_eq_sub_mod (by omega), Nat.mod_eq_of_lt (by omega)]; omega
    rw [List.getElem?_take_of_lt (by omega), List.getElem?_eq_getElem (by omega)]
    simp only [e]
theorem at_is (n i : Nat) (t : Int) (hn : 0 < n) : ((i : Int) + ((t.tmod n + n).tmod n)).tmod n = (((i + (t.emod n).toNat) % n : Nat) : Int) := by
  have hn' : (n : Int) ≠ 0 := by omega
  have e1 : (t.tmod n + n).tmod n = t.emod n := by
    have h0 := Int.lt_tmod_of_pos t (show (0 : Int) < n by omega)
    have e : t.tmod n + n = t + n * (1 - t.tdiv n) := by
      rw [Int.tmod_def, Int.mul_sub, Int.mul_one]; omega
    rw [Int.tmod_eq_emod_of_nonneg (by omega), e, Int.add_mul_emod_self_left]
    rfl
  have h1 : 0 ≤ t.emod n := Int.emod_nonneg _ hn'
  obtain ⟨k, hk⟩ := Int.eq_ofNat_of_zero_le h1
  rw [e1, hk, Int.tmod_eq_emod_of_nonneg (by omega)]
  simp
theorem fits_fields {A : List (ByteArray × GV)} (hc : ∀ p ∈ A, Fits (treeOf p.2)) (hl : A.length * 88 ≤ 140737488351232) : Fits (treeOf (.mk 6 0 0 ⟨#[]⟩ (A.map (·.1)) (A.map (·.2)))) := by
  have hall : ∀ x ∈ treesOf (A.map (·.2)), Fits x := fun x hx => by
    rw [treesOf_eq, List.map_map] at hx
    obtain ⟨p, hp, rfl⟩ := List.mem_map.1 hx
    exact hc p hp
  have hlen : (treesOf (A.map (·.2))).length = A.length := by rw [treesOf_eq]; simp
  obtain ⟨a, b, c⟩ := mapOf_fits (A.map (·.1)) (treesOf (A.map (·.2))) [] (by simp) (by simp) hall
  have e : treeOf (.mk 6 0 0 ⟨#[]⟩ (A.map (·.1)) (A.map (·.2))) = .map (mapOf (A.map (·.1)) (treesOf (A.map (·.2))) []) := by simp [treeOf]
  rw [e]
  simp only [Fits]
  exact ⟨by simp at c; omega, a, FitsM.of b⟩
theorem cmpV_P (a b : GV) (ha : Fits (treeOf a)) (hb : Fits (treeOf b)) : cmpV (treeOf a) (treeOf b) = cmpP (clean a) (clean b) := by
  rw [← from_tree a, ← from_tree b]
  exact cmpF_cmpP _ _ _ (Nat.le_refl _) ha hb
theorem turned_same {A fs : List (ByteArray × GV)} (hp : A.Perm fs) (hs : Sorted fs) (hc : ∀ p ∈ fs, clean p.2 = p.2 ∧ Fits (treeOf p.2)) (hl : fs.length * 88 ≤ 140737488351232) (ho : orderly (mkMap fs) = true) :
    eqV (treeOf (mkMap fs)) (treeOf (.mk 6 0 0 ⟨#[]⟩ (A.map (·.1)) (A.map (·.2)))) = true ∧ cmpV (treeOf (.mk 6 0 0 ⟨#[]⟩ (A.map (·.1)) (A.map (·.2)))) (treeOf (mkMap fs)) = 0 ∧ clean (.mk 6 0 0 ⟨#[]⟩ (A.map (·.1)) (A.map (·.2))) = mkMap fs := by
  have em : mkMap fs = .mk 6 0 0 ⟨#[]⟩ (fs.map (·.1)) (fs.map (·.2)) := rfl
  have c1 := clean_perm hp hs fun p h => (hc p h).1
  have c2 := clean_perm (List.Perm.refl fs) hs fun p h => (hc p h).1
  rw [← em] at c2
  have f1 : Fits (treeOf (mkMap fs)) := by rw [em]; exact fits_fields (fun p h => (hc p h).2) hl
  have f2 := fits_fields (A := A) (fun p h => (hc p (hp.mem_iff.1 h)).2) (by rw [hp.length_eq]; exact hl)
  have o2 : orderly (.mk 6 0 0 ⟨#[]⟩ (A.map (·.1)) (A.map (·.2))) = true := by
    rw [em] at ho
    simp only [orderly, orderlys_eq] at ho ⊢
    simp only [List.all_map, List.all_eq_true] at ho ⊢
    simp only [show ¬ (6 : Int) = 2 by decide, show ¬ (6 : Int) = 3 by decide, if_false, or_true, if_true, List.all_eq_true] at ho ⊢
    exact fun p h => ho p (hp.mem_iff.1 h)
  have e0 : eqV (treeOf (mkMap fs)) (treeOf (mkMap fs)) = true := eq_self_t _ _ (Nat.le_refl _) f1 (ord_of _ ho)
  have z0 := (cmpV_eqV _ _ f1 f1 ho ho).2 e0
  rw [cmpV_P _ _ f1 f1, c2] at z0
  refine ⟨(cmpV_eqV _ _ f1 f2 ho o2).1 ?_, ?_, c1⟩
  · rw [cmpV_P _ _ f1 f2, c1, c2]; exact z0
  · rw [cmpV_P _ _ f2 f1, c1, c2]; exact z0
end Go.Smd
end
