/- spec.Clean, plainList, plainMap: the plain form of a value. -/
import Derived.Test.YtphldfnnjoehpaaWith
set_option linter.unusedSimpArgs false
namespace Go.Smd
open Go.RowKit Go.Proofs

/-- Fields set one after the other. -/
def insAll : List ByteArray → List GV → List (ByteArray × GV) → List (ByteArray × GV)
  | k :: ks, v :: vs, m => insAll ks vs (sIns k v m)
  | _, _, m => m
mutual
def clean : GV → GV
  | .mk kind n f s keys l =>
    if kind = 1 then .mk 1 (if n = 0 then 0 else 1) 0 ⟨#[]⟩ [] [] else if kind = 2 then .mk 2 n 0 ⟨#[]⟩ [] [] else if kind = 3 then .mk 3 0 f ⟨#[]⟩ [] []
    else if kind = 4 then .mk 4 0 0 s [] [] else if kind = 5 then .mk 5 0 0 ⟨#[]⟩ [] (cleans l) else if kind = 6 then mkMap (insAll keys (cleans l) []) else .mk 0 0 0 ⟨#[]⟩ [] []
def cleans : List GV → List GV
  | [] => []
  | x :: l => clean x :: cleans l
end
theorem cleans_eq : ∀ l, cleans l = l.map clean
  | [] => by simp [cleans]
  | x :: l => by simp [cleans, cleans_eq l]
theorem insAll_length : ∀ (ks : List ByteArray) (vs : List GV) (m : List (ByteArray × GV)), (insAll ks vs m).length ≤ m.length + min ks.length vs.length
  | [], vs, m => by simp [insAll]
  | k :: ks, [], m => by simp [insAll]
  | k :: ks, v :: vs, m => by
    simp only [insAll]
    have h1 := insAll_length ks vs (sIns k v m)
    have h2 := sIns_length k v m
    simp; omega
theorem insAll_sorted : ∀ (ks : List ByteArray) (vs : List GV) (m : List (ByteArray × GV)), Sorted m → Sorted (insAll ks vs m)
  | [], vs, m, h => by simpa [insAll] using h
  | k :: ks, [], m, h => by simpa [insAll] using h
  | k :: ks, v :: vs, m, h => by simp only [insAll]; exact insAll_sorted ks vs _ (sIns_sorted h)
theorem insAll_snoc : ∀ (ks : List ByteArray) (vs : List GV) (m : List (ByteArray × GV)) (i : Nat) (k : ByteArray) (v : GV), ks[i]? = some k → vs[i]? = some v →
    insAll (ks.take (i + 1)) (vs.take (i + 1)) m = sIns k v (insAll (ks.take i) (vs.take i) m)
  | [], _, _, i, _, _, h, _ => by simp at h
  | _ :: _, [], _, i, _, _, _, h => by simp at h
  | q :: ks, u :: vs, m, 0, k, v, hk, hv => by
    simp at hk hv; subst hk; subst hv
    simp [insAll]
  | q :: ks, u :: vs, m, i + 1, k, v, hk, hv => by
    simp only [List.take_succ_cons, insAll]
    exact insAll_snoc ks vs (sIns q u m) i k v (by simpa using hk) (by simpa using hv)
theorem insAll_take : ∀ (ks : List ByteArray) (vs : List GV) (m : List (ByteArray × GV)) (i : Nat), (ks.length ≤ i ∨ vs.length ≤ i) → insAll (ks.take i) (vs.take i) m = insAll ks vs m
  | [], vs, m, i, _ => by simp [insAll]
  | k :: ks, [], m, i, _ => by cases i <;> simp [insAll]
  | k :: ks, v :: vs, m, 0, h => by simp at h
  | k :: ks, v :: vs, m, i + 1, h => by
    simp only [List.take_succ_cons, insAll]
    exact insAll_take ks vs _ i (by simpa using h)

/-- A function that gives back a value in memory. -/
def GivesGV (S : Nat → Prop) (v : GV) (w : World) : Ending → World → Prop := Makes (fun W u => ∃ cs, u = .agg cs.toArray ∧ RepGV S W v cs) w
def CleanC (v : GV) : Prop := ∀ (cs : List Value) (w : World) (S : Nat → Prop), RepGV S w v cs → Calls Try.prog 19 #[.agg cs.toArray] w (GivesGV (w.heap.size ≤ ·) (clean v) w)

theorem RowOf.toGVs {S T : Nat → Prop} {w : World} {A : Option Addr} {l : List GV} (h : RowOf (RG w T) 6 S w A l) (hT : ∀ b, T b → S b) : RepGVs S w A l := RowOf.frame h (fun _ _ => rfl) (fun _ h => h) fun _ _ _ k => RepGV.mono k hT

set_option maxRecDepth 100000 in
set_option maxHeartbeats 1000000 in
theorem plainList_step (l : List GV) (IH : ∀ x ∈ l, CleanC x) (A : Option Addr) (n c : Nat) (w : World) (S : Nat → Prop) (hl : RepGVs S w A l) (hn : l.length = n) (hb : n * 88 ≤ 140737488351232) :
    Calls Try.prog 58 #[.slice A n c] w (Makes (fun W u => ∃ A' c', u = .slice A' n c' ∧ n ≤ c' ∧ RepGVs (w.heap.size ≤ ·) W A' (cleans l)) w) := by
  have Hn := Lib.hid hn; clear hn
  obtain ⟨cur, hmk, hB⟩ := Build.make (P := Try.prog) (R := RG) (S := (w.heap.size ≤ ·)) (T := (w.heap.size ≤ ·)) Try.underlying24 info_val (by omega) w n (by omega) (Nat.le_refl _)
  have HB := Lib.hid hB; clear hB
  go_enter Try.func58, Try.ntmps58
  go_wp2
  clear hmk
  go_loopw [3, 11] (fun v i wr => ∃ k : Nat, k ≤ n ∧ i = .int .i64 k ∧ Hid (Ext w wr) ∧ Hid (Build RG 26 6 (w.heap.size ≤ ·) (w.heap.size ≤ ·) wr v (cleans (l.take k)))) (fun _ i _ => n - (intOf i).toNat)
  case atStart => exact ⟨0, Nat.zero_le _, rfl, (Ext.refl w).alloc _, HB⟩
  case round =>
    obtain ⟨k, hk, rfl, hE, hB⟩ := hrel
    by_cases hlt : k < n
    · obtain ⟨x, hx⟩ : ∃ x, l[k]? = some x := ⟨l[k]'(by rw [Hn.out]; exact hlt), List.getElem?_eq_getElem _⟩
      obtain ⟨bd, d0, d1, d2, d3, d4, d5, rfl, _, hxr, hxc⟩ := (hl.ext hE.out).at hx
      have Hx := Lib.hid hx; clear hx
      obtain ⟨pa, hpa⟩ : ∃ pa, bd.add (k * 6) = pa := ⟨_, rfl⟩
      rw [hpa] at hxc
      obtain ⟨e0, e1, e2, e3, e4, e5⟩ := hxc.six
      obtain ⟨o0, o1, o2, o3, o4, o5⟩ := hxr.six
      go_wp2_with fail
      refine (IH x (List.mem_of_getElem? Hx.out) [d0, d1, d2, d3, d4, d5] _ S (hxr.ext ((Ext.refl _).alloc _))).mono ?_
      rintro e w1 ⟨u, rfl, ⟨cs, rfl, hu⟩, hE1⟩
      obtain ⟨f0, f1, f2, f3, f4, f5, rfl⟩ := hu.list6
      obtain ⟨p0, p1, p2, p3, p4, p5⟩ := hu.six
      have hsz := hE.out.size
      have hE2 : Ext wr w1 := ((Ext.refl wr).alloc _).trans hE1
      have hsz1 := hE1.size
      rw [size_alloc] at hsz1
      have hB1 := hB.out.ext framedRG hE2
      have hlk := hB.out
      obtain ⟨v2, w2, hrun, hB2, hg, hat, A2, c2, hv2⟩ := Build.push (P := Try.prog) framedRG (t := 24) (ty := 24) Try.underlying24 info_val rfl (by omega) (by omega) hB1 (y := clean x) (ys := [f0, f1, f2, f3, f4, f5]) (hu.mono fun b hb => by
        rw [size_alloc] at hb
        exact ⟨by omega, fun hc => by have := hlk.row_lt hc; omega⟩) rfl hu.ones (by omega) (by rw [cleans_eq, List.length_map, List.length_take]; omega)
      have HB2 : Hid (Build RG 26 6 (w.heap.size ≤ ·) (w.heap.size ≤ ·) w2 v2 (cleans (l.take (k + 1)))) := by
        have : cleans (l.take (k + 1)) = cleans (l.take k) ++ [clean x] := by rw [List.take_add_one, Hx.out]; simp [cleans_eq]
        rw [this]; exact hB2
      have HE2 : Hid (Ext w w2) := Below.grown (Below.trans hE.out (hE2.below hsz)) hg (by omega) fun b hb => hlk.row_in hb
      rw [hv2] at hrun HB2
      have HR := Lib.hid hrun
      clear hB2 hg hat hlk hB1 hB hE hu hE1 hE2 hv2 hrun
      go_wp2_with (at_builtin; go_must (refine wpList_append_run HR.out rfl rfl rfl rfl ?_))
      go_roundw
      case rel => exact ⟨k + 1, by omega, by go_num, HE2, HB2⟩
      case measure => simp [intOf]; omega
    · obtain ⟨A', c', rfl, hcap, hrow⟩ := hB.out.done framedRG (by omega)
      have e : l.take k = l := List.take_of_length_le (by rw [Hn.out]; omega)
      have hlen : (cleans (l.take k)).length = n := by rw [e, cleans_eq, List.length_map, Hn.out]
      rw [e] at hrow hcap
      rw [hlen]
      rw [cleans_eq, List.length_map, Hn.out] at hcap
      have HD := Lib.hid (RowOf.toGVs hrow fun b h => h)
      clear hrow hB e hlen
      go_wp2
      go_ret
      exact ⟨_, rfl, ⟨A', c', rfl, hcap, HD.out⟩, hE.out⟩


theorem res6 {fn : Func} {p : Tmp} (h : fn.results = #[.cell p 26]) {tmps : Array Value} {w : World} {g : Nat} {t : TypeId} {c0 c1 c2 c3 c4 c5 : Value} {fr : Nat × Nat} (hp : tmps.getD p undef = .pointer (some ⟨g, 0, none⟩)) (hg : w.heap[g]? = some (.cells #[c0, c1, c2, c3, c4, c5] t fr)) :
    (results fn tmps).run Try.prog w = .ok (.agg #[c0, c1, c2, c3, c4, c5]) w := results_cell_row h tmps w g t _ fr _ hp hg Try.underlying26 rfl (by kernel_rfl)

theorem mkMap_ok {fs : List (ByteArray × GV)} (hn : fs.length * 88 ≤ 140737488351232) (hk : ∀ p ∈ fs, p.1.size ≤ 140737488351232) : GVok 6 0 0 ⟨#[]⟩ (fs.map (·.1)) (fs.map (·.2)) :=
  ⟨by omega, by omega, by omega, Nat.zero_le _, by rw [List.length_map]; omega, fun k hkk => by obtain ⟨p, hp, rfl⟩ := List.mem_map.1 hkk; exact hk p hp, by rw [List.length_map]; omega⟩

set_option maxRecDepth 100000 in
set_option maxHeartbeats 2000000 in
theorem plainMapS_step (kind n : Int) (f : Nat) (s : ByteArray) (keys : List ByteArray) (l : List GV) (IH : ∀ x ∈ l, CleanC x) (cs : List Value) (w : World) (S : Nat → Prop) (hv : RepGV S w (.mk kind n f s keys l) cs) :
    Calls Try.prog 59 #[.agg cs.toArray] w (GivesGV (w.heap.size ≤ ·) (mkMap (insAll keys (cleans l) [])) w) := by
  obtain ⟨ka, kc, la, lc, rfl, ok, hkc, hlc, hks, hls⟩ := hv.open
  have h1 := ok.okKeys
  have h2 := ok.okL
  have Hkeach := Lib.hid ok.okEach
  obtain ⟨nk, hnk⟩ : ∃ n, keys.length = n := ⟨_, rfl⟩
  obtain ⟨nl, hnl⟩ : ∃ n, l.length = n := ⟨_, rfl⟩
  have Hk := Lib.hid hnk; have Hl := Lib.hid hnl
  rw [hnk] at h1 hkc ⊢; rw [hnl] at h2 hlc ⊢
  have Hv := Lib.hid hv
  clear hnk hnl ok hv
  go_enter Try.func59, Try.ntmps59
  go_wp2
  go_loopw [4] (fun i wr => ∃ k : Nat, k ≤ nk ∧ k ≤ nl ∧ i = .int .i64 k ∧ Hid (Ext w wr ∧ wr.heap[w.heap.size]? = some (.cells #[.int .i64 kind, .int .i64 n, .float .f64 f, .string s, .slice ka nk kc, .slice la nl lc] 26 (0, 0)) ∧ wr.heap[w.heap.size + 1]? = some (.cells #[.int .i64 0, .int .i64 0, .float .f64 0, .string ⟨#[]⟩, .slice none 0 0, .slice none 0 0] 26 (0, 0))) ∧ w.heap.size + 3 ≤ wr.heap.size ∧
    Hid (∃ c0 c1 c2 c3 c4 c5, wr.heap[w.heap.size + 2]? = some (.cells #[c0, c1, c2, c3, c4, c5] 26 (0, 0)) ∧ RepGV (w.heap.size + 3 ≤ ·) wr (mkMap (insAll (keys.take k) ((cleans l).take k) [])) [c0, c1, c2, c3, c4, c5])) (fun i _ => nk - (intOf i).toNat)
  case atStart =>
    refine ⟨0, Nat.zero_le _, Nat.zero_le _, rfl, ⟨(((Ext.refl w).alloc _).alloc _).alloc _, old_at _ (old_at _ (new_at _ rfl)), old_at _ (new_at _ (size_alloc _ _))⟩, ?_, ?_⟩
    · simp only [size_alloc]; omega
    · exact ⟨_, _, _, _, _, _, new_at _ (by simp only [size_alloc]), RepGV.close (keys := []) (l := []) (mkMap_ok (fs := []) (by simp) (by simp)) (Nat.zero_le _) (Nat.zero_le _) RowOf.nil RowOf.nil⟩
  case round =>
    obtain ⟨k, hk1, hk2, rfl, hb, hsz, hout⟩ := hrel
    have f4 := cell_of hb.out.2.1 (i := 4) rfl
    have f5 := cell_of hb.out.2.1 (i := 5) rfl
    by_cases hlt : k < nk
    · by_cases hlt2 : k < nl
      · obtain ⟨q, hq⟩ : ∃ q, keys[k]? = some q := ⟨keys[k]'(by rw [Hk.out]; exact hlt), List.getElem?_eq_getElem _⟩
        obtain ⟨x, hx⟩ : ∃ x, l[k]? = some x := ⟨l[k]'(by rw [Hl.out]; exact hlt2), List.getElem?_eq_getElem _⟩
        have hE := hb.out.1
        obtain ⟨ad, rfl, cq⟩ := (hks.ext hE).at hq
        obtain ⟨bd, d0, d1, d2, d3, d4, d5, rfl, _, hxr, hxc⟩ := (hls.ext hE).at hx
        have Hq := Lib.hid hq; have Hx := Lib.hid hx; clear hq hx
        obtain ⟨pa, hpa⟩ : ∃ pa, bd.add (k * 6) = pa := ⟨_, rfl⟩
        rw [hpa] at hxc
        obtain ⟨e0, e1, e2, e3, e4, e5⟩ := hxc.six
        obtain ⟨o0, o1, o2, o3, o4, o5⟩ := hxr.six
        obtain ⟨c0, c1, c2, c3, c4, c5, hbo, hrep⟩ := hout.out
        have g0 := cell_of hbo (i := 0) rfl; have g1 := cell_of hbo (i := 1) rfl; have g2 := cell_of hbo (i := 2) rfl
        have g3 := cell_of hbo (i := 3) rfl; have g4 := cell_of hbo (i := 4) rfl; have g5 := cell_of hbo (i := 5) rfl
        have Hbo := Lib.hid hbo; have Hrep := Lib.hid hrep
        clear hbo hrep hE
        go_wp2
        have hk0 : (0 : Int) ≤ (k : Int) := by omega
        have hk3 : (k : Int) < (nk : Int) := by omega
        have hk4 : (k : Int) < (nl : Int) := by omega
        refine wp_region_E [13] (by kernel_rfl) ?_
        refine E_takes (listed' := lst 14 [0, 1, 2, 3, 4, 5, 6, 7, 8, 9, 10]) [0, 1, 2, 3, 4, 5, 6, 7, 8, 9, 10] 3 (by kernel_rfl) (fun _ _ _ _ h => h) (by kernel_rfl) rfl (by kernel_rfl) ?_
        repeat (refine qIdx_step rfl ?_; go_big_quiet_step (fail); refine wpQuiet_nil ?_)
        refine qIdx_nil ?_
        obtain ⟨wd, hwd⟩ : ∃ W, wr.drew = W := ⟨_, rfl⟩
        rw [hwd]
        have HEd : Hid (Ext wr wd) := by rw [← hwd]; exact (Ext.refl wr).drew
        clear hwd
        refine E_one (n := 2) (i := 11) (listed' := lst 14 [0, 1, 2, 3, 4, 5, 6, 7, 8, 9, 10, 11]) (by kernel_rfl) rfl rfl (by kernel_rfl) ?_
        go_wp2_with fail
        refine (IH x (List.mem_of_getElem? Hx.out) [d0, d1, d2, d3, d4, d5] _ S (hxr.ext HEd.out)).mono ?_
        rintro e w1 ⟨u, rfl, ⟨cv, rfl, hu⟩, hE1⟩
        have hE02 := (hb.out.1.trans HEd.out).trans hE1
        have hsz2 := HEd.out.size
        have hsz3 := hE1.size
        go_wp2_with fail
        refine ⟨hE1, ?_⟩
        refine E_one (n := 1) (i := 12) (listed' := lst 14 [0, 1, 2, 3, 4, 5, 6, 7, 8, 9, 10, 11, 12]) (by kernel_rfl) rfl rfl (by kernel_rfl) ?_
        go_wp2_with fail
        refine (withField_c 6 0 0 ⟨#[]⟩ (insAll (keys.take k) ((cleans l).take k) []) q (clean x) _ cv w1 (w.heap.size + 3 ≤ ·) (Hrep.out.ext (HEd.out.trans hE1)) (hu.mono fun b hb => by omega) (insAll_sorted _ _ _ .nil) (by have := insAll_length (keys.take k) ((cleans l).take k) []; simp only [List.length_take, List.length_nil] at this; omega) (Hkeach.out q (List.mem_of_getElem? Hq.out))).mono ?_
        rintro e w2 ⟨u, rfl, ⟨cf, rfl, huf⟩, hE2⟩
        go_wp2_with fail
        refine ⟨hE2, ?_⟩
        obtain ⟨f0, f1, f2, f3, f4, f5, rfl⟩ := huf.list6
        obtain ⟨p0, p1, p2, p3, p4, p5⟩ := huf.six
        have hE3 := (HEd.out.trans hE1).trans hE2
        have hbo2 := hE3.heap Hbo.out
        have hz : ∀ o, w2.frozen? ⟨w.heap.size + 1 + 1, o, none⟩ = false := fun o => by simp [World.frozen?, hbo2]
        have g0 := cell_of hbo2 (i := 0) rfl; have g1 := cell_of hbo2 (i := 1) rfl; have g2 := cell_of hbo2 (i := 2) rfl
        have g3 := cell_of hbo2 (i := 3) rfl; have g4 := cell_of hbo2 (i := 4) rfl; have g5 := cell_of hbo2 (i := 5) rfl
        have HB2 := Lib.hid hbo2; have HUF := Lib.hid huf; have HE3 := Lib.hid hE3
        have hsz4 := hE3.size
        clear hbo2 huf hE3 hE1 hE2 hE02 hu
        refine E_bar (n := 0) (i := 13) (listed' := lst 14 [0, 1, 2, 3, 4, 5, 6, 7, 8, 9, 10, 11, 12, 13]) (by kernel_rfl) rfl rfl rfl (by kernel_rfl) ?_
        go_wp2
        refine E_done (by kernel_rfl) ?_
        have e : (cleans l)[k]? = some (clean x) := by rw [cleans_eq]; simp [Hx.out]
        have HN : Hid (∃ c0 c1 c2 c3 c4 c5, (six w2 (w.heap.size + 1 + 1) f0 f1 f2 f3 f4 f5).heap[w.heap.size + 2]? = some (.cells #[c0, c1, c2, c3, c4, c5] 26 (0, 0)) ∧ RepGV (w.heap.size + 3 ≤ ·) (six w2 (w.heap.size + 1 + 1) f0 f1 f2 f3 f4 f5) (mkMap (insAll (keys.take (k + 1)) ((cleans l).take (k + 1)) [])) [c0, c1, c2, c3, c4, c5]) := by
          rw [insAll_snoc keys (cleans l) [] k q (clean x) Hq.out e]
          refine ⟨_, _, _, _, _, _, six_at HB2.out _ _ _ _ _ _, ?_⟩
          exact RepGV.frame (S' := (w.heap.size + 3 ≤ ·)) ((six_same w2 (w.heap.size + 1 + 1) _ _ _ _ _ _).mono fun b hb => by omega) (fun b hb => by omega) HUF.out
        have HM : Hid (Ext w (six w2 (w.heap.size + 1 + 1) f0 f1 f2 f3 f4 f5) ∧ (six w2 (w.heap.size + 1 + 1) f0 f1 f2 f3 f4 f5).heap[w.heap.size]? = some (.cells #[.int .i64 kind, .int .i64 n, .float .f64 f, .string s, .slice (some ad) nk kc, .slice (some bd) nl lc] 26 (0, 0)) ∧ (six w2 (w.heap.size + 1 + 1) f0 f1 f2 f3 f4 f5).heap[w.heap.size + 1]? = some (.cells #[.int .i64 0, .int .i64 0, .float .f64 0, .string ⟨#[]⟩, .slice none 0 0, .slice none 0 0] 26 (0, 0))) :=
          ⟨six_ext (hb.out.1.trans HE3.out) (by omega) _ _ _ _ _ _, (six_same w2 (w.heap.size + 1 + 1) _ _ _ _ _ _ _ (by omega)).trans (HE3.out.heap hb.out.2.1), (six_same w2 (w.heap.size + 1 + 1) _ _ _ _ _ _ _ (by omega)).trans (HE3.out.heap hb.out.2.2)⟩
        have hsz5 : w.heap.size + 3 ≤ (six w2 (w.heap.size + 1 + 1) f0 f1 f2 f3 f4 f5).heap.size := by rw [six_size]; omega
        clear hout hb
        go_wp2
        go_roundw
        case rel => exact ⟨k + 1, by omega, by omega, by go_num, HM, hsz5, HN⟩
        case measure => simp [intOf]; omega
      · have hk0 : (0 : Int) ≤ (k : Int) := by omega
        have hk3 : (k : Int) < (nk : Int) := by omega
        have hk4 : ¬ (k : Int) < (nl : Int) := by omega
        obtain ⟨c0, c1, c2, c3, c4, c5, hbo, hrep⟩ := hout.out
        rw [insAll_take keys (cleans l) [] k (by rw [cleans_eq, List.length_map, Hl.out]; omega)] at hrep
        obtain ⟨o0, o1, o2, o3, o4, o5⟩ := hrep.six
        have g0 := cell_of hbo (i := 0) rfl; have g1 := cell_of hbo (i := 1) rfl; have g2 := cell_of hbo (i := 2) rfl
        have g3 := cell_of hbo (i := 3) rfl; have g4 := cell_of hbo (i := 4) rfl; have g5 := cell_of hbo (i := 5) rfl
        have q0 := cell_of hb.out.2.2 (i := 0) rfl; have q1 := cell_of hb.out.2.2 (i := 1) rfl; have q2 := cell_of hb.out.2.2 (i := 2) rfl
        have q3 := cell_of hb.out.2.2 (i := 3) rfl; have q4 := cell_of hb.out.2.2 (i := 4) rfl; have q5 := cell_of hb.out.2.2 (i := 5) rfl
        have hz : ∀ o, wr.frozen? ⟨w.heap.size + 1, o, none⟩ = false := fun o => by simp [World.frozen?, hb.out.2.2]
        have Hrep := Lib.hid hrep
        clear hbo hrep
        go_wp2
        have HQ : Hid ((six wr (w.heap.size + 1) c0 c1 c2 c3 c4 c5).heap[w.heap.size + 1]? = some (.cells #[c0, c1, c2, c3, c4, c5] 26 (0, 0))) := six_at hb.out.2.2 _ _ _ _ _ _
        have HEq : Hid (Ext w (six wr (w.heap.size + 1) c0 c1 c2 c3 c4 c5)) := six_ext hb.out.1 (by omega) _ _ _ _ _ _
        have HRq : Hid (RepGV (w.heap.size ≤ ·) (six wr (w.heap.size + 1) c0 c1 c2 c3 c4 c5) (mkMap (insAll keys (cleans l) [])) [c0, c1, c2, c3, c4, c5]) := RepGV.frame (S' := (w.heap.size ≤ ·)) ((six_same wr (w.heap.size + 1) _ _ _ _ _ _).mono fun b hb => by omega) (fun b hb => by omega) Hrep.out
        refine bodyPost_ret (res6 Try.results59 rfl HQ.out) rfl ?_
        exact ⟨_, rfl, ⟨_, rfl, HRq.out⟩, HEq.out⟩
    · have hk0 : (0 : Int) ≤ (k : Int) := by omega
      have hk3 : ¬ (k : Int) < (nk : Int) := by omega
      obtain ⟨c0, c1, c2, c3, c4, c5, hbo, hrep⟩ := hout.out
      rw [insAll_take keys (cleans l) [] k (.inl (by rw [Hk.out]; omega))] at hrep
      obtain ⟨o0, o1, o2, o3, o4, o5⟩ := hrep.six
      have g0 := cell_of hbo (i := 0) rfl; have g1 := cell_of hbo (i := 1) rfl; have g2 := cell_of hbo (i := 2) rfl
      have g3 := cell_of hbo (i := 3) rfl; have g4 := cell_of hbo (i := 4) rfl; have g5 := cell_of hbo (i := 5) rfl
      have q0 := cell_of hb.out.2.2 (i := 0) rfl; have q1 := cell_of hb.out.2.2 (i := 1) rfl; have q2 := cell_of hb.out.2.2 (i := 2) rfl
      have q3 := cell_of hb.out.2.2 (i := 3) rfl; have q4 := cell_of hb.out.2.2 (i := 4) rfl; have q5 := cell_of hb.out.2.2 (i := 5) rfl
      have hz : ∀ o, wr.frozen? ⟨w.heap.size + 1, o, none⟩ = false := fun o => by simp [World.frozen?, hb.out.2.2]
      have Hrep := Lib.hid hrep
      clear hbo hrep
      go_wp2
      have HQ : Hid ((six wr (w.heap.size + 1) c0 c1 c2 c3 c4 c5).heap[w.heap.size + 1]? = some (.cells #[c0, c1, c2, c3, c4, c5] 26 (0, 0))) := six_at hb.out.2.2 _ _ _ _ _ _
      have HEq : Hid (Ext w (six wr (w.heap.size + 1) c0 c1 c2 c3 c4 c5)) := six_ext hb.out.1 (by omega) _ _ _ _ _ _
      have HRq : Hid (RepGV (w.heap.size ≤ ·) (six wr (w.heap.size + 1) c0 c1 c2 c3 c4 c5) (mkMap (insAll keys (cleans l) [])) [c0, c1, c2, c3, c4, c5]) := RepGV.frame (S' := (w.heap.size ≤ ·)) ((six_same wr (w.heap.size + 1) _ _ _ _ _ _).mono fun b hb => by omega) (fun b hb => by omega) Hrep.out
      refine bodyPost_ret (res6 Try.results59 rfl HQ.out) rfl ?_
      exact ⟨_, rfl, ⟨_, rfl, HRq.out⟩, HEq.out⟩
end Go.Smd
