/- impl.plain, impl.plainMap: a value's tree. -/
import Derived.Test.YtphldfnnjoehpaaBuild
import Derived.Test.YtphldfnnjoehpaaWb
namespace Go.Smd
open Go.RowKit Go.Proofs

def mapOf : List ByteArray → List Tree → Fields → Fields
  | k :: ks, t :: ts, m => mapOf ks ts (ins k t m)
  | _, _, m => m
mutual
def treeOf : GV → Tree
  | .mk kind n f s keys l =>
    if kind = 1 then .bool (n != 0) else if kind = 2 then .int n else if kind = 3 then .float f else if kind = 4 then .str s
    else if kind = 5 then .list (treesOf l) else if kind = 6 then .map (mapOf keys (treesOf l) []) else .nil
def treesOf : List GV → List Tree
  | [] => []
  | x :: l => treeOf x :: treesOf l
end
theorem treesOf_eq : ∀ l, treesOf l = l.map treeOf
  | [] => by simp [treesOf]
  | x :: l => by simp [treesOf, treesOf_eq l]
theorem mapOf_length : ∀ (ks : List ByteArray) (ts : List Tree) (m : Fields), (mapOf ks ts m).length ≤ m.length + ks.length
  | [], ts, m => by simp [mapOf]
  | k :: ks, [], m => by simp [mapOf]
  | k :: ks, t :: ts, m => by
    simp only [mapOf]
    have h1 := mapOf_length ks ts (ins k t m)
    have h2 := ins_keys_length k t m
    simp; omega
theorem mapOf_snoc : ∀ (ks : List ByteArray) (ts : List Tree) (m : Fields) (i : Nat) (k : ByteArray) (t : Tree), ks[i]? = some k → ts[i]? = some t →
    mapOf (ks.take (i + 1)) ts m = ins k t (mapOf (ks.take i) ts m)
  | [], _, _, i, _, _, h, _ => by simp at h
  | _ :: _, [], _, i, _, _, _, h => by simp at h
  | q :: ks, u :: ts, m, 0, k, t, hk, ht => by
    simp at hk ht; subst hk; subst ht
    cases ks <;> simp [mapOf]
  | q :: ks, u :: ts, m, i + 1, k, t, hk, ht => by
    simp only [List.take_succ_cons, mapOf]
    exact mapOf_snoc ks ts (ins q u m) i k t (by simpa using hk) (by simpa using ht)
theorem mapOf_skip : ∀ (ks : List ByteArray) (ts : List Tree) (m : Fields) (i : Nat), ts.length ≤ i → mapOf (ks.take (i + 1)) ts m = mapOf (ks.take i) ts m
  | [], _, _, i, _ => by simp
  | q :: ks, [], m, i, _ => by cases i <;> simp [mapOf]
  | q :: ks, t :: ts, m, 0, h => by simp at h
  | q :: ks, t :: ts, m, i + 1, h => by
    simp only [List.take_succ_cons, mapOf]
    exact mapOf_skip ks ts (ins q t m) i (by simpa using h)


def PlainC (v : GV) : Prop := ∀ (cs : List Value) (w : World) (S : Nat → Prop), RepGV S w v cs →
  Calls Try.prog 96 #[.agg cs.toArray] w (Makes (fun W u => RepT W (w.heap.size ≤ ·) (treeOf v) u) w)

set_option maxHeartbeats 1000000 in
theorem plainMap_step (kind n : Int) (f : Nat) (s : ByteArray) (keys : List ByteArray) (l : List GV) (IH : ∀ x ∈ l, PlainC x) (cs : List Value) (w : World) (S : Nat → Prop) (hv : RepGV S w (.mk kind n f s keys l) cs) :
    Calls Try.prog 88 #[.agg cs.toArray] w (Makes (fun W u => ∃ r, u = .map (some r) ∧ RepT W (w.heap.size ≤ ·) (.map (mapOf keys (treesOf l) [])) (.iface 154 u)) w) := by
  obtain ⟨ka, kc, la, lc, rfl, ok, hkc, hlc, hks, hls⟩ := hv.open
  have h1 := ok.okKeys
  have h2 := ok.okL
  obtain ⟨nk, hnk⟩ : ∃ n, keys.length = n := ⟨_, rfl⟩
  obtain ⟨nl, hnl⟩ : ∃ n, l.length = n := ⟨_, rfl⟩
  have Hk := Lib.hid hnk; have Hl := Lib.hid hnl
  have hkeach := Lib.hid ok.okEach
  rw [hnk] at h1 hkc ⊢; rw [hnl] at h2 hlc ⊢
  clear hnk hnl ok
  have hmm := @run_makeMap Try.prog
  go_enter Try.func88, Try.ntmps88
  go_wp2
  go_loopw [10] (fun i wr => ∃ k : Nat, k ≤ nk ∧ i = .int .i64 k ∧ Hid (Below w.heap.size w wr ∧ wr.heap[w.heap.size]? = some (.cells #[.int .i64 kind, .int .i64 n, .float .f64 f, .string s, .slice ka nk kc, .slice la nl lc] 26 (0, 0))) ∧ RepT wr (w.heap.size + 1 ≤ ·) (.map (mapOf (keys.take k) (treesOf l) [])) (.iface 154 (.map (some (w.heap.size + 1)))) ∧ w.heap.size + 2 ≤ wr.heap.size) (fun i _ => nk - (intOf i).toNat)
  case atStart =>
    refine ⟨0, Nat.zero_le _, rfl, ⟨?_, ?_⟩, ?_, ?_⟩
    · exact ((Ext.refl w).alloc _).alloc _
    · exact old_at _ (new_at _ rfl)
    · exact .map (es := []) (clock := 0) (Nat.le_refl _) (new_at _ (size_alloc _ _)) (by simp [mapOf]) (by simp [mapOf]) (by simp [mapOf]) (by simp) (by simp) (by simp [mapOf])
    · rw [size_alloc, size_alloc]; omega
  case round =>
    obtain ⟨k, hk, rfl, hb, hm, hsz⟩ := hrel
    have c4 := cell_of hb.out.2 (i := 4) rfl
    have c5 := cell_of hb.out.2 (i := 5) rfl
    by_cases hlt : k < nk
    · obtain ⟨q, hq⟩ : ∃ q, keys[k]? = some q := ⟨keys[k]'(by rw [Hk.out]; exact hlt), List.getElem?_eq_getElem _⟩
      have hE : Ext w wr := hb.out.1
      obtain ⟨ad, rfl, cq⟩ := (hks.ext hE).at hq
      by_cases hlt2 : k < nl
      · obtain ⟨x, hx⟩ : ∃ x, l[k]? = some x := ⟨l[k]'(by rw [Hl.out]; exact hlt2), List.getElem?_eq_getElem _⟩
        obtain ⟨bd, d0, d1, d2, d3, d4, d5, rfl, _, hxr, hxc⟩ := (hls.ext hE).at hx
        have Hq := Lib.hid hq; have Hx := Lib.hid hx; clear hq hx
        obtain ⟨pa, hpa⟩ : ∃ pa, bd.add (k * 6) = pa := ⟨_, rfl⟩
        rw [hpa] at hxc
        obtain ⟨e0, e1, e2, e3, e4, e5⟩ := hxc.six
        go_wp2_with fail
        refine (IH x (List.mem_of_getElem? Hx.out) [d0, d1, d2, d3, d4, d5] wr S hxr).mono ?_
        rintro e w1 ⟨u, rfl, hu, hE1⟩
        have hsz1 := hE1.size
        obtain ⟨o, hrun, hm'⟩ := mapSet (hm.ext hE1) (k := q) (t := treeOf x) (x := u) (hu.mono fun b hb => ⟨by omega, by omega⟩) (hkeach.out q (List.mem_of_getElem? Hq.out)) (by have := mapOf_length (keys.take k) (treesOf l) []; simp at this; omega)
        have Hb2 := Lib.hid (And.intro (below_put (hb.out.1.trans (hE1.below hb.out.1.size)) (r := w.heap.size + 1) (by omega) o) ((put_other w1 o (r := w.heap.size + 1) (b := w.heap.size) (by omega)).trans (hE1.heap hb.out.2)))
        have Hm2 : Hid (RepT (put w1 (w.heap.size + 1) o) (w.heap.size + 1 ≤ ·) (.map (mapOf (keys.take (k + 1)) (treesOf l) [])) (.iface 154 (.map (some (w.heap.size + 1))))) := by
          rw [mapOf_snoc keys (treesOf l) [] k q (treeOf x) Hq.out (by rw [treesOf_eq, List.getElem?_map, Hx.out]; rfl)]; exact hm'
        have hsz2 := put_size w1 (w.heap.size + 1) o
        clear hm' hu hm hb e0 e1 e2 e3 e4 e5 hE1 hE
        go_wp2
        go_roundw
        case rel => exact ⟨k + 1, by omega, by go_num, Hb2, Hm2.out, by omega⟩
        case measure => simp [intOf]; omega
      · have Hm2 : Hid (RepT wr (w.heap.size + 1 ≤ ·) (.map (mapOf (keys.take (k + 1)) (treesOf l) [])) (.iface 154 (.map (some (w.heap.size + 1))))) := by
          rw [mapOf_skip keys (treesOf l) [] k (by rw [treesOf_eq, List.length_map, Hl.out]; omega)]; exact hm
        have Hq := Lib.hid hq; clear hq hm
        go_wp2
        go_roundw
        case rel => exact ⟨k + 1, by omega, by go_num, hb, Hm2.out, by omega⟩
        case measure => simp [intOf]; omega
    · have Hm2 : Hid (RepT wr (w.heap.size ≤ ·) (.map (mapOf keys (treesOf l) [])) (.iface 154 (.map (some (w.heap.size + 1))))) := by
        have := hm.mono (S' := (w.heap.size ≤ ·)) fun b hb => by omega
        rwa [List.take_of_length_le (by rw [Hk.out]; omega)] at this
      clear hm
      go_wp2
      go_ret
      exact ⟨_, rfl, ⟨_, rfl, Hm2.out⟩, hb.out.1⟩

set_option maxRecDepth 100000 in
set_option maxHeartbeats 1000000 in
theorem plain_c : ∀ v, PlainC v := by
  intro v
  induction v using GV.ind with
  | h kind n f s keys l IH =>
  intro cs w S hv
  by_cases k6 : kind = 6
  · have hm := plainMap_step kind n f s keys l IH cs (w.alloc (.cells cs.toArray 26)) S (hv.ext ((Ext.refl _).alloc _))
    obtain ⟨ka, kc, la, lc, rfl, ok, hkc, hlc, hks, hls⟩ := hv.open
    subst k6
    have HT : Hid (treeOf (.mk 6 n f s keys l) = .map (mapOf keys (treesOf l) [])) := by simp [treeOf, Hid]
    have HM := Lib.hid hm; clear hm
    go_enter Try.func96, Try.ntmps96
    go_wp2_with fail
    refine HM.out.mono ?_
    rintro e w1 ⟨u, rfl, ⟨r, rfl, hu⟩, hE⟩
    go_wp2
    go_ret
    refine ⟨_, rfl, ?_, ((Ext.refl _).alloc _).trans hE⟩
    rw [HT.out]
    exact hu.mono fun b hb => by rw [size_alloc] at hb; omega
  obtain ⟨ka, kc, la, lc, rfl, ok, hkc, hlc, hks, hls⟩ := hv.open
  have h2 := ok.okL
  by_cases k5 : kind = 5
  · subst k5
    have HT : Hid (treeOf (.mk 5 n f s keys l) = .list (treesOf l)) := by simp [treeOf, Hid]
    obtain ⟨nl, hnl⟩ : ∃ n, l.length = n := ⟨_, rfl⟩
    have Hl := Lib.hid hnl
    rw [hnl] at h2 hlc ⊢
    clear hnl ok
    obtain ⟨cur, hmk, hB⟩ := Build.make (P := Try.prog) (R := RT) (S := (w.heap.size ≤ ·)) (T := (w.heap.size ≤ ·)) Try.underlying128 info_any (by omega) (w.alloc (.cells #[.int .i64 5, .int .i64 n, .float .f64 f, .string s, .slice ka keys.length kc, .slice la nl lc] 26)) nl (by omega) (by simp)
    have HB := Lib.hid hB; clear hB
    go_enter Try.func96, Try.ntmps96
    go_wp2
    clear hmk
    go_loopw [3, 38] (fun v i wr => ∃ k : Nat, k ≤ nl ∧ i = .int .i64 k ∧ Hid (Ext w wr) ∧ Hid (Build RT 20 1 (w.heap.size ≤ ·) (w.heap.size ≤ ·) wr v (treesOf (l.take k)))) (fun _ i _ => nl - (intOf i).toNat)
    case atStart => exact ⟨0, Nat.zero_le _, rfl, ((Ext.refl w).alloc _).alloc _, by rw [size_alloc] at HB; exact HB⟩
    case round =>
      obtain ⟨k, hk, rfl, hE, hB⟩ := hrel
      by_cases hlt : k < nl
      · obtain ⟨x, hx⟩ : ∃ x, l[k]? = some x := ⟨l[k]'(by rw [Hl.out]; exact hlt), List.getElem?_eq_getElem _⟩
        obtain ⟨bd, d0, d1, d2, d3, d4, d5, rfl, _, hxr, hxc⟩ := (hls.ext hE.out).at hx
        have Hx := Lib.hid hx; clear hx
        obtain ⟨pa, hpa⟩ : ∃ pa, bd.add (k * 6) = pa := ⟨_, rfl⟩
        rw [hpa] at hxc
        obtain ⟨e0, e1, e2, e3, e4, e5⟩ := hxc.six
        obtain ⟨o0, o1, o2, o3, o4, o5⟩ := hxr.six
        go_wp2_with fail
        refine (IH x (List.mem_of_getElem? Hx.out) [d0, d1, d2, d3, d4, d5] _ S (hxr.ext ((Ext.refl _).alloc _))).mono ?_
        rintro e w1 ⟨u, rfl, hu, hE1⟩
        have hsz := hE.out.size
        have hE2 : Ext wr w1 := ((Ext.refl wr).alloc _).trans hE1
        have hsz1 := hE1.size
        rw [size_alloc] at hsz1
        have hB1 := hB.out.ext framedRT hE2
        have hlk := hB.out
        obtain ⟨v2, w2, hrun, hB2, hg, hat, A2, c2, hv2⟩ := Build.push (P := Try.prog) framedRT (t := 128) (ty := 128) Try.underlying128 info_any rfl (by omega) (by omega) hB1 (y := treeOf x) (ys := [u]) ⟨u, rfl, hu.mono fun b hb => by
          rw [size_alloc] at hb
          exact ⟨by omega, fun hc => by have := hlk.row_lt hc; omega⟩⟩ rfl hu.one (by omega) (by rw [treesOf_eq, List.length_map, List.length_take]; omega)
        have HB2 : Hid (Build RT 20 1 (w.heap.size ≤ ·) (w.heap.size ≤ ·) w2 v2 (treesOf (l.take (k + 1)))) := by
          have : treesOf (l.take (k + 1)) = treesOf (l.take k) ++ [treeOf x] := by rw [List.take_add_one, Hx.out]; simp [treesOf_eq]
          rw [this]; exact hB2
        have HE2 : Hid (Ext w w2) := Below.grown (Below.trans hE.out (hE2.below hsz)) hg (by omega) fun b hb => by
          exact hlk.row_in hb
        rw [hv2] at hrun HB2
        have HR := Lib.hid hrun
        have hcu := cells_one (hu.one u (by simp)); unfold Value.cells at hcu
        clear hB2 hg hat hlk hB1 hB hE hu hE1 hE2 hv2 hrun
        go_wp2_with (at_builtin; go_must (refine wpList_append_run HR.out rfl rfl rfl rfl ?_))
        go_roundw
        case rel => exact ⟨k + 1, by omega, by go_num, HE2, HB2⟩
        case measure => simp [intOf]; omega
      · obtain ⟨A, c, rfl, hcap, hrow⟩ := hB.out.done framedRT (by omega)
        have HD : Hid (RepT wr (w.heap.size ≤ ·) (.list (treesOf l)) (.iface 128 (.slice A (treesOf (l.take k)).length c))) := by
          have e : l.take k = l := List.take_of_length_le (by rw [Hl.out]; omega)
          rw [e] at hrow hcap ⊢
          exact RepT.ofRow hrow (by rw [treesOf_eq, List.length_map, Hl.out]; omega) hcap
        clear hrow hB
        go_wp2
        go_ret
        exact ⟨_, rfl, by rw [HT.out]; exact HD.out, hE.out⟩
  · have HT : Hid (∀ kind, kind ≠ 5 → kind ≠ 6 → treeOf (.mk kind n f s keys l) = if kind = 1 then .bool (n != 0) else if kind = 2 then .int n else if kind = 3 then .float f else if kind = 4 then .str s else .nil) := by intro k h5 h6; simp [treeOf, h5, h6]
    have hn := ok.okN
    have hf := ok.okF
    have hs := ok.okS
    have HE : Hid (Ext w (w.alloc (.cells #[.int .i64 kind, .int .i64 n, .float .f64 f, .string s, .slice ka keys.length kc, .slice la l.length lc] 26))) := (Ext.refl w).alloc _
    by_cases k1 : kind = 1
    · subst k1
      go_enter Try.func96, Try.ntmps96
      go_wp2
      go_ret
      refine ⟨_, rfl, ?_, HE.out⟩
      rw [HT.out _ (by decide) (by decide), if_pos rfl]; exact RepT.bool _
    by_cases k2 : kind = 2
    · subst k2
      go_enter Try.func96, Try.ntmps96
      go_wp2
      go_ret
      refine ⟨_, rfl, ?_, HE.out⟩
      rw [HT.out _ (by decide) (by decide), if_neg (by decide), if_pos rfl]; exact RepT.int hn
    by_cases k3 : kind = 3
    · subst k3
      go_enter Try.func96, Try.ntmps96
      go_wp2
      go_ret
      refine ⟨_, rfl, ?_, HE.out⟩
      rw [HT.out _ (by decide) (by decide), if_neg (by decide), if_neg (by decide), if_pos rfl]; exact RepT.float hf
    by_cases k4 : kind = 4
    · subst k4
      go_enter Try.func96, Try.ntmps96
      go_wp2
      go_ret
      refine ⟨_, rfl, ?_, HE.out⟩
      rw [HT.out _ (by decide) (by decide), if_neg (by decide), if_neg (by decide), if_neg (by decide), if_pos rfl]; exact RepT.str hs
    · have b1 : (kind == 1) = false := by simp [k1]
      have b2 : (kind == 2) = false := by simp [k2]
      have b3 : (kind == 3) = false := by simp [k3]
      have b4 : (kind == 4) = false := by simp [k4]
      have b5 : (kind == 5) = false := by simp [k5]
      have b6 : (kind == 6) = false := by simp [k6]
      go_enter Try.func96, Try.ntmps96
      go_wp2
      go_ret
      refine ⟨_, rfl, ?_, HE.out⟩
      rw [HT.out _ k5 k6, if_neg k1, if_neg k2, if_neg k3, if_neg k4]; exact RepT.nil
end Go.Smd
