/- Part 2 of the proof: Tree Str Region Clean. -/
import Derived.Test.YtphldfnnjoehpaaQC01
import Derived.Orders
import Derived.OrdersHeld
import Derived.Deep.Quiet
import Derived.BigQuiet
set_option linter.unusedVariables false
section
namespace Go.Smd
open Go.RowKit Go.Proofs
def mapOf : List ByteArray → List Tree → Fields → Fields
  | k :: ks, t :: ts, m => mapOf ks ts (ins k t m)
  | _, _, m => m
mutual
def treeOf : GV → Tree
  | .mk kind n f s keys l =>
    if kind = 1 then .bool (n != 0) else if kind = 2 then .int n else if kind = 3 then .float f else if kind = 4 then .str s
    else if kind = 5 then .list (treesOf l) else if kind = 6 then .map (mapOf keys (treesOf l) []) else .nil
def treesOf : List GV → List Tree
  | [] => []
  | x :: l => treeOf x :: treesOf l
end
theorem treesOf_eq : ∀ l, treesOf l = l.map treeOf
  | [] => by simp [treesOf]
  | x :: l => by simp [treesOf, treesOf_eq l]
theorem mapOf_length : ∀ (ks : List ByteArray) (ts : List Tree) (m : Fields), (mapOf ks ts m).length ≤ m.length + ks.length
  | [], ts, m => by simp [mapOf]
  | k :: ks, [], m => by simp [mapOf]
  | k :: ks, t :: ts, m => by
    simp only [mapOf]
    have h1 := mapOf_length ks ts (ins k t m)
    have h2 := ins_keys_length k t m
    simp; omega
theorem mapOf_snoc : ∀ (ks : List ByteArray) (ts : List Tree) (m : Fields) (i : Nat) (k : ByteArray) (t : Tree), ks[i]? = some k → ts[i]? = some t →
    mapOf (ks.take (i + 1)) ts m = ins k t (mapOf (ks.take i) ts m)
  | [], _, _, i, _, _, h, _ => by simp at h
  | _ :: _, [], _, i, _, _, _, h => by simp at h
  | q :: ks, u :: ts, m, 0, k, t, hk, ht => by
    simp at hk ht; subst hk; subst ht
    cases ks <;> simp [mapOf]
  | q :: ks, u :: ts, m, i + 1, k, t, hk, ht => by
    simp only [List.take_succ_cons, mapOf]
    exact mapOf_snoc ks ts (ins q u m) i k t (by simpa using hk) (by simpa using ht)
theorem mapOf_skip : ∀ (ks : List ByteArray) (ts : List Tree) (m : Fields) (i : Nat), ts.length ≤ i → mapOf (ks.take (i + 1)) ts m = mapOf (ks.take i) ts m
  | [], _, _, i, _ => by simp
  | q :: ks, [], m, i, _ => by cases i <;> simp [mapOf]
  | q :: ks, t :: ts, m, 0, h => by simp at h
  | q :: ks, t :: ts, m, i + 1, h => by
    simp only [List.take_succ_cons, mapOf]
    exact mapOf_skip ks ts (ins q t m) i (by simpa using h)
def PlainC (v : GV) : Prop := ∀ (cs : List Value) (w : World) (S : Nat → Prop), RepGV S w v cs →
  Calls Try.prog 96 #[.agg cs.toArray] w (Makes (fun W u => RepT W (w.heap.size ≤ ·) (treeOf v) u) w)
set_option maxHeartbeats 1000000 in
theorem plainMap_step (kind n : Int) (f : Nat) (s : ByteArray) (keys : List ByteArray) (l : List GV) (IH : ∀ x ∈ l, PlainC x) (cs : List Value) (w : World) (S : Nat → Prop) (hv : RepGV S w (.mk kind n f s keys l) cs) :
    Calls Try.prog 88 #[.agg cs.toArray] w (Makes (fun W u => ∃ r, u = .map (some r) ∧ RepT W (w.heap.size ≤ ·) (.map (mapOf keys (treesOf l) [])) (.iface 154 u)) w) := by
  obtain ⟨ka, kc, la, lc, rfl, ok, hkc, hlc, hks, hls⟩ := hv.open
  have h1 := ok.okKeys
  have h2 := ok.okL
  obtain ⟨nk, hnk⟩ : ∃ n, keys.length = n := ⟨_, rfl⟩
  obtain ⟨nl, hnl⟩ : ∃ n, l.length = n := ⟨_, rfl⟩
  have Hk := Lib.hid hnk; have Hl := Lib.hid hnl
  have hkeach := Lib.hid ok.okEach
  rw [hnk] at h1 hkc ⊢; rw [hnl] at h2 hlc ⊢
  clear hnk hnl ok
  have hmm := @run_makeMap Try.prog
  go_enter Try.func88, Try.ntmps88
  go_wp2
  go_loopw [10] (fun i wr => ∃ k : Nat, k ≤ nk ∧ i = .int .i64 k ∧ Hid (Below w.heap.size w wr ∧ wr.heap[w.heap.size]? = some (.cells #[.int .i64 kind, .int .i64 n, .float .f64 f, .string s, .slice ka nk kc, .slice la nl lc] 26 (0, 0))) ∧ RepT wr (w.heap.size + 1 ≤ ·) (.map (mapOf (keys.take k) (treesOf l) [])) (.iface 154 (.map (some (w.heap.size + 1)))) ∧ w.heap.size + 2 ≤ wr.heap.size) (fun i _ => nk - (intOf i).toNat)
  case atStart =>
    refine ⟨0, Nat.zero_le _, rfl, ⟨?_, ?_⟩, ?_, ?_⟩
    · exact ((Ext.refl w).alloc _).alloc _
    · exact old_at _ (new_at _ rfl)
    · exact .map (es := []) (clock := 0) (Nat.le_refl _) (new_at _ (size_alloc _ _)) (by simp [mapOf]) (by simp [mapOf]) (by simp [mapOf]) (by simp) (by simp) (by simp [mapOf])
    · rw [size_alloc, size_alloc]; omega
  case round =>
    obtain ⟨k, hk, rfl, hb, hm, hsz⟩ := hrel
    have c4 := cell_of hb.out.2 (i := 4) rfl
    have c5 := cell_of hb.out.2 (i := 5) rfl
    by_cases hlt : k < nk
    · obtain ⟨q, hq⟩ : ∃ q, keys[k]? = some q := ⟨keys[k]'(by rw [Hk.out]; exact hlt), List.getElem?_eq_getElem _⟩
      have hE : Ext w wr := hb.out.1
      obtain ⟨ad, rfl, cq⟩ := (hks.ext hE).at hq
      by_cases hlt2 : k < nl
      · obtain ⟨x, hx⟩ : ∃ x, l[k]? = some x := ⟨l[k]'(by rw [Hl.out]; exact hlt2), List.getElem?_eq_getElem _⟩
        obtain ⟨bd, d0, d1, d2, d3, d4, d5, rfl, _, hxr, hxc⟩ := (hls.ext hE).at hx
        have Hq := Lib.hid hq; have Hx := Lib.hid hx; clear hq hx
        obtain ⟨pa, hpa⟩ : ∃ pa, bd.add (k * 6) = pa := ⟨_, rfl⟩
        rw [hpa] at hxc
        obtain ⟨e0, e1, e2, e3, e4, e5⟩ := hxc.six
        go_wp2_with fail
        refine (IH x (List.mem_of_getElem? Hx.out) [d0, d1, d2, d3, d4, d5] wr S hxr).mono ?_
        rintro e w1 ⟨u, rfl, hu, hE1⟩
        have hsz1 := hE1.size
        obtain ⟨o, hrun, hm'⟩ := mapSet (hm.ext hE1) (k := q) (t := treeOf x) (x := u) (hu.mono fun b hb => ⟨by omega, by omega⟩) (hkeach.out q (List.mem_of_getElem? Hq.out)) (by have := mapOf_length (keys.take k) (treesOf l) []; simp at this; omega)
        have Hb2 := Lib.hid (And.intro (below_put (hb.out.1.trans (hE1.below hb.out.1.size)) (r := w.heap.size + 1) (by omega) o) ((put_other w1 o (r := w.heap.size + 1) (b := w.heap.size) (by omega)).trans (hE1.heap hb.out.2)))
        have Hm2 : Hid (RepT (put w1 (w.heap.size + 1) o) (w.heap.size + 1 ≤ ·) (.map (mapOf (keys.take (k + 1)) (treesOf l) [])) (.iface 154 (.map (some (w.heap.size + 1))))) := by
          rw [mapOf_snoc keys (treesOf l) [] k q (treeOf x) Hq.out (by rw [treesOf_eq, List.getElem?_map, Hx.out]; rfl)]; exact hm'
        have hsz2 := put_size w1 (w.heap.size + 1) o
        clear hm' hu hm hb e0 e1 e2 e3 e4 e5 hE1 hE
        go_wp2
        go_roundw
        case rel => exact ⟨k + 1, by omega, by go_num, Hb2, Hm2.out, by omega⟩
        case measure => simp [intOf]; omega
      · have Hm2 : Hid (RepT wr (w.heap.size + 1 ≤ ·) (.map (mapOf (keys.take (k + 1)) (treesOf l) [])) (.iface 154 (.map (some (w.heap.size + 1))))) := by
          rw [mapOf_skip keys (treesOf l) [] k (by rw [treesOf_eq, List.length_map, Hl.out]; omega)]; exact hm
        have Hq := Lib.hid hq; clear hq hm
        go_wp2
        go_roundw
        case rel => exact ⟨k + 1, by omega, by go_num, hb, Hm2.out, by omega⟩
        case measure => simp [intOf]; omega
    · have Hm2 : Hid (RepT wr (w.heap.size ≤ ·) (.map (mapOf keys (treesOf l) [])) (.iface 154 (.map (some (w.heap.size + 1))))) := by
        have := hm.mono (S' := (w.heap.size ≤ ·)) fun b hb => by omega
        rwa [List.take_of_length_le (by rw [Hk.out]; omega)] at this
      clear hm
      go_wp2
      go_ret
      exact ⟨_, rfl, ⟨_, rfl, Hm2.out⟩, hb.out.1⟩
set_option maxRecDepth 100000 in
set_option maxHeartbeats 1000000 in
theorem plain_c : ∀ v, PlainC v := by
  intro v
  induction v using GV.ind with
  | h kind n f s keys l IH =>
  intro cs w S hv
  by_cases k6 : kind = 6
  · have hm := plainMap_step kind n f s keys l IH cs (w.alloc (.cells cs.toArray 26)) S (hv.ext ((Ext.refl _).alloc _))
    obtain ⟨ka, kc, la, lc, rfl, ok, hkc, hlc, hks, hls⟩ := hv.open
    subst k6
    have HT : Hid (treeOf (.mk 6 n f s keys l) = .map (mapOf keys (treesOf l) [])) := by simp [treeOf, Hid]
    have HM := Lib.hid hm; clear hm
    go_enter Try.func96, Try.ntmps96
    go_wp2_with fail
    refine HM.out.mono ?_
    rintro e w1 ⟨u, rfl, ⟨r, rfl, hu⟩, hE⟩
    go_wp2
    go_ret
    refine ⟨_, rfl, ?_, ((Ext.refl _).alloc _).trans hE⟩
    rw [HT.out]
    exact hu.mono fun b hb => by rw [size_alloc] at hb; omega
  obtain ⟨ka, kc, la, lc, rfl, ok, hkc, hlc, hks, hls⟩ := hv.open
  have h2 := ok.okL
  by_cases k5 : kind = 5
  · subst k5
    have HT : Hid (treeOf (.mk 5 n f s keys l) = .list (treesOf l)) := by simp [treeOf, Hid]
    obtain ⟨nl, hnl⟩ : ∃ n, l.length = n := ⟨_, rfl⟩
    have Hl := Lib.hid hnl
    rw [hnl] at h2 hlc ⊢
    clear hnl ok
    obtain ⟨cur, hmk, hB⟩ := Build.make (P := Try.prog) (R := RT) (S := (w.heap.size ≤ ·)) (T := (w.heap.size ≤ ·)) Try.underlying128 info_any (by omega) (w.alloc (.cells #[.int .i64 5, .int .i64 n, .float .f64 f, .string s, .slice ka keys.length kc, .slice la nl lc] 26)) nl (by omega) (by simp)
    have HB := Lib.hid hB; clear hB
    go_enter Try.func96, Try.ntmps96
    go_wp2
    clear hmk
    go_loopw [3, 38] (fun v i wr => ∃ k : Nat, k ≤ nl ∧ i = .int .i64 k ∧ Hid (Ext w wr) ∧ Hid (Build RT 20 1 (w.heap.size ≤ ·) (w.heap.size ≤ ·) wr v (treesOf (l.take k)))) (fun _ i _ => nl - (intOf i).toNat)
    case atStart => exact ⟨0, Nat.zero_le _, rfl, ((Ext.refl w).alloc _).alloc _, by rw [size_alloc] at HB; exact HB⟩
    case round =>
      obtain ⟨k, hk, rfl, hE, hB⟩ := hrel
      by_cases hlt : k < nl
      · obtain ⟨x, hx⟩ : ∃ x, l[k]? = some x := ⟨l[k]'(by rw [Hl.out]; exact hlt), List.getElem?_eq_getElem _⟩
        obtain ⟨bd, d0, d1, d2, d3, d4, d5, rfl, _, hxr, hxc⟩ := (hls.ext hE.out).at hx
        have Hx := Lib.hid hx; clear hx
        obtain ⟨pa, hpa⟩ : ∃ pa, bd.add (k * 6) = pa := ⟨_, rfl⟩
        rw [hpa] at hxc
        obtain ⟨e0, e1, e2, e3, e4, e5⟩ := hxc.six
        obtain ⟨o0, o1, o2, o3, o4, o5⟩ := hxr.six
        go_wp2_with fail
        refine (IH x (List.mem_of_getElem? Hx.out) [d0, d1, d2, d3, d4, d5] _ S (hxr.ext ((Ext.refl _).alloc _))).mono ?_
        rintro e w1 ⟨u, rfl, hu, hE1⟩
        have hsz := hE.out.size
        have hE2 : Ext wr w1 := ((Ext.refl wr).alloc _).trans hE1
        have hsz1 := hE1.size
        rw [size_alloc] at hsz1
        have hB1 := hB.out.ext framedRT hE2
        have hlk := hB.out
        obtain ⟨v2, w2, hrun, hB2, hg, hat, A2, c2, hv2⟩ := Build.push (P := Try.prog) framedRT (t := 128) (ty := 128) Try.underlying128 info_any rfl (by omega) (by omega) hB1 (y := treeOf x) (ys := [u]) ⟨u, rfl, hu.mono fun b hb => by
          rw [size_alloc] at hb
          exact ⟨by omega, fun hc => by have := hlk.row_lt hc; omega⟩⟩ rfl hu.one (by omega) (by rw [treesOf_eq, List.length_map, List.length_take]; omega)
        have HB2 : Hid (Build RT 20 1 (w.heap.size ≤ ·) (w.heap.size ≤ ·) w2 v2 (treesOf (l.take (k + 1)))) := by
          have : treesOf (l.take (k + 1)) = treesOf (l.take k) ++ [treeOf x] := by rw [List.take_add_one, Hx.out]; simp [treesOf_eq]
          rw [this]; exact hB2
        have HE2 : Hid (Ext w w2) := Below.grown (Below.trans hE.out (hE2.below hsz)) hg (by omega) fun b hb => by
          exact hlk.row_in hb
        rw [hv2] at hrun HB2
        have HR := Lib.hid hrun
        have hcu := cells_one (hu.one u (by simp)); unfold Value.cells at hcu
        clear hB2 hg hat hlk hB1 hB hE hu hE1 hE2 hv2 hrun
        go_wp2_with (at_builtin; go_must (refine wpList_append_run HR.out rfl rfl rfl rfl ?_))
        go_roundw
        case rel => exact ⟨k + 1, by omega, by go_num, HE2, HB2⟩
        case measure => simp [intOf]; omega
      · obtain ⟨A, c, rfl, hcap, hrow⟩ := hB.out.done framedRT (by omega)
        have HD : Hid (RepT wr (w.heap.size ≤ ·) (.list (treesOf l)) (.iface 128 (.slice A (treesOf (l.take k)).length c))) := by
          have e : l.take k = l := List.take_of_length_le (by rw [Hl.out]; omega)
          rw [e] at hrow hcap ⊢
          exact RepT.ofRow hrow (by rw [treesOf_eq, List.length_map, Hl.out]; omega) hcap
        clear hrow hB
        go_wp2
        go_ret
        exact ⟨_, rfl, by rw [HT.out]; exact HD.out, hE.out⟩
  · have HT : Hid (∀ kind, kind ≠ 5 → kind ≠ 6 → treeOf (.mk kind n f s keys l) = if kind = 1 then .bool (n != 0) else if kind = 2 then .int n else if kind = 3 then .float f else if kind = 4 then .str s else .nil) := by intro k h5 h6; simp [treeOf, h5, h6]
    have hn := ok.okN
    have hf := ok.okF
    have hs := ok.okS
    have HE : Hid (Ext w (w.alloc (.cells #[.int .i64 kind, .int .i64 n, .float .f64 f, .string s, .slice ka keys.length kc, .slice la l.length lc] 26))) := (Ext.refl w).alloc _
    by_cases k1 : kind = 1
    · subst k1
      go_enter Try.func96, Try.ntmps96
      go_wp2
      go_ret
      refine ⟨_, rfl, ?_, HE.out⟩
      rw [HT.out _ (by decide) (by decide), if_pos rfl]; exact RepT.bool _
    by_cases k2 : kind = 2
    · subst k2
      go_enter Try.func96, Try.ntmps96
      go_wp2
      go_ret
      refine ⟨_, rfl, ?_, HE.out⟩
      rw [HT.out _ (by decide) (by decide), if_neg (by decide), if_pos rfl]; exact RepT.int hn
    by_cases k3 : kind = 3
    · subst k3
      go_enter Try.func96, Try.ntmps96
      go_wp2
      go_ret
      refine ⟨_, rfl, ?_, HE.out⟩
      rw [HT.out _ (by decide) (by decide), if_neg (by decide), if_neg (by decide), if_pos rfl]; exact RepT.float hf
    by_cases k4 : kind = 4
    · subst k4
      go_enter Try.func96, Try.ntmps96
      go_wp2
      go_ret
      refine ⟨_, rfl, ?_, HE.out⟩
      rw [HT.out _ (by decide) (by decide), if_neg (by decide), if_neg (by decide), if_neg (by decide), if_pos rfl]; exact RepT.str hs
    · have b1 : (kind == 1) = false := by simp [k1]
      have b2 : (kind == 2) = false := by simp [k2]
      have b3 : (kind == 3) = false := by simp [k3]
      have b4 : (kind == 4) = false := by simp [k4]
      have b5 : (kind == 5) = false := by simp [k5]
      have b6 : (kind == 6) = false := by simp [k6]
      go_enter Try.func96, Try.ntmps96
      go_wp2
      go_ret
      refine ⟨_, rfl, ?_, HE.out⟩
      rw [HT.out _ k5 k6, if_neg k1, if_neg k2, if_neg k3, if_neg k4]; exact RepT.nil
end Go.Smd
end
section
namespace Go.Smd
open Go.RowKit Go.Proofs
theorem bl_irrefl : ∀ a : List UInt8, Op.bytesLess a a = false
  | [] => rfl
  | x :: a => by simp [Op.bytesLess, bl_irrefl a]
theorem bl_trans : ∀ {a b c : List UInt8}, Op.bytesLess a b = true → Op.bytesLess b c = true → Op.bytesLess a c = true
  | [], [], _, h, _ => by simp [Op.bytesLess] at h
  | [], y :: b, [], _, k => by simp [Op.bytesLess] at k
  | [], y :: b, z :: c, _, _ => by simp [Op.bytesLess]
  | x :: a, [], _, h, _ => by simp [Op.bytesLess] at h
  | x :: a, y :: b, [], _, k => by simp [Op.bytesLess] at k
  | x :: a, y :: b, z :: c, h, k => by
    simp only [Op.bytesLess, Bool.or_eq_true, decide_eq_true_eq, Bool.and_eq_true, beq_iff_eq] at *
    rcases h with h | ⟨rfl, h⟩
    · rcases k with k | ⟨rfl, k⟩
      · exact .inl (UInt8.lt_trans h k)
      · exact .inl h
    · rcases k with k | ⟨rfl, k⟩
      · exact .inl k
      · exact .inr ⟨rfl, bl_trans h k⟩
theorem bl_tri : ∀ (a b : List UInt8), Op.bytesLess a b = true ∨ a = b ∨ Op.bytesLess b a = true
  | [], [] => .inr (.inl rfl)
  | [], y :: b => .inl rfl
  | x :: a, [] => .inr (.inr rfl)
  | x :: a, y :: b => by
    simp only [Op.bytesLess, Bool.or_eq_true, decide_eq_true_eq, Bool.and_eq_true, beq_iff_eq, List.cons.injEq]
    by_cases h : x < y
    · exact .inl (.inl h)
    · by_cases h' : y < x
      · exact .inr (.inr (.inl h'))
      · have e : x = y := by
          apply UInt8.toNat_inj.1
          rw [UInt8.lt_iff_toNat_lt] at h h'; omega
        subst e
        rcases bl_tri a b with k | k | k
        · exact .inl (.inr ⟨rfl, k⟩)
        · exact .inr (.inl ⟨rfl, k⟩)
        · exact .inr (.inr (.inr ⟨rfl, k⟩))
theorem toList_go (s : ByteArray) : ∀ (n i : Nat) (r : List UInt8), s.size - i = n → ByteArray.toList.loop s i r = r.reverse ++ s.data.toList.drop i
  | 0, i, r, h => by
    unfold ByteArray.toList.loop
    have : ¬ i < s.size := by omega
    have hl : s.data.toList.length = s.size := by rw [Array.length_toList]; rfl
    rw [if_neg this, List.drop_of_length_le (by omega), List.append_nil]
  | n + 1, i, r, h => by
    unfold ByteArray.toList.loop
    have hi : i < s.size := by omega
    rw [if_pos hi, toList_go s n (i + 1) _ (by omega)]
    have hi' : i < s.data.toList.length := by rw [Array.length_toList]; exact hi
    rw [List.drop_eq_getElem_cons hi']
    have hg : s.get! i = s.data.toList[i] := by
      simp [ByteArray.get!, Array.getElem!_eq_getD, Array.getD]
      rw [dif_pos hi]
    simp [hg]
theorem toList_eq (s : ByteArray) : s.toList = s.data.toList := by
  unfold ByteArray.toList
  rw [toList_go s s.size 0 [] (by omega)]; simp
theorem toList_inj {a b : ByteArray} : a.toList = b.toList ↔ a = b := by
  rw [toList_eq, toList_eq]
  constructor
  · intro h
    cases a; cases b; congr
    exact Array.toList_inj.1 h
  · rintro rfl; rfl
def blt (a b : ByteArray) : Bool := Op.bytesLess a.toList b.toList
theorem blt_irrefl (a : ByteArray) : blt a a = false := bl_irrefl _
theorem blt_trans {a b c : ByteArray} (h : blt a b = true) (k : blt b c = true) : blt a c = true := bl_trans h k
theorem blt_tri (a b : ByteArray) : blt a b = true ∨ a = b ∨ blt b a = true := by
  rcases bl_tri a.toList b.toList with h | h | h
  · exact .inl h
  · exact .inr (.inl (toList_inj.1 h))
  · exact .inr (.inr h)
theorem blt_asymm {a b : ByteArray} (h : blt a b = true) : blt b a = false := by
  cases hb : blt b a with
  | false => rfl
  | true => have := blt_trans h hb; rw [blt_irrefl] at this; cases this
theorem blt_ne {a b : ByteArray} (h : blt a b = true) : a ≠ b := fun e => by rw [e, blt_irrefl] at h; cases h
theorem beq_list (a b : ByteArray) : (a.toList == b.toList) = decide (a = b) := by
  by_cases h : a = b
  · subst h; simp
  · rw [decide_eq_false h]; exact beq_eq_false_iff_ne.2 fun e => h (toList_inj.1 e)
section
variable {α : Type}
def Sorted (m : List (ByteArray × α)) : Prop := (m.map (·.1)).Pairwise fun a b => blt a b = true
def sIns (k : ByteArray) (v : α) : List (ByteArray × α) → List (ByteArray × α)
  | [] => [(k, v)]
  | p :: m => if blt p.1 k = true then p :: sIns k v m else if p.1 = k then (k, v) :: m else (k, v) :: p :: m
def lower (k : ByteArray) : List ByteArray → Nat
  | [] => 0
  | q :: ks => if blt q k = true then lower k ks + 1 else 0
theorem lower_le (k : ByteArray) : ∀ ks : List ByteArray, lower k ks ≤ ks.length
  | [] => Nat.le_refl _
  | q :: ks => by simp only [lower]; split <;> simp [lower_le k ks]
theorem lower_of {k : ByteArray} : ∀ {ks : List ByteArray} {i : Nat}, i ≤ ks.length → (∀ j q, j < i → ks[j]? = some q → blt q k = true) → (∀ q, ks[i]? = some q → blt q k = false) → lower k ks = i
  | [], i, h, _, _ => by simp at h; simp [lower, h]
  | q :: ks, 0, _, _, h => by simp [lower, h q rfl]
  | q :: ks, i + 1, hi, h1, h2 => by
    simp only [lower, h1 0 q (by omega) rfl, if_true]
    rw [lower_of (i := i) (by simpa using hi) (fun j p hj hp => h1 (j + 1) p (by omega) (by simpa using hp)) fun p hp => h2 p (by simpa using hp)]
theorem sIns_split {k : ByteArray} {v : α} : ∀ {m : List (ByteArray × α)}, sIns k v m = m.take (lower k (m.map (·.1))) ++ (k, v) :: (if (m.map (·.1))[lower k (m.map (·.1))]? = some k then m.drop (lower k (m.map (·.1)) + 1) else m.drop (lower k (m.map (·.1))))
  | [] => by simp [sIns, lower]
  | p :: m => by
    simp only [sIns, List.map_cons, lower]
    split
    · simp only [List.take_succ_cons, List.cons_append, List.getElem?_cons_succ, List.drop_succ_cons]
      rw [sIns_split (m := m)]
    · simp only [List.take_zero, List.nil_append, List.getElem?_cons_zero, Option.some.injEq, List.drop_zero, Nat.zero_add, List.drop_one, List.tail_cons]
      split <;> simp
theorem mem_sIns {k : ByteArray} {v : α} : ∀ {m : List (ByteArray × α)} {p : ByteArray × α}, p ∈ sIns k v m → p = (k, v) ∨ p ∈ m
  | [], p, h => by simp [sIns] at h; exact .inl h
  | q :: m, p, h => by
    simp only [sIns] at h
    split at h
    · rcases List.mem_cons.1 h with rfl | h
      · exact .inr (by simp)
      · rcases mem_sIns h with h | h
        · exact .inl h
        · exact .inr (by simp [h])
    · split at h
      · rcases List.mem_cons.1 h with h | h
        · exact .inl h
        · exact .inr (by simp [h])
      · rcases List.mem_cons.1 h with h | h
        · exact .inl h
        · exact .inr (by simpa using h)
theorem sIns_sorted {k : ByteArray} {v : α} : ∀ {m : List (ByteArray × α)}, Sorted m → Sorted (sIns k v m)
  | [], _ => by simp [sIns, Sorted]
  | p :: m, h => by
    simp only [Sorted, List.map_cons, List.pairwise_cons] at h
    simp only [sIns]
    split
    · next hb =>
      simp only [Sorted, List.map_cons, List.pairwise_cons]
      refine ⟨fun a ha => ?_, sIns_sorted h.2⟩
      obtain ⟨q, hq, rfl⟩ := List.mem_map.1 ha
      rcases mem_sIns hq with rfl | hq
      · exact hb
      · exact h.1 _ (List.mem_map_of_mem hq)
    · next hb =>
      split
      · next he =>
        simp only [Sorted, List.map_cons, List.pairwise_cons]
        exact ⟨fun a ha => by rw [← he]; exact h.1 a ha, h.2⟩
      · next he =>
        have hk : blt k p.1 = true := by
          rcases blt_tri p.1 k with h' | h' | h'
          · exact absurd h' hb
          · exact absurd h' he
          · exact h'
        simp only [Sorted, List.map_cons, List.pairwise_cons]
        refine ⟨fun a ha => ?_, h⟩
        rcases List.mem_cons.1 ha with rfl | ha
        · exact hk
        · exact blt_trans hk (h.1 a ha)
theorem sIns_length (k : ByteArray) (v : α) : ∀ m : List (ByteArray × α), (sIns k v m).length ≤ m.length + 1
  | [] => by simp [sIns]
  | p :: m => by
    simp only [sIns]
    split
    · have := sIns_length k v m; simp; omega
    · split <;> simp
end
end Go.Smd
end
section
namespace Go.Smd
open Go.RowKit
structure Grow (w : World) where
  val : World
  ext : Ext w val
instance (w : World) : Nonempty (Grow w) := ⟨⟨w, Ext.refl w⟩⟩
@[go_sem] theorem Grow.cellq {w : World} (g : Grow w) (a : Addr) (h : (w.cell? a).isSome = true) : g.val.cell? a = w.cell? a := by
  obtain ⟨v, hv⟩ := Option.isSome_iff_exists.1 h
  rw [g.ext.cell hv, hv]
@[go_sem] theorem Grow.heapq {w : World} (g : Grow w) (b : Nat) (h : (w.heap[b]?).isSome = true) : g.val.heap[b]? = w.heap[b]? := by
  obtain ⟨v, hv⟩ := Option.isSome_iff_exists.1 h
  rw [g.ext.heap hv, hv]
def Cls (w : World) : World → Prop := fun w' => ∃ g : Grow w, w' = g.val
@[go_sem] theorem Cls_iff (w w' : World) : Cls w w' = ∃ g : Grow w, w' = g.val := rfl
section
variable {P : Program} {ops : Array Oper} {Q : Exit → Act → World → Prop} {B : List Nat}
def wpAnyE (P : Program) (ops : Array Oper) (B : List Nat) (Q : Exit → Act → World → Prop) : Nat → Array Bool → Act → World → Prop
  | 0, listed, a, w => Region.ready .any ops listed = [] ∧ Q .normal a w
  | n + 1, listed, a, w =>
    (Region.ready .any ops listed = [] → Q .normal a w) ∧
    ∀ i ∈ Region.ready .any ops listed, wpOp P ops Q i (fun a' w' => (B.contains i = false → Ext w w') ∧ wpAnyE P ops B Q n (listed.setIfInBounds i true) a' w') a w
theorem wpAny_of_E : ∀ (n : Nat) (listed : Array Bool) (a : Act) (w : World), wpAnyE P ops B Q n listed a w → wpAny P .any ops Q n listed a w
  | 0, _, _, _, h => h
  | n + 1, _, _, _, h => ⟨h.1, fun i hi => wpOp_mono (fun a' w' k => wpAny_of_E n _ a' w' k.2) (h.2 i hi)⟩
theorem wp_region_E {id : Nat} {a : Act} {w : World} (B : List Nat) (hm : P.follows .mixedOrders = true) (h : wpAnyE P ops B Q ops.size (Array.replicate ops.size false) a w.drew) : (Code.region id ops true).wp P Q a w :=
  wp_region_any hm (wpAny_of_E _ _ _ _ h)
def valueOp : Op → Bool
  | .move _ | .assign _ | .pick .. | .load .. | .nilCheck _ | .binOp .. | .unOp .. | .convert .. | .fieldAddr .. | .field .. | .indexAddr .. | .index .. | .lookup .. | .extract .. | .slice .. | .makeInterface .. | .makeFunc .. | .typeAssert .. | .build .. => true
  | .call { callee := .builtin .len, .. } => true
  | .call { callee := .builtin .min, .. } => true
  | _ => false
theorem run_value_form {s : Sem Value} {w w' : World} {n : Next} (h : ((do let x ← s; pure (Next.value x)) : Sem Next).run P w = .ok n w') : ∃ x, n = .value x := by
  rw [Sem.run_bind] at h
  cases hs : s.run P w with
  | ok x w1 => rw [hs] at h; simp [Result.andThen] at h; exact ⟨x, h.1.symm⟩
  | halt x w1 => rw [hs] at h; simp [Result.andThen] at h
theorem run_halt_form {α : Type} {s : Sem α} {f : α → Sem Next} {w w' : World} {n : Next} (hf : ∀ a w1, (f a).run P w1 = .ok n w' → ∃ x, n = .value x) (h : (s >>= f).run P w = .ok n w') : ∃ x, n = .value x := by
  rw [Sem.run_bind] at h
  cases hs : s.run P w with
  | ok x w1 => rw [hs] at h; exact hf x w1 h
  | halt x w1 => rw [hs] at h; simp [Result.andThen] at h
theorem nilDeref_not {α : Type} {w w' : World} {n : α} (h : (runtimePanic .nilDeref : Sem α).run P w = .ok n w') : False := by
  unfold runtimePanic at h
  simp [program, goPanic, Sem.run] at h
theorem valueOp_form {o : Oper} (ho : valueOp o.op = true) {ρ : Operand → Value} {w w' : World} {n : Next} (h : (execOp ρ o).run P w = .ok n w') : ∃ x, n = .value x := by
  obtain ⟨dst, op, type, pos, after, guard⟩ := o
  cases op <;> simp only [valueOp, Bool.false_eq_true] at ho <;> simp only [execOp] at h
  case move x => simp at h; exact ⟨_, h.1.symm⟩
  case assign x => simp at h; exact ⟨_, h.1.symm⟩
  case pick c a b => exact run_halt_form (fun a w1 h => by simp at h; exact ⟨_, h.1.symm⟩) h
  case nilCheck x =>
    split at h
    · exact (nilDeref_not h).elim
    · exact (nilDeref_not h).elim
    · exact (nilDeref_not h).elim
    · split at h
      · exact (nilDeref_not h).elim
      · exact run_halt_form (fun a w1 h => run_halt_form (fun b w2 h => by
          split at h
          · simp [unsupported, Sem.run] at h
          · simp at h; exact ⟨_, h.1.symm⟩) h) h
      · simp at h; exact ⟨_, h.1.symm⟩
    · simp at h; exact ⟨_, h.1.symm⟩
  case call c =>
    obtain ⟨callee, args, argTypes⟩ := c
    cases callee with
    | builtin b =>
      cases b <;> simp only [Bool.false_eq_true] at ho
      · exact run_value_form (s := Builtin.len_ argTypes type (args.map ρ)) h
      · exact run_value_form (s := Builtin.min_ argTypes type (args.map ρ)) h
    | value f => simp at ho
    | invoke r m => simp at ho
  all_goals exact run_value_form h
theorem Cls.of {w w' : World} (h : Ext w w') : Cls w w' := ⟨⟨w', h⟩, rfl⟩
theorem yieldsIf_of_quiet {o : Oper} {a : Act} {w : World} {v : Value} (hv : valueOp o.op = true) (hw : Region.wanted o (yielded ops a.tmps) = true) (h : ∀ w', Cls w w' → o.quietAt P a (Cls w) w' v) : YieldsIf P ops (Ext w) o v a := by
  refine .inl ⟨hw, fun w' hE => ?_⟩
  have h1 := h w' (Cls.of hE)
  unfold Oper.quietAt at h1
  generalize hr : (execOp a.eval o).run P w' = r at h1
  cases r with
  | ok n w'' =>
    obtain ⟨x, rfl⟩ := valueOp_form hv hr
    simp only [Oper.quietUpon] at h1
    rw [h1.1, h1.2]
  | halt x w'' => simp only [Oper.quietUpon] at h1
def waits (ops : Array Oper) : Nat → Nat → Nat → Bool
  | 0, _, _ => false
  | k + 1, j, i => ((ops[j]?).map fun o => o.after.any fun e => Region.binds .any e && (e.on == i || waits ops k e.on i)).getD false
def Closed (ops : Array Oper) (listed : Array Bool) : Prop := ∀ j o, ops[j]? = some o → listed.getD j false = true → ∀ e ∈ o.after, Region.binds .any e = true → listed.getD e.on false = true
theorem waits_listed {listed : Array Bool} (hc : Closed ops listed) {i : Nat} : ∀ (k j : Nat), waits ops k j i = true → (∀ o, ops[j]? = some o → ∀ e ∈ o.after, Region.binds .any e = true → listed.getD e.on false = true) → listed.getD i false = true
  | 0, _, h, _ => by simp [waits] at h
  | k + 1, j, h, hj => by
    cases ho : ops[j]? with
    | none => simp [waits, ho] at h
    | some o =>
      simp only [waits, ho, Option.map_some, Option.getD_some] at h
      obtain ⟨e, he, hb⟩ := Array.any_eq_true'.1 h
      simp only [Bool.and_eq_true, Bool.or_eq_true, beq_iff_eq] at hb
      have hl := hj o ho e he hb.1
      rcases hb.2 with rfl | hw
      · exact hl
      · exact waits_listed hc k e.on hw fun o' ho' => hc e.on o' ho' hl
theorem Closed.set {listed : Array Bool} (hc : Closed ops listed) {i : Nat} (hi : i ∈ Region.ready .any ops listed) : Closed ops (listed.setIfInBounds i true) := fun j o ho hl e he hb => by
  refine getD_set_true ?_
  by_cases hij : i = j
  · subst hij
    obtain ⟨_, o', ho', hall⟩ := mem_ready.1 hi
    rw [ho] at ho'; cases ho'
    exact hall e he hb
  · rw [getD_set_ne false hij] at hl
    exact hc j o ho hl e he hb
theorem not_both {listed : Array Bool} {i : Nat} (h0 : listed.getD i true = false) (h1 : listed.getD i false = true) : False := by
  rcases Nat.lt_or_ge i listed.size with h | h
  · simp [h] at h0 h1; rw [h0] at h1; cases h1
  · simp [Array.getElem?_eq_none h] at h1
theorem wpAnyE_first {i : Nat} {oi : Oper} {v : Value} (hi : ops[i]? = some oi) (hsel : ∀ (j : Nat) (o : Oper) cs b, ops[j]? = some o → o.op ≠ .select cs b) (hQ : ∀ c a w, Q (.panic c) (a.put oi.dst v) w → Q (.panic c) a w) :
    ∀ (n : Nat) (listed : Array Bool) (a : Act) (w : World),
      (∀ j oj, ops[j]? = some oj → j ≠ i → listed.getD j true = false → (∀ e ∈ oj.after, Region.binds .any e = true → e.on ≠ i) → oi.apart ops oj = true) →
      (∀ j, B.contains j = true → j ≠ i → listed.getD j true = false → waits ops 64 j i = true) → Closed ops listed →
      i ∈ Region.ready .any ops listed → YieldsIf P ops (Ext w) oi v a →
      wpAnyE P ops B Q n (listed.setIfInBounds i true) (a.put oi.dst v) w → wpAnyE P ops B Q (n + 1) listed a w := by
  intro n
  induction n with
  | zero =>
    intro listed a w _ _ _ hr hy H
    refine ⟨fun h => (by rw [h] at hr; cases hr), fun j hj => ?_⟩
    by_cases hji : j = i
    · subst hji; exact hy.wpOp hi (Ext.refl w) ⟨fun _ => Ext.refl w, H⟩
    · have := ready_mono hj hji
      rw [H.1] at this
      cases this
  | succ n ih =>
    intro listed a w hfree hbar hcl hr hy H
    refine ⟨fun h => (by rw [h] at hr; cases hr), fun j hj => ?_⟩
    by_cases hji : j = i
    · subst hji; exact hy.wpOp hi (Ext.refl w) ⟨fun _ => Ext.refl w, H⟩
    · have h1 := H.2 j (ready_mono hj hji)
      obtain ⟨hjun, oj, hoj, hall⟩ := mem_ready.1 hj
      have hnot : ∀ e ∈ oj.after, Region.binds .any e = true → e.on ≠ i := fun e he hb heq => by
        have h1 := hall e he hb
        rw [heq] at h1
        exact not_both (mem_ready.1 hr).1 h1
      have hap := hfree j oj hoj hji hjun hnot
      have hnB : B.contains j = false := by
        cases hc : B.contains j with
        | false => rfl
        | true => exact (not_both (mem_ready.1 hr).1 (waits_listed hcl 64 j (hbar j hc hji hjun) fun o ho => by rw [hoj] at ho; cases ho; exact hall)).elim
      have h2 := wpOp_putIf hoj hap (fun cs b => hsel i oi cs b hi) (fun cs b => hsel j oj cs b hoj) hQ hy h1
      have hfree' : ∀ k ok, ops[k]? = some ok → k ≠ i → (listed.setIfInBounds j true).getD k true = false → (∀ e ∈ ok.after, Region.binds .any e = true → e.on ≠ i) → oi.apart ops ok = true := fun k ok hk hki hun hno => by
        refine hfree k ok hk hki ?_ hno
        by_cases hjk : j = k
        · subst hjk; exact hjun
        · rw [getD_set_ne true hjk] at hun; exact hun
      have hbar' : ∀ k, B.contains k = true → k ≠ i → (listed.setIfInBounds j true).getD k true = false → waits ops 64 k i = true := fun k hk hki hun => by
        refine hbar k hk hki ?_
        by_cases hjk : j = k
        · subst hjk; exact hjun
        · rw [getD_set_ne true hjk] at hun; exact hun
      refine wpOp_mono (fun a' w' h3 => ?_) h2
      have hE := h3.2.1 hnB
      refine ⟨fun _ => hE, ih (listed.setIfInBounds j true) a' w' hfree' hbar' (hcl.set hj) (ready_mono hr (Ne.symm hji)) ?_ ?_⟩
      · rcases h3.1 with ⟨hw, hy'⟩ | hn
        · exact .inl ⟨hw, fun w2 h2 => hy' w2 (hE.trans h2)⟩
        · exact .inr hn
      · rw [Array.setIfInBounds_comm _ _ hji]
        exact h3.2.2
def lst (n : Nat) (done : List Nat) : Array Bool := (Array.range n).map fun i => done.contains i
def takeOk (ops : Array Oper) (B : List Nat) (listed : Array Bool) (i : Nat) : Bool :=
  Region.free .any ops listed i && (Region.ready .any ops listed).contains i && ((ops[i]?).map fun o => valueOp o.op).getD false &&
  B.all fun j => j == i || listed.getD j true || waits ops 64 j i
def takesOk (ops : Array Oper) (B : List Nat) : Array Bool → List Nat → Bool
  | _, [] => true
  | listed, i :: is => takeOk ops B listed i && takesOk ops B (listed.setIfInBounds i true) is
def listedBehind : Array Bool → List Nat → Array Bool
  | listed, [] => listed
  | listed, i :: is => listedBehind (listed.setIfInBounds i true) is
theorem panic_put (hQ : ∀ c (a : Act) t w, Q (.panic c) { a with tmps := t } w → Q (.panic c) a w) (c : List PanicEntry) (a : Act) (d : Option Tmp) (v : Value) (w : World) (h : Q (.panic c) (a.put d v) w) : Q (.panic c) a w := by
  cases d with
  | none => exact h
  | some d => exact hQ c a _ w h
theorem takes_go (hsel : Region.noSelect ops = true) (hQ : ∀ c (a : Act) t w, Q (.panic c) { a with tmps := t } w → Q (.panic c) a w) {w : World} : ∀ (is : List Nat) (n : Nat) (listed : Array Bool) (a : Act) (l : List Oper),
    is.map (ops[·]?) = l.map some → takesOk ops B listed is = true →
    Closed ops listed → wpQuiet P ops (Cls w) (fun a' => wpAnyE P ops B Q n (listedBehind listed is) a' w) l a → wpAnyE P ops B Q (n + is.length) listed a w
  | [], n, listed, a, l, hl, _, _, h => by
    cases l with
    | nil => exact h
    | cons o l => simp at hl
  | i :: is, n, listed, a, l, hl, hok, hcl, h => by
    cases l with
    | nil => simp at hl
    | cons o l =>
      simp only [List.map_cons, List.cons.injEq] at hl
      simp only [takesOk, Bool.and_eq_true] at hok
      obtain ⟨hok, hok'⟩ := hok
      simp only [takeOk, Bool.and_eq_true] at hok
      obtain ⟨⟨⟨hf, hr⟩, hvo⟩, hB⟩ := hok
      have hfree : ∀ j oj, ops[j]? = some oj → j ≠ i → listed.getD j true = false → (∀ e ∈ oj.after, Region.binds .any e = true → e.on ≠ i) → o.apart ops oj = true := fun j oj hj hne hun hno => Region.free_spec hl.1 hf j oj hj hne hun hno
      have hbar : ∀ j, B.contains j = true → j ≠ i → listed.getD j true = false → waits ops 64 j i = true := fun j hc hne hun => by
        have := List.all_eq_true.1 hB j (by simpa using hc)
        simp only [hun, Bool.or_false, Bool.or_eq_true, beq_iff_eq, hne, false_or] at this
        exact this
      have hcl' := hcl.set (i := i) (by simpa using hr)
      simp only [hl.1, Option.map_some, Option.getD_some] at hvo
      show wpAnyE P ops B Q (n + (is.length + 1)) listed a w
      rw [← Nat.add_assoc]
      unfold wpQuiet at h
      split at h
      · next hw =>
        obtain ⟨v, hv, h⟩ := h
        exact wpAnyE_first hl.1 (Region.noSelect_spec hsel) (fun c a w => panic_put hQ c a _ _ w) _ _ _ _ hfree hbar hcl (by simpa using hr) (yieldsIf_of_quiet hvo hw hv) (takes_go hsel hQ is n _ _ l hl.2 hok' hcl' h)
      · next hw =>
        exact wpAnyE_first hl.1 (Region.noSelect_spec hsel) (fun c a w => panic_put hQ c a _ _ w) _ _ _ _ hfree hbar hcl (by simpa using hr) (.inr ⟨by simpa using hw, rfl⟩) (takes_go hsel hQ is n _ _ l hl.2 hok' hcl' h)
def closedB (ops : Array Oper) (listed : Array Bool) : Bool := (List.range ops.size).all fun j => !listed.getD j false || ((ops[j]?).map fun o => o.after.all fun e => !Region.binds .any e || listed.getD e.on false).getD true
theorem closedB_spec {listed : Array Bool} (h : closedB ops listed = true) : Closed ops listed := fun j o ho hl e he hb => by
  have h1 := List.all_eq_true.1 h j (List.mem_range.2 (Array.getElem?_eq_some_iff.1 ho).1)
  simp only [hl, ho, Bool.not_true, Bool.false_or, Option.map_some, Option.getD_some] at h1
  have := Array.all_eq_true_iff_forall_mem.1 h1 e he
  simpa [hb] using this
def qIdx (P : Program) (ops : Array Oper) (C : World → Prop) (K : Act → Prop) : List Nat → Act → Prop
  | [], a => K a
  | i :: is, a => ∃ o, ops[i]? = some o ∧ wpQuiet P ops C (qIdx P ops C K is) [o] a
def nth : List Oper → Nat → Option Oper
  | [], _ => none
  | o :: _, 0 => some o
  | _ :: l, i + 1 => nth l i
theorem nth_eq : ∀ (l : List Oper) (i : Nat), nth l i = l[i]?
  | [], i => by simp [nth]
  | o :: l, 0 => by simp [nth]
  | o :: l, i + 1 => by simp [nth, nth_eq l i]
theorem op_of_nth {i : Nat} {o : Oper} (h : nth ops.toList i = some o) : ops[i]? = some o := by rw [nth_eq] at h; simpa using h
theorem qIdx_step {C : World → Prop} {K : Act → Prop} {i : Nat} {is : List Nat} {a : Act} {o : Oper} (ho : nth ops.toList i = some o) (h : wpQuiet P ops C (qIdx P ops C K is) [o] a) : qIdx P ops C K (i :: is) a := ⟨o, op_of_nth ho, h⟩
theorem qIdx_nil {C : World → Prop} {K : Act → Prop} {a : Act} (h : K a) : qIdx P ops C K [] a := h
theorem qIdx_list {C : World → Prop} {K : Act → Prop} : ∀ (is : List Nat) (a : Act), qIdx P ops C K is a → ∃ l, is.map (ops[·]?) = l.map some ∧ wpQuiet P ops C K l a
  | [], a, h => ⟨[], rfl, h⟩
  | i :: is, a, ⟨o, ho, h⟩ => by
    unfold wpQuiet at h
    split at h
    · next hw =>
      obtain ⟨v, hv, h⟩ := h
      obtain ⟨l, hl, h⟩ := qIdx_list is _ h
      exact ⟨o :: l, by simp [ho, hl], by unfold wpQuiet; rw [if_pos hw]; exact ⟨v, hv, h⟩⟩
    · next hw =>
      obtain ⟨l, hl, h⟩ := qIdx_list is _ h
      exact ⟨o :: l, by simp [ho, hl], by unfold wpQuiet; rw [if_neg hw]; exact h⟩
theorem E_takes {w : World} {m : Nat} {listed listed' : Array Bool} {a : Act} (is : List Nat) (n : Nat) (hsel : Region.noSelect ops = true) (hQ : ∀ c (a : Act) t w, Q (.panic c) { a with tmps := t } w → Q (.panic c) a w)
    (hok : (takesOk ops B listed is && closedB ops listed) = true) (hm : m = n + is.length) (hli : listedBehind listed is = listed')
    (h : qIdx P ops (Cls w) (fun a' => wpAnyE P ops B Q n listed' a' w) is a) : wpAnyE P ops B Q m listed a w := by
  subst hm; subst hli
  simp only [Bool.and_eq_true] at hok
  obtain ⟨l, hl, hq⟩ := qIdx_list is a h
  exact takes_go hsel hQ is n listed a l hl hok.1 (closedB_spec hok.2) hq
theorem wpOp_of_list {i : Nat} {o : Oper} {K : Act → World → Prop} {a : Act} {w : World} (ho : ops[i]? = some o) (h : wpList P ops (Exit.then K Q) [o] a w) : wpOp P ops Q i K a w := by
  unfold wpOp
  simp only [ho]
  unfold wpList at h
  split
  · next hw =>
    rw [if_pos hw] at h
    refine h.imp (fun h => ?_) fun ⟨h1, a', w', h2⟩ => ⟨h1, a', w', h2⟩
    unfold Oper.wp at *
    generalize (execOp a.eval o).run P w = r at *
    cases r with
    | ok nx w1 =>
      cases nx <;> simp only [Oper.upon] at h ⊢ <;> first
        | exact h
        | exact Calls.mono h fun e w'' he => by cases e <;> exact he
        | exact Rows.mono h fun _ _ he => he
    | halt x w1 => cases x <;> simp only [Oper.upon] at h ⊢ <;> exact h
  · next hw => rw [if_neg hw] at h; exact h
theorem E_one {w : World} {n m i : Nat} {o : Oper} {listed listed' : Array Bool} {a : Act} (hr : Region.ready .any ops listed = [i]) (ho' : nth ops.toList i = some o) (hm : m = n + 1) (hli : listed.setIfInBounds i true = listed')
    (h : wpList P ops (Exit.then (fun a' w' => Ext w w' ∧ wpAnyE P ops B Q n listed' a' w') Q) [o] a w) : wpAnyE P ops B Q m listed a w := by
  have ho := op_of_nth ho'
  subst hm; subst hli
  refine ⟨fun h0 => by rw [h0] at hr; simp at hr, fun j hj => ?_⟩
  rw [hr] at hj; simp at hj; subst hj
  exact wpOp_mono (fun _ _ k => ⟨fun _ => k.1, k.2⟩) (wpOp_of_list ho h)
theorem E_bar {w : World} {n m i : Nat} {o : Oper} {listed listed' : Array Bool} {a : Act} (hr : Region.ready .any ops listed = [i]) (hB : B.contains i = true) (ho' : nth ops.toList i = some o) (hm : m = n + 1) (hli : listed.setIfInBounds i true = listed')
    (h : wpList P ops (Exit.then (fun a' w' => wpAnyE P ops B Q n listed' a' w') Q) [o] a w) : wpAnyE P ops B Q m listed a w := by
  have ho := op_of_nth ho'
  subst hm; subst hli
  refine ⟨fun h0 => by rw [h0] at hr; simp at hr, fun j hj => ?_⟩
  rw [hr] at hj; simp at hj; subst hj
  exact wpOp_mono (fun _ _ k => ⟨fun hb => (by rw [hB] at hb; cases hb), k⟩) (wpOp_of_list ho h)
theorem E_end {K : Act → World → Prop} {a : Act} {w : World} (h : K a w) : wpList P ops (Exit.then K Q) [] a w := h
theorem E_done {w : World} {m : Nat} {listed : Array Bool} {a : Act} (hr : Region.ready .any ops listed = []) (h : Q .normal a w) : wpAnyE P ops B Q m listed a w := by
  cases m with
  | zero => exact ⟨hr, h⟩
  | succ n => exact ⟨fun _ => h, fun j hj => by rw [hr] at hj; cases hj⟩
end
end Go.Smd
end
section
namespace Go.Smd
open Go.RowKit Go.Proofs
set_option maxHeartbeats 1000000 in
theorem fieldIndex_c (kind n : Int) (f : Nat) (s : ByteArray) (keys : List ByteArray) (l : List GV) (key : ByteArray) (cs : List Value) (w : World) (S : Nat → Prop) (hv : RepGV S w (.mk kind n f s keys l) cs) (hsort : keys.Pairwise fun a b => blt a b = true) :
    Calls Try.prog 91 #[.agg cs.toArray, .string key] w (Makes (fun _ u => u = .tuple #[.int .i64 (lower key keys : Nat), .bool (decide (keys[lower key keys]? = some key))]) w) := by
  obtain ⟨ka, kc, la, lc, rfl, ok, hkc, hlc, hks, hls⟩ := hv.open
  have h1 := ok.okKeys
  obtain ⟨nk, hnk⟩ : ∃ n, keys.length = n := ⟨_, rfl⟩
  have Hk := Lib.hid hnk
  have HS := Lib.hid hsort
  rw [hnk] at h1 hkc ⊢
  have h2 := ok.okL
  clear hnk ok hsort
  go_enter Try.func91, Try.ntmps91
  go_wp2
  go_quiet (fail)
  go_wp2
  have hks0 := hks.ext (((Ext.refl w).alloc (.cells #[.int .i64 kind, .int .i64 n, .float .f64 f, .string s, .slice ka nk kc, .slice la l.length lc] 26)).drewN nq)
  go_loop [6, 7] (fun lo hi => ∃ a b : Nat, a ≤ b ∧ b ≤ nk ∧ lo = .int .i64 a ∧ hi = .int .i64 b ∧ Hid (∀ j q, j < a → keys[j]? = some q → blt q key = true) ∧ Hid (∀ j q, b ≤ j → keys[j]? = some q → blt q key = false)) (fun lo hi => (intOf hi - intOf lo).toNat)
  case atStart => exact ⟨0, nk, by omega, by omega, rfl, rfl, fun j q h => by omega, fun j q h h' => by have := (List.getElem?_eq_some_iff.1 h').1; rw [Hk.out] at this; omega⟩
  case round =>
    obtain ⟨a, b, hab, hbn, rfl, rfl, hlo, hhi⟩ := hrel
    by_cases hlt : a < b
    · obtain ⟨q, hq⟩ : ∃ q, keys[a + (b - a) / 2]? = some q := ⟨_, List.getElem?_eq_getElem (by rw [Hk.out]; omega)⟩
      obtain ⟨ad, rfl, hc⟩ := hks0.at hq
      have Hq := Lib.hid hq; clear hq
      have Hm := Lib.hid (Nat.div_le_self (b - a) 2)
      have Hm2 := Lib.hid (show (b - a) / 2 < b - a by omega)
      by_cases hbl : Op.bytesLess q.toList key.toList = true
      · have HB := Lib.hid hbl
        go_wp2
        go_round
        case rel =>
          refine ⟨a + (b - a) / 2 + 1, b, by have := Hm2.out; omega, hbn, by go_num, rfl, fun j p hj hp => ?_, hhi⟩
          by_cases hjj : j = a + (b - a) / 2
          · subst hjj; rw [Hq.out] at hp; cases hp; exact HB.out
          · rcases Nat.lt_or_ge j a with hja | hja
            · exact hlo.out j p hja hp
            · have hpw := List.pairwise_iff_getElem.1 HS.out j (a + (b - a) / 2) (List.getElem?_eq_some_iff.1 hp).1 (List.getElem?_eq_some_iff.1 Hq.out).1 (by omega)
              rw [(List.getElem?_eq_some_iff.1 hp).2, (List.getElem?_eq_some_iff.1 Hq.out).2] at hpw
              exact blt_trans hpw HB.out
        case measure => have := Hm2.out; simp [intOf]; omega
      · have hbl' : Op.bytesLess q.toList key.toList = false := by simpa using hbl
        have HB := Lib.hid hbl'
        clear hbl
        go_wp2
        go_round
        case rel =>
          refine ⟨a, a + (b - a) / 2, by omega, by have := Hm2.out; omega, rfl, by go_num, hlo, fun j p hj hp => ?_⟩
          by_cases hjj : j = a + (b - a) / 2
          · subst hjj; rw [Hq.out] at hp; cases hp; exact HB.out
          · have hpw := List.pairwise_iff_getElem.1 HS.out (a + (b - a) / 2) j (List.getElem?_eq_some_iff.1 Hq.out).1 (List.getElem?_eq_some_iff.1 hp).1 (by omega)
            rw [(List.getElem?_eq_some_iff.1 hp).2, (List.getElem?_eq_some_iff.1 Hq.out).2] at hpw
            cases hpk : blt p key with
            | false => rfl
            | true => exact absurd (blt_trans hpw hpk) (by have := HB.out; unfold blt; rw [this]; simp)
        case measure => have := Hm2.out; simp [intOf]; omega
    · obtain rfl : a = b := by omega
      have HL : Hid (lower key keys = a) := lower_of (by rw [Hk.out]; omega) (fun j q hj hq => hlo.out j q hj hq) fun q hq => hhi.out a q (Nat.le_refl _) hq
      have HF : ∀ (b : Bool) (W : World), b = decide (keys[a]? = some key) → Ext w W → Makes (fun _ u => u = .tuple #[.int .i64 (lower key keys : Nat), .bool (decide (keys[lower key keys]? = some key))]) w (.returned (.tuple #[.int .i64 a, .bool b])) W := fun b W hb hE => ⟨_, rfl, by rw [HL.out, hb], hE⟩
      have HF' := Lib.hid HF; clear HF
      have HE : ∀ m, Ext w (((w.alloc (.cells #[.int .i64 kind, .int .i64 n, .float .f64 f, .string s, .slice ka nk kc, .slice la l.length lc] 26)).drewN nq).drewN m) := fun m => (((Ext.refl w).alloc _).drewN nq).drewN m
      have HE' := Lib.hid HE; clear HE
      by_cases ha : a < nk
      · obtain ⟨q, hq⟩ : ∃ q, keys[a]? = some q := ⟨_, List.getElem?_eq_getElem (by rw [Hk.out]; omega)⟩
        obtain ⟨ad, rfl, hc⟩ := (hks.ext ((Ext.refl w).alloc (.cells #[.int .i64 kind, .int .i64 n, .float .f64 f, .string s, .slice ka nk kc, .slice la l.length lc] 26))).at hq
        have Hq := Lib.hid hq; clear hq
        have hda : decide ((a : Int) < (nk : Int)) = true := decide_eq_true (by omega)
        have hlt1 : (a : Int) < (nk : Int) := by omega
        have hlt0 : (0 : Int) ≤ (a : Int) := by omega
        go_wp2
        go_quiet (fail)
        go_wp2
        go_ret2
        refine HF'.out _ _ ?_ ?_
        · rw [Hq.out, beq_list]; simp
        · exact HE'.out _
      · have HN : Hid (keys[a]? = none) := List.getElem?_eq_none (by rw [Hk.out]; omega)
        have hda : decide ((a : Int) < (nk : Int)) = false := decide_eq_false (by omega)
        go_wp2
        go_quiet (fail)
        go_wp2
        go_ret2
        refine HF'.out _ _ ?_ ?_
        · rw [HN.out]; simp
        · exact HE'.out _
def mkMap (fs : List (ByteArray × GV)) : GV := .mk 6 0 0 ⟨#[]⟩ (fs.map (·.1)) (fs.map (·.2))
theorem grownBy_below {B : Nat} {a w w' : World} {row : Option Nat} (h : Below B a w) (hg : w.grownBy w' row) (hB : B ≤ w.heap.size) (hr : ∀ k, row = some k → B ≤ k) : Below B a w' := Below.grown h hg hB hr
structure OutSt (w : World) (T : Nat → Prop) (bo : Nat) (wr : World) (vk vl : Value) (ks : List ByteArray) (ls : List GV) : Prop where
  hbo : w.heap.size ≤ bo
  hT : ∀ b, T b → b < w.heap.size
  below : Below bo w wr
  lt : bo < wr.heap.size
  out : wr.heap[bo]? = some (.cells #[.int .i64 6, .int .i64 0, .float .f64 0, .string ⟨#[]⟩, vk, vl] 26 (0, 0))
  bk : Build RS 9 1 (bo < ·) T wr vk ks
  bl : Build RG 26 6 (bo < ·) T wr vl ls
theorem OutSt.ext {w : World} {T : Nat → Prop} {bo : Nat} {wr : World} {vk vl : Value} {ks : List ByteArray} {ls : List GV} (h : OutSt w T bo wr vk vl ks ls) : Ext w wr := h.below.mono h.hbo
theorem OutSt.drew {w : World} {T : Nat → Prop} {bo : Nat} {wr : World} {vk vl : Value} {ks : List ByteArray} {ls : List GV} (h : OutSt w T bo wr vk vl ks ls) : OutSt w T bo wr.drew vk vl ks ls :=
  ⟨h.hbo, h.hT, h.below.drew, h.lt, h.out, h.bk.ext framedRS ((Ext.refl wr).drew), h.bl.ext framedRG ((Ext.refl wr).drew)⟩
theorem OutSt.keysTo {w : World} {T : Nat → Prop} {bo : Nat} {wr w3 : World} {vk vl vk' : Value} {ks ks' : List ByteArray} {ls : List GV} (h : OutSt w T bo wr vk vl ks ls) (hB : Build RS 9 1 (bo < ·) T w3 vk' ks') (hg : wr.grownBy w3 vk.ownBlock) :
    w3.cell? ⟨bo, 4, none⟩ = some vk ∧ w3.frozen? ⟨bo, 4, none⟩ = false ∧ OutSt w T bo (w3.setCell ⟨bo, 4, none⟩ vk') vk' vl ks' ls := by
  have hne : some bo ≠ vk.ownBlock := fun hc => by have := h.bk.row_in hc.symm; omega
  have ho := (hg.block bo h.lt hne).trans h.out
  have hs := hg.size
  have hl := h.lt
  have hsame := setCell_same w3 bo 4 vk'
  refine ⟨cell_of ho rfl, by simp [World.frozen?, ho], ⟨h.hbo, h.hT, ?_, by simp [World.setCell]; omega, by rw [setCell_at vk' ho]; rfl, ?_, ?_⟩⟩
  · exact (grownBy_below h.below hg (by omega) fun k hk => by have := h.bk.row_in hk; omega).setCell (Nat.le_refl _) _
  · exact hB.frame framedRS (hsame.mono fun b hb => by omega) (hsame.mono fun b hb => by have := h.hT b hb.1; have := h.hbo; omega) (fun _ h => h) fun _ h => h
  · have := h.bl.other framedRG hg (h.bl.row_ne h.bk (by decide)) fun k hk hT => by have := h.bk.row_in hk; have := h.hT k hT; have := h.hbo; omega
    exact this.frame framedRG (hsame.mono fun b hb => by omega) (hsame.mono fun b hb => by have := h.hT b hb.1; have := h.hbo; omega) (fun _ h => h) fun _ h => h
theorem OutSt.listTo {w : World} {T : Nat → Prop} {bo : Nat} {wr w3 : World} {vk vl vl' : Value} {ks : List ByteArray} {ls ls' : List GV} (h : OutSt w T bo wr vk vl ks ls) (hB : Build RG 26 6 (bo < ·) T w3 vl' ls') (hg : wr.grownBy w3 vl.ownBlock) :
    w3.cell? ⟨bo, 5, none⟩ = some vl ∧ w3.frozen? ⟨bo, 5, none⟩ = false ∧ OutSt w T bo (w3.setCell ⟨bo, 5, none⟩ vl') vk vl' ks ls' := by
  have hne : some bo ≠ vl.ownBlock := fun hc => by have := h.bl.row_in hc.symm; omega
  have ho := (hg.block bo h.lt hne).trans h.out
  have hs := hg.size
  have hl := h.lt
  have hsame := setCell_same w3 bo 5 vl'
  refine ⟨cell_of ho rfl, by simp [World.frozen?, ho], ⟨h.hbo, h.hT, ?_, by simp [World.setCell]; omega, by rw [setCell_at vl' ho]; rfl, ?_, ?_⟩⟩
  · exact (grownBy_below h.below hg (by omega) fun k hk => by have := h.bl.row_in hk; omega).setCell (Nat.le_refl _) _
  · have := h.bk.other framedRS hg (h.bk.row_ne h.bl (by decide)) fun k hk hT => by have := h.bl.row_in hk; have := h.hT k hT; have := h.hbo; omega
    exact this.frame framedRS (hsame.mono fun b hb => by omega) (hsame.mono fun b hb => by have := h.hT b hb.1; have := h.hbo; omega) (fun _ h => h) fun _ h => h
  · exact hB.frame framedRG (hsame.mono fun b hb => by omega) (hsame.mono fun b hb => by have := h.hT b hb.1; have := h.hbo; omega) (fun _ h => h) fun _ h => h
theorem OutSt.appK {w : World} {T : Nat → Prop} {bo : Nat} {wr : World} {vk vl : Value} {ks : List ByteArray} {ls : List GV} (h : OutSt w T bo wr vk vl ks ls) {ys : List ByteArray} {A : Option Addr} {n c : Nat} {S : Nat → Prop} (hl : ys.length = n) (hr : RepStrs S wr A ys) {N : Nat} (hN : ks.length + n = N) (hn : N * 16 ≤ 140737488355328) :
    ∃ vk' w3, (Builtin.append_ #[23, 23] 23 #[vk, .slice A n c]).run Try.prog wr = .ok vk' w3 ∧ (∃ A' c', vk' = .slice A' N c') ∧ w3.cell? ⟨bo, 4, none⟩ = some vk ∧ w3.frozen? ⟨bo, 4, none⟩ = false ∧ OutSt w T bo (w3.setCell ⟨bo, 4, none⟩ vk') vk' vl (ks ++ ys) ls := by
  subst hN
  obtain ⟨vk', w3, hrun, hB, hg, _, hsl⟩ := Build.appRow (P := Try.prog) (t := 23) (ty := 23) framedRS Try.underlying23 info_str rfl (by omega) (by omega) h.bk (c := c) hl (RowOf.imp hr (Ext.refl _) fun _ _ _ k => k) (fun y cs hy u hu => by cases hy; simp at hu; subst hu; rfl) h.lt hn
  exact ⟨vk', w3, hrun, hsl, h.keysTo hB hg⟩
theorem OutSt.appL {w : World} {T : Nat → Prop} {bo : Nat} {wr : World} {vk vl : Value} {ks : List ByteArray} {ls : List GV} (h : OutSt w T bo wr vk vl ks ls) {ys : List GV} {A : Option Addr} {n c : Nat} (hl : ys.length = n) (hr : RepGVs T wr A ys) {N : Nat} (hN : ls.length + n = N) (hn : N * 88 ≤ 140737488355328) :
    ∃ vl' w3, (Builtin.append_ #[24, 24] 24 #[vl, .slice A n c]).run Try.prog wr = .ok vl' w3 ∧ (∃ A' c', vl' = .slice A' N c') ∧ w3.cell? ⟨bo, 5, none⟩ = some vl ∧ w3.frozen? ⟨bo, 5, none⟩ = false ∧ OutSt w T bo (w3.setCell ⟨bo, 5, none⟩ vl') vk vl' ks (ls ++ ys) := by
  subst hN
  obtain ⟨vl', w3, hrun, hB, hg, _, hsl⟩ := Build.appRow (P := Try.prog) (t := 24) (ty := 24) framedRG Try.underlying24 info_val rfl (by omega) (by omega) h.bl (c := c) hl (RowOf.imp hr (Ext.refl _) fun x _ cs k => RepGV.mono k fun b hb => ⟨hb, fun hc => by have := h.bl.row_in hc; have := h.hT b hb; have := h.hbo; omega⟩) (fun y cs hy => hy.ones) h.lt hn
  exact ⟨vl', w3, hrun, hsl, h.listTo hB hg⟩
theorem OutSt.pushK {w : World} {T : Nat → Prop} {bo : Nat} {wr : World} {vk vl : Value} {ks : List ByteArray} {ls : List GV} (h : OutSt w T bo wr vk vl ks ls) (k : ByteArray) {N : Nat} (hN : ks.length + 1 = N) (hn : N * 16 ≤ 140737488355328) :
    ∃ vk' w3, (Builtin.append_ #[23, 23] 23 #[vk, .slice (some ⟨wr.heap.size, 0, none⟩) 1 1]).run Try.prog (wr.alloc (.cells #[.string k] 9)) = .ok vk' w3 ∧ (∃ A' c', vk' = .slice A' N c') ∧ w3.cell? ⟨bo, 4, none⟩ = some vk ∧ w3.frozen? ⟨bo, 4, none⟩ = false ∧ OutSt w T bo (w3.setCell ⟨bo, 4, none⟩ vk') vk' vl (ks ++ [k]) ls := by
  subst hN
  obtain ⟨vk', w3, hrun, hB, hg, _, hsl⟩ := Build.push (P := Try.prog) (t := 23) (ty := 23) framedRS Try.underlying23 info_str rfl (by omega) (by omega) h.bk (y := k) (ys := [.string k]) rfl rfl (by simp [Value.oneCell']) (by have := h.lt; omega) hn
  exact ⟨vk', w3, hrun, hsl, h.keysTo hB hg⟩
theorem OutSt.pushL {w : World} {T : Nat → Prop} {bo : Nat} {wr : World} {vk vl : Value} {ks : List ByteArray} {ls : List GV} (h : OutSt w T bo wr vk vl ks ls) {v : GV} {cs : List Value} (hv : RepGV T wr v cs) {N : Nat} (hN : ls.length + 1 = N) (hn : N * 88 ≤ 140737488355328) :
    ∃ vl' w3, (Builtin.append_ #[24, 24] 24 #[vl, .slice (some ⟨wr.heap.size, 0, none⟩) 1 1]).run Try.prog (wr.alloc (.cells cs.toArray 26)) = .ok vl' w3 ∧ (∃ A' c', vl' = .slice A' N c') ∧ w3.cell? ⟨bo, 5, none⟩ = some vl ∧ w3.frozen? ⟨bo, 5, none⟩ = false ∧ OutSt w T bo (w3.setCell ⟨bo, 5, none⟩ vl') vk vl' ks (ls ++ [v]) := by
  subst hN
  obtain ⟨vl', w3, hrun, hB, hg, _, hsl⟩ := Build.push (P := Try.prog) (t := 24) (ty := 24) framedRG Try.underlying24 info_val rfl (by omega) (by omega) h.bl (y := v) (ys := cs) (RepGV.mono hv fun b hb => ⟨hb, fun hc => by have := h.bl.row_in hc; have := h.hT b hb; have := h.hbo; omega⟩) hv.length hv.ones (by have := h.lt; omega) hn
  exact ⟨vl', w3, hrun, hsl, h.listTo hB hg⟩
theorem OutSt.done {w : World} {T : Nat → Prop} {bo : Nat} {wr : World} {vk vl : Value} {ks : List ByteArray} {ls : List GV} (h : OutSt w T bo wr vk vl ks ls) (ok : GVok 6 0 0 ⟨#[]⟩ ks ls) :
    RepGV (fun b => T b ∨ w.heap.size ≤ b) wr (.mk 6 0 0 ⟨#[]⟩ ks ls) [.int .i64 6, .int .i64 0, .float .f64 0, .string ⟨#[]⟩, vk, vl] := by
  obtain ⟨ka, kc, rfl, hkc, hk⟩ := h.bk.done framedRS (by omega)
  obtain ⟨la, lc, rfl, hlc, hl⟩ := h.bl.done framedRG (by omega)
  have hbo := h.hbo
  refine RepGV.close ok hkc hlc (RowOf.frame hk (fun _ _ => rfl) (fun b hb => .inr (by omega)) fun _ _ _ k => k) ?_
  exact RowOf.frame hl (fun _ _ => rfl) (fun b hb => .inr (by omega)) fun _ _ _ k => RepGV.mono k fun b hb => .inl hb
end Go.Smd
end
