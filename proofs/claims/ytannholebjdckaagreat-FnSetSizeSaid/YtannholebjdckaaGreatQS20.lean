/- Part 20 of the proof: Fit Vl Specb Am At1 Zz Vm Ft. -/
import Derived.Test.YtannholebjdckaaGreatQS02
import Derived.Laws.FloatBits
import Derived.Test.YtannholebjdckaaGreatQS19
import Derived.Test.YtannholebjdckaaGreatQS14
import Derived.Test.YtannholebjdckaaGreatQS15
set_option linter.unusedVariables false
section
set_option linter.unusedSimpArgs false
namespace Go.Smd
open Go.RowKit Go.Proofs
mutual
def Fits : Tree → Prop
  | .list l => l.length * 88 ≤ 140737488351232 ∧ FitsL l
  | .map m => m.length * 88 ≤ 140737488351232 ∧ (m.map (·.1)).Nodup ∧ FitsM m
  | _ => True
def FitsL : List Tree → Prop
  | [] => True
  | x :: l => Fits x ∧ FitsL l
def FitsM : List (ByteArray × Tree) → Prop
  | [] => True
  | p :: m => Fits p.2 ∧ FitsM m
end
theorem FitsL.mem : ∀ {l : List Tree}, FitsL l → ∀ x ∈ l, Fits x
  | [], _, x, h => by cases h
  | y :: l, hf, x, h => by
    simp only [FitsL] at hf
    rcases List.mem_cons.1 h with rfl | h
    · exact hf.1
    · exact FitsL.mem hf.2 x h
theorem FitsM.mem : ∀ {m : List (ByteArray × Tree)}, FitsM m → ∀ p ∈ m, Fits p.2
  | [], _, x, h => by cases h
  | y :: l, hf, x, h => by
    simp only [FitsM] at hf
    rcases List.mem_cons.1 h with rfl | h
    · exact hf.1
    · exact FitsM.mem hf.2 x h
theorem ins_mem (k q : ByteArray) (t : Tree) : ∀ m : Fields, q ∈ (ins k t m).map (·.1) ↔ q = k ∨ q ∈ m.map (·.1)
  | [] => by simp [ins]
  | p :: m => by
    simp only [ins]
    by_cases h : p.1 = k
    · rw [if_pos h]; simp [h]
    · rw [if_neg h]
      have := ins_mem k q t m
      simp only [List.map_cons, List.mem_cons, this]
      constructor <;> rintro (h | h | h) <;> simp [h]
theorem ins_in {k : ByteArray} {t : Tree} {p : ByteArray × Tree} : ∀ {m : Fields}, p ∈ ins k t m → p = (k, t) ∨ p ∈ m
  | [], h => by simp [ins] at h; exact .inl h
  | q :: m, h => by
    simp only [ins] at h
    split at h
    · rcases List.mem_cons.1 h with h | h
      · exact .inl h
      · exact .inr (List.mem_cons_of_mem _ h)
    · rcases List.mem_cons.1 h with h | h
      · exact .inr (h ▸ List.mem_cons_self ..)
      · rcases ins_in h with h | h
        · exact .inl h
        · exact .inr (List.mem_cons_of_mem _ h)
theorem ins_nodup {k : ByteArray} {t : Tree} : ∀ {m : Fields}, (m.map (·.1)).Nodup → ((ins k t m).map (·.1)).Nodup
  | [], _ => by simp [ins]
  | q :: m, h => by
    simp only [List.map_cons, List.nodup_cons] at h
    simp only [ins]
    split
    · next e => simp only [List.map_cons, List.nodup_cons]; rw [← e]; exact h
    · next e =>
      simp only [List.map_cons, List.nodup_cons]
      refine ⟨fun hm => ?_, ins_nodup h.2⟩
      rcases (ins_mem k q.1 t m).1 hm with h' | h'
      · exact e h'
      · exact h.1 h'
theorem ins_le (k : ByteArray) (t : Tree) : ∀ m : Fields, (ins k t m).length ≤ m.length + 1
  | [] => by simp [ins]
  | q :: m => by simp only [ins]; split <;> simp; exact ins_le k t m
theorem mapOf_fits : ∀ (ks : List ByteArray) (ts : List Tree) (m : Fields), (m.map (·.1)).Nodup → (∀ p ∈ m, Fits p.2) → (∀ t ∈ ts, Fits t) →
    ((mapOf ks ts m).map (·.1)).Nodup ∧ (∀ p ∈ mapOf ks ts m, Fits p.2) ∧ (mapOf ks ts m).length ≤ m.length + ts.length
  | [], ts, m, h1, h2, _ => by cases ts <;> exact ⟨by simpa [mapOf] using h1, by simpa [mapOf] using h2, by simp [mapOf]⟩
  | k :: ks, [], m, h1, h2, _ => ⟨by simpa [mapOf] using h1, by simpa [mapOf] using h2, by simp [mapOf]⟩
  | k :: ks, t :: ts, m, h1, h2, h3 => by
    simp only [mapOf]
    obtain ⟨a, b, c⟩ := mapOf_fits ks ts (ins k t m) (ins_nodup h1) (fun p hp => by
      rcases ins_in hp with rfl | hp
      · exact h3 t (List.mem_cons_self ..)
      · exact h2 p hp) fun t ht => h3 t (List.mem_cons_of_mem _ ht)
    exact ⟨a, b, by have := ins_le k t m; simp; omega⟩
theorem FitsL.of : ∀ {l : List Tree}, (∀ x ∈ l, Fits x) → FitsL l
  | [], _ => by simp [FitsL]
  | x :: l, h => by simp only [FitsL]; exact ⟨h x (List.mem_cons_self ..), FitsL.of fun y hy => h y (List.mem_cons_of_mem _ hy)⟩
theorem FitsM.of : ∀ {l : List (ByteArray × Tree)}, (∀ x ∈ l, Fits x.2) → FitsM l
  | [], _ => by simp [FitsM]
  | x :: l, h => by simp only [FitsM]; exact ⟨h x (List.mem_cons_self ..), FitsM.of fun y hy => h y (List.mem_cons_of_mem _ hy)⟩
theorem tree_fits {S : Nat → Prop} {w : World} {v : GV} {cs : List Value} (h : RepGV S w v cs) : Fits (treeOf v) := by
  induction h with
  | @mk kind n f s keys l ka la kc lc ok hkc hlc hk ll hl hc ih =>
    have hall : ∀ t ∈ treesOf l, Fits t := fun t ht => by
      rw [treesOf_eq] at ht
      obtain ⟨x, hx, rfl⟩ := List.mem_map.1 ht
      obtain ⟨j, hj, rfl⟩ := List.getElem_of_mem hx
      exact ih j l[j] (List.getElem?_eq_getElem hj)
    have hlen : (treesOf l).length = l.length := by rw [treesOf_eq, List.length_map]
    have hL := ok.okL
    simp only [treeOf]
    repeat' split
    all_goals (try trivial)
    all_goals (try simp only [Fits])
    · exact ⟨by rw [hlen]; exact hL, FitsL.of hall⟩
    · obtain ⟨a, b, c⟩ := mapOf_fits keys (treesOf l) [] (by simp) (by simp) hall
      refine ⟨?_, a, FitsM.of b⟩
      rw [hlen] at c
      simp at c
      omega
def ford (a b : Nat) : Option Ordering := FloatKind.f64.format.order a b
theorem nan_self {a : Nat} (h : ford a a = some .eq) : (FloatKind.f64.format.read a).isNaN = false := by
  unfold ford Ieee.Format.order at h
  cases hx : FloatKind.f64.format.read a <;> simp_all [Ieee.Datum.isNaN, Ieee.Datum.order]
theorem read_word (neg : Bool) (r : Nat) (hr : r ≤ Ieee.double.infRung) : (Ieee.double.read (Ieee.double.word neg r)).isNaN = false := by
  have hinf : Ieee.double.infRung = 9218868437227405312 := by decide +kernel
  have hsw : Ieee.double.signWeight = 9223372036854775808 := by decide +kernel
  have hm : Ieee.double.word neg r % Ieee.double.signWeight = r := by
    rw [hsw]; unfold Ieee.Format.word; rw [hsw]; split <;> omega
  unfold Ieee.Format.read
  simp only [hm]
  split
  · rfl
  · split
    · rfl
    · split
      · rfl
      · omega
theorem nearest_num (n : Int) : (FloatKind.f64.format.read (FloatKind.f64.nearest n)).isNaN = false := by
  unfold FloatKind.nearest FloatKind.encode FloatKind.format
  simp only [Ieee.Format.write, Ieee.Format.nearest]
  split
  · exact read_word _ _ (Nat.zero_le _)
  · exact read_word _ _ (Nat.min_le_right _ _)
end Go.Smd
end
section
set_option linter.unusedSimpArgs false
set_option maxRecDepth 100000
set_option maxHeartbeats 8000000
namespace Go.Smd
open Go.RowKit Go.Proofs
mutual
def dep : Tree → Nat
  | .list l => depL l + 1
  | .map m => depM m + 1
  | _ => 1
def depL : List Tree → Nat
  | [] => 0
  | x :: l => max (dep x) (depL l)
def depM : List (ByteArray × Tree) → Nat
  | [] => 0
  | p :: m => max (dep p.2) (depM m)
end
theorem depL_mem : ∀ {l : List Tree} {x : Tree}, x ∈ l → dep x ≤ depL l
  | [], _, h => by cases h
  | y :: l, x, h => by
    simp only [depL]
    rcases List.mem_cons.1 h with rfl | h
    · exact Nat.le_max_left _ _
    · exact Nat.le_trans (depL_mem h) (Nat.le_max_right _ _)
theorem depM_mem : ∀ {m : List (ByteArray × Tree)} {p : ByteArray × Tree}, p ∈ m → dep p.2 ≤ depM m
  | [], _, h => by cases h
  | y :: l, x, h => by
    simp only [depM]
    rcases List.mem_cons.1 h with rfl | h
    · exact Nat.le_max_left _ _
    · exact Nat.le_trans (depM_mem h) (Nat.le_max_right _ _)
theorem dep_pos (x : Tree) : 1 ≤ dep x := by cases x <;> simp [dep]
noncomputable def uKeys (m1 m2 : List (ByteArray × Tree)) : List ByteArray := open Classical in if h : ∃ ss, unionKeys m1 m2 ss then Classical.choose h else []
theorem uKeys_eq {m1 m2 : List (ByteArray × Tree)} {ss : List ByteArray} (h : unionKeys m1 m2 ss) : ss = uKeys m1 m2 := by
  have hx : ∃ ss, unionKeys m1 m2 ss := ⟨ss, h⟩
  unfold uKeys
  rw [dif_pos hx]
  have k := Classical.choose_spec hx
  exact sorted_eq h.1 k.1 fun q => by rw [h.2 q, k.2 q]
noncomputable def cmpF : Nat → Tree → Tree → Int
  | 0, _, _ => 0
  | n + 1, x, y => cmpT (cmpL (cmpF n)) (fun a b => cmpKs (cmpF n) a b 0 (uKeys a b)) x y
theorem compare_a : ∀ (n : Nat) (x y : Tree), dep x ≤ n → Fits x → Fits y → ACalls Tryz.prog fCompareUsing [aAlloc, .c (.d (dV x)), .c (.d (dV y))] (fun r => r = aV (.int .i64 (cmpF n x y)))
  | 0, x, y, h, _, _ => by have := dep_pos x; omega
  | n + 1, x, y, h, hx, hy => by
    refine compareKinds_a (cmpL (cmpF n)) (fun a b => cmpKs (cmpF n) a b 0 (uKeys a b)) x y (fun l m e1 e2 => ?_) fun l m e1 e2 => ?_
    · subst e1; subst e2
      simp only [Fits] at hx hy
      simp only [dep] at h
      exact listCompareUsing_a _ l m (by omega) (by omega) fun a ha b hb => compare_a n a b (by have := depL_mem ha; omega) (hx.2.mem a ha) (hy.2.mem b hb)
    · subst e1; subst e2
      simp only [Fits] at hx hy
      simp only [dep] at h
      refine (mapCompareUsing_a (cmpF n) l m hx.2.1 hy.2.1 (by omega) fun a ha b hb => compare_a n a.2 b.2 (by have := depM_mem ha; omega) (hx.2.2.mem a ha) (hy.2.2.mem b hb)).mono ?_
      rintro r ⟨ss, hss, rfl⟩
      rw [uKeys_eq hss]
theorem cmpBytes_zero : ∀ l m : List UInt8, Lib.compareBytes l m = 0 ↔ l = m
  | [], [] => by simp [Lib.compareBytes]
  | [], _ :: _ => by simp [Lib.compareBytes]
  | _ :: _, [] => by simp [Lib.compareBytes]
  | x :: l, y :: m => by
    have ih := cmpBytes_zero l m
    simp only [Lib.compareBytes, List.cons.injEq]
    by_cases h1 : x < y
    · have hne : x ≠ y := fun e => by subst e; exact absurd h1 (UInt8.lt_irrefl x)
      simp [h1, hne]
    · by_cases h2 : y < x
      · have hne : x ≠ y := fun e => by subst e; exact absurd h2 (UInt8.lt_irrefl x)
        simp [h1, h2, hne]
      · have he : x = y := by
          rw [UInt8.lt_iff_toNat_lt] at h1 h2
          exact UInt8.toNat_inj.1 (by omega)
        subst he
        simp [h1, ih]
theorem uKeys_is (m1 m2 : List (ByteArray × Tree)) (h : ∃ ss, unionKeys m1 m2 ss) : unionKeys m1 m2 (uKeys m1 m2) := by
  obtain ⟨ss, h⟩ := h
  rw [← uKeys_eq h]; exact h
theorem sorted_nodup {l : List ByteArray} (h : l.Pairwise fun a b => blt a b = true) : l.Nodup := h.imp fun h => blt_ne h
theorem nodup_le : ∀ {l m : List ByteArray}, l.Nodup → (∀ q ∈ l, q ∈ m) → l.length ≤ m.length
  | [], _, _, _ => Nat.zero_le _
  | x :: l, m, hn, h => by
    rw [List.nodup_cons] at hn
    have hx := h x (List.mem_cons_self ..)
    have h1 := nodup_le (l := l) (m := m.filter fun q => decide (q ≠ x)) hn.2 fun q hq => by
      have hne : q ≠ x := fun e => hn.1 (e ▸ hq)
      exact List.mem_filter.2 ⟨h q (List.mem_cons_of_mem _ hq), by simpa using hne⟩
    have h2 : (m.filter fun q => decide (q ≠ x)).length < m.length := List.length_filter_lt_length_iff_exists.2 ⟨x, hx, by simp⟩
    simp only [List.length_cons]; omega
theorem nodup_perm {l m : List ByteArray} (h1 : l.Nodup) (h2 : m.Nodup) (h : ∀ q, q ∈ l ↔ q ∈ m) : l.length = m.length :=
  Nat.le_antisymm (nodup_le h1 fun q hq => (h q).1 hq) (nodup_le h2 fun q hq => (h q).2 hq)
theorem ins_exists (x : ByteArray) : ∀ ss : List ByteArray, ss.Pairwise (fun a b => blt a b = true) → ∃ s2 : List ByteArray, s2.Pairwise (fun a b => blt a b = true) ∧ ∀ q, q ∈ s2 ↔ q = x ∨ q ∈ ss
  | [], _ => ⟨[x], List.pairwise_singleton .., by simp⟩
  | y :: ss, h => by
    rw [List.pairwise_cons] at h
    rcases blt_tri x y with hb | rfl | hb
    · refine ⟨x :: y :: ss, List.pairwise_cons.2 ⟨fun q hq => ?_, List.pairwise_cons.2 h⟩, by simp⟩
      rcases List.mem_cons.1 hq with rfl | hq
      · exact hb
      · exact blt_trans hb (h.1 q hq)
    · exact ⟨x :: ss, List.pairwise_cons.2 h, by simp⟩
    · obtain ⟨s2, h1, h2⟩ := ins_exists x ss h.2
      refine ⟨y :: s2, List.pairwise_cons.2 ⟨fun q hq => ?_, h1⟩, fun q => ?_⟩
      · rcases (h2 q).1 hq with rfl | hq
        · exact hb
        · exact h.1 q hq
      · simp only [List.mem_cons, h2]
        constructor <;> rintro (h | h | h) <;> simp [h]
theorem sorted_exists (l : List ByteArray) : ∃ ss : List ByteArray, ss.Pairwise (fun a b => blt a b = true) ∧ ∀ q, q ∈ ss ↔ q ∈ l := by
  induction l with
  | nil => exact ⟨[], .nil, by simp⟩
  | cons x l ih =>
    obtain ⟨ss, h1, h2⟩ := ih
    obtain ⟨s2, h3, h4⟩ := ins_exists x ss h1
    exact ⟨s2, h3, fun q => by rw [h4, h2, List.mem_cons]⟩
theorem union_exists (m1 m2 : List (ByteArray × Tree)) : ∃ ss, unionKeys m1 m2 ss := by
  obtain ⟨ss, h1, h2⟩ := sorted_exists (m1.map (·.1) ++ m2.map (·.1))
  exact ⟨ss, h1, fun q => by rw [h2, List.mem_append]⟩
end Go.Smd
end
section
set_option linter.unusedSimpArgs false
namespace Go.Smd
open Go.RowKit Go.Proofs
theorem leaf_rep (S : Nat → Prop) (w : World) {kind n : Int} {f : Nat} {s : ByteArray} (ok : GVok kind n f s [] []) : RepGV S w (.mk kind n f s [] []) [.int .i64 kind, .int .i64 n, .float .f64 f, .string s, .slice none 0 0, .slice none 0 0] :=
  RepGV.close (keys := []) (l := []) ok (Nat.zero_le _) (Nat.zero_le _) RowOf.nil RowOf.nil
set_option maxRecDepth 100000 in
set_option maxHeartbeats 2000000 in
theorem clean_c : ∀ v, CleanC v := by
  intro v
  induction v using GV.ind with
  | h kind n f s keys l IH =>
  intro cs w S hv
  obtain ⟨ka, kc, la, lc, rfl, ok, hkc, hlc, hks, hls⟩ := hv.open
  obtain ⟨nk, hnk⟩ : ∃ n, keys.length = n := ⟨_, rfl⟩
  obtain ⟨nl, hnl⟩ : ∃ n, l.length = n := ⟨_, rfl⟩
  have hn := ok.okN
  have hf := ok.okF
  have hs := ok.okS
  have h2 := ok.okL
  have HC : Hid (clean (.mk kind n f s keys l) = if kind = 1 then .mk 1 (if n = 0 then 0 else 1) 0 ⟨#[]⟩ [] [] else if kind = 2 then .mk 2 n 0 ⟨#[]⟩ [] [] else if kind = 3 then .mk 3 0 f ⟨#[]⟩ [] []
    else if kind = 4 then .mk 4 0 0 s [] [] else if kind = 5 then .mk 5 0 0 ⟨#[]⟩ [] (cleans l) else if kind = 6 then mkMap (insAll keys (cleans l) []) else .mk 0 0 0 ⟨#[]⟩ [] []) := clean.eq_1 ..
  generalize hcl : clean (.mk kind n f s keys l) = cl at HC ⊢
  rw [hnk, hnl] at hv ⊢
  have Hk := Lib.hid hnk; have Hl := Lib.hid hnl
  have hE0 : Ext w ((w.alloc (.cells #[.int .i64 kind, .int .i64 n, .float .f64 f, .string s, .slice ka nk kc, .slice la nl lc] 31)).alloc (.cells #[.int .i64 0, .int .i64 0, .float .f64 0, .string ⟨#[]⟩, .slice none 0 0, .slice none 0 0] 31)) := ((Ext.refl w).alloc _).alloc _
  have hA0 := old_at (.cells #[.int .i64 0, .int .i64 0, .float .f64 0, .string ⟨#[]⟩, .slice none 0 0, .slice none 0 0] 31) (new_at (w := w) (.cells #[.int .i64 kind, .int .i64 n, .float .f64 f, .string s, .slice ka nk kc, .slice la nl lc] 31) rfl)
  have hB0 := new_at (w := w.alloc (.cells #[.int .i64 kind, .int .i64 n, .float .f64 f, .string s, .slice ka nk kc, .slice la nl lc] 31)) (.cells #[.int .i64 0, .int .i64 0, .float .f64 0, .string ⟨#[]⟩, .slice none 0 0, .slice none 0 0] 31) (size_alloc _ _)
  have hz0 : w.heap.size + 2 ≤ ((w.alloc (.cells #[.int .i64 kind, .int .i64 n, .float .f64 f, .string s, .slice ka nk kc, .slice la nl lc] 31)).alloc (.cells #[.int .i64 0, .int .i64 0, .float .f64 0, .string ⟨#[]⟩, .slice none 0 0, .slice none 0 0] 31)).heap.size := by simp only [size_alloc]; omega
  go_enter Tryz.func24, Tryz.ntmps24
  go_upto_region 1 with fail
  generalize (w.alloc (.cells #[.int .i64 kind, .int .i64 n, .float .f64 f, .string s, .slice ka nk kc, .slice la nl lc] 31)).alloc (.cells #[.int .i64 0, .int .i64 0, .float .f64 0, .string ⟨#[]⟩, .slice none 0 0, .slice none 0 0] 31) = w2 at hE0 hA0 hB0 hz0 ⊢
  have HV := Lib.hid (hv.ext hE0); have HLS := Lib.hid (RepGVs.ext hls hE0)
  have a0 := cell_of hA0 (i := 0) rfl; have a1 := cell_of hA0 (i := 1) rfl; have a2 := cell_of hA0 (i := 2) rfl; have a3 := cell_of hA0 (i := 3) rfl; have a4 := cell_of hA0 (i := 4) rfl; have a5 := cell_of hA0 (i := 5) rfl
  have HE := Lib.hid hE0; have HB := Lib.hid hB0
  clear hv hls hks ok hE0 hA0 hB0 hkc hlc hcl
  have SN : ∀ v0 v1 v2 v3 v4 v5, Hid ((six w2 (w.heap.size + 1) v0 v1 v2 v3 v4 v5).heap[w.heap.size + 1]? = some (.cells #[v0, v1, v2, v3, v4, v5] 31 (0, 0)) ∧ Ext w (six w2 (w.heap.size + 1) v0 v1 v2 v3 v4 v5)) := fun v0 v1 v2 v3 v4 v5 => ⟨six_at HB.out _ _ _ _ _ _, six_ext HE.out (by omega) _ _ _ _ _ _⟩
  by_cases k6 : kind = 6
  · subst k6
    go_wp2_with fail
    refine (plainMapS_step 6 n f s keys l IH _ _ S HV.out).mono ?_
    rintro e w1 ⟨u, rfl, ⟨cu, rfl, hu⟩, hE1⟩
    have hE2 := HE.out.trans hE1
    have HB1 := Lib.hid (hE1.heap HB.out)
    obtain ⟨f0, f1, f2, f3, f4, f5, rfl⟩ := hu.list6
    obtain ⟨p0, p1, p2, p3, p4, p5⟩ := hu.six
    have HQ : Hid ((six w1 (w.heap.size + 1) f0 f1 f2 f3 f4 f5).heap[w.heap.size + 1]? = some (.cells #[f0, f1, f2, f3, f4, f5] 31 (0, 0))) := six_at HB1.out _ _ _ _ _ _
    have HEq : Hid (Ext w (six w1 (w.heap.size + 1) f0 f1 f2 f3 f4 f5)) := six_ext hE2 (by omega) _ _ _ _ _ _
    have HRq : Hid (RepGV (w.heap.size ≤ ·) (six w1 (w.heap.size + 1) f0 f1 f2 f3 f4 f5) (mkMap (insAll keys (cleans l) [])) [f0, f1, f2, f3, f4, f5]) := RepGV.frame (S' := (w.heap.size ≤ ·)) ((six_same w1 (w.heap.size + 1) _ _ _ _ _ _).mono fun b hb => by omega) (fun b hb => by omega) hu
    clear hu hE1 hE2
    have hz : ∀ o, w1.frozen? ⟨w.heap.size + 1, o, none⟩ = false := fun o => by simp [World.frozen?, HB1.out]
    have g0 := cell_of HB1.out (i := 0) rfl; have g1 := cell_of HB1.out (i := 1) rfl; have g2 := cell_of HB1.out (i := 2) rfl; have g3 := cell_of HB1.out (i := 3) rfl; have g4 := cell_of HB1.out (i := 4) rfl; have g5 := cell_of HB1.out (i := 5) rfl
    go_wp2
    (try simp only [Exit.inBlock, Exit.then]); refine bodyPost_ret (res6 Tryz.results24 rfl HQ.out) rfl ?_
    exact ⟨_, rfl, ⟨_, rfl, by have := HC.out; simp only [reduceIte, Int.reduceEq] at this; rw [this]; exact HRq.out⟩, HEq.out⟩
  by_cases k5 : kind = 5
  · subst k5
    go_wp2_with fail
    refine (plainList_step l IH la nl lc _ S HLS.out Hl.out (by omega)).mono ?_
    rintro e w1 ⟨u, rfl, ⟨A', c', rfl, hc', hu⟩, hE1⟩
    have hE2 := HE.out.trans hE1
    have HB1 := Lib.hid (hE1.heap HB.out)
    have HQ : Hid ((six w1 (w.heap.size + 1) (.int .i64 5) (.int .i64 0) (.float .f64 0) (.string ⟨#[]⟩) (.slice none 0 0) (.slice A' nl c')).heap[w.heap.size + 1]? = some (.cells #[.int .i64 5, .int .i64 0, .float .f64 0, .string ⟨#[]⟩, .slice none 0 0, .slice A' nl c'] 31 (0, 0))) := six_at HB1.out _ _ _ _ _ _
    have HEq : Hid (Ext w (six w1 (w.heap.size + 1) (.int .i64 5) (.int .i64 0) (.float .f64 0) (.string ⟨#[]⟩) (.slice none 0 0) (.slice A' nl c'))) := six_ext hE2 (by omega) _ _ _ _ _ _
    have hll : (cleans l).length = nl := by rw [cleans_eq, List.length_map, Hl.out]
    have HRq : Hid (RepGV (w.heap.size ≤ ·) (six w1 (w.heap.size + 1) (.int .i64 5) (.int .i64 0) (.float .f64 0) (.string ⟨#[]⟩) (.slice none 0 0) (.slice A' nl c')) (.mk 5 0 0 ⟨#[]⟩ [] (cleans l)) [.int .i64 5, .int .i64 0, .float .f64 0, .string ⟨#[]⟩, .slice none 0 0, .slice A' nl c']) := by
      have hr := RepGVs.frame (S' := (w.heap.size ≤ ·)) hu ((six_same w1 (w.heap.size + 1) (.int .i64 5) (.int .i64 0) (.float .f64 0) (.string ⟨#[]⟩) (.slice none 0 0) (.slice A' nl c')).mono fun b hb => by omega) (fun b hb => by omega)
      have := RepGV.close (keys := []) (l := cleans l) (kind := 5) (n := 0) (f := 0) (s := ⟨#[]⟩) (ka := none) (kc := 0) (lc := c') ⟨by omega, by omega, by omega, Nat.zero_le _, by simp, by simp, by rw [hll]; omega⟩ (Nat.zero_le _) (by omega) RowOf.nil hr
      rw [hll] at this; exact this
    clear hu hE1 hE2
    have hz : ∀ o, w1.frozen? ⟨w.heap.size + 1, o, none⟩ = false := fun o => by simp [World.frozen?, HB1.out]
    have g0 := cell_of HB1.out (i := 0) rfl; have g1 := cell_of HB1.out (i := 1) rfl; have g2 := cell_of HB1.out (i := 2) rfl; have g3 := cell_of HB1.out (i := 3) rfl; have g4 := cell_of HB1.out (i := 4) rfl; have g5 := cell_of HB1.out (i := 5) rfl
    go_wp2
    (try simp only [Exit.inBlock, Exit.then]); refine bodyPost_ret (res6 Tryz.results24 rfl HQ.out) rfl ?_
    exact ⟨_, rfl, ⟨_, rfl, by have := HC.out; simp only [reduceIte, Int.reduceEq] at this; rw [this]; exact HRq.out⟩, HEq.out⟩
  have hz : ∀ o, w2.frozen? ⟨w.heap.size + 1, o, none⟩ = false := fun o => by simp [World.frozen?, HB.out]
  have g0 := cell_of HB.out (i := 0) rfl; have g1 := cell_of HB.out (i := 1) rfl; have g2 := cell_of HB.out (i := 2) rfl; have g3 := cell_of HB.out (i := 3) rfl; have g4 := cell_of HB.out (i := 4) rfl; have g5 := cell_of HB.out (i := 5) rfl
  by_cases k1 : kind = 1
  · subst k1
    by_cases n0 : n = 0
    · subst n0
      go_wp2
      (try simp only [Exit.inBlock, Exit.then]); refine bodyPost_ret (res6 Tryz.results24 rfl (SN (.int .i64 1) (.int .i64 0) (.float .f64 0) (.string ⟨#[]⟩) (.slice none 0 0) (.slice none 0 0)).out.1) rfl ?_
      exact ⟨_, rfl, ⟨_, rfl, by have := HC.out; simp only [reduceIte, Int.reduceEq] at this; rw [this]; exact leaf_rep _ _ ⟨by omega, by omega, by omega, Nat.zero_le _, by simp, by simp, by simp⟩⟩, (SN _ _ _ _ _ _).out.2⟩
    · have hnn : (n == 0) = false := by simp [n0]
      go_wp2
      (try simp only [Exit.inBlock, Exit.then]); refine bodyPost_ret (res6 Tryz.results24 rfl (SN (.int .i64 1) (.int .i64 1) (.float .f64 0) (.string ⟨#[]⟩) (.slice none 0 0) (.slice none 0 0)).out.1) rfl ?_
      exact ⟨_, rfl, ⟨_, rfl, by have := HC.out; simp only [reduceIte, Int.reduceEq, n0] at this; rw [this]; exact leaf_rep _ _ ⟨by omega, by omega, by omega, Nat.zero_le _, by simp, by simp, by simp⟩⟩, (SN _ _ _ _ _ _).out.2⟩
  by_cases k2 : kind = 2
  · subst k2
    go_wp2
    (try simp only [Exit.inBlock, Exit.then]); refine bodyPost_ret (res6 Tryz.results24 rfl (SN (.int .i64 2) (.int .i64 n) (.float .f64 0) (.string ⟨#[]⟩) (.slice none 0 0) (.slice none 0 0)).out.1) rfl ?_
    exact ⟨_, rfl, ⟨_, rfl, by have := HC.out; simp only [reduceIte, Int.reduceEq] at this; rw [this]; exact leaf_rep _ _ ⟨by omega, by omega, by omega, Nat.zero_le _, by simp, by simp, by simp⟩⟩, (SN _ _ _ _ _ _).out.2⟩
  by_cases k3 : kind = 3
  · subst k3
    go_wp2
    (try simp only [Exit.inBlock, Exit.then]); refine bodyPost_ret (res6 Tryz.results24 rfl (SN (.int .i64 3) (.int .i64 0) (.float .f64 f) (.string ⟨#[]⟩) (.slice none 0 0) (.slice none 0 0)).out.1) rfl ?_
    exact ⟨_, rfl, ⟨_, rfl, by have := HC.out; simp only [reduceIte, Int.reduceEq] at this; rw [this]; exact leaf_rep _ _ ⟨by omega, by omega, by omega, Nat.zero_le _, by simp, by simp, by simp⟩⟩, (SN _ _ _ _ _ _).out.2⟩
  by_cases k4 : kind = 4
  · subst k4
    go_wp2
    (try simp only [Exit.inBlock, Exit.then]); refine bodyPost_ret (res6 Tryz.results24 rfl (SN (.int .i64 4) (.int .i64 0) (.float .f64 0) (.string s) (.slice none 0 0) (.slice none 0 0)).out.1) rfl ?_
    exact ⟨_, rfl, ⟨_, rfl, by have := HC.out; simp only [reduceIte, Int.reduceEq] at this; rw [this]; exact leaf_rep _ _ ⟨by omega, by omega, by omega, by omega, by simp, by simp, by simp⟩⟩, (SN _ _ _ _ _ _).out.2⟩
  have b1 : (kind == 1) = false := by simp [k1]
  have b2 : (kind == 2) = false := by simp [k2]
  have b3 : (kind == 3) = false := by simp [k3]
  have b4 : (kind == 4) = false := by simp [k4]
  have b5 : (kind == 5) = false := by simp [k5]
  have b6 : (kind == 6) = false := by simp [k6]
  go_wp2
  (try simp only [Exit.inBlock, Exit.then]); refine bodyPost_ret (res6 Tryz.results24 rfl (SN (.int .i64 0) (.int .i64 0) (.float .f64 0) (.string ⟨#[]⟩) (.slice none 0 0) (.slice none 0 0)).out.1) rfl ?_
  exact ⟨_, rfl, ⟨_, rfl, by have := HC.out; rw [if_neg k1, if_neg k2, if_neg k3, if_neg k4, if_neg k5, if_neg k6] at this; rw [this]; exact leaf_rep _ _ ⟨by omega, by omega, by omega, Nat.zero_le _, by simp, by simp, by simp⟩⟩, (SN _ _ _ _ _ _).out.2⟩
end Go.Smd
end
section
set_option linter.unusedSimpArgs false
namespace Go.Smd
open Go.RowKit Go.Proofs
theorem okInt64 {n : Int} (h : -9223372036854775808 ≤ n ∧ n ≤ 9223372036854775807) : okVb (.int .i64 n) = true := by simp [okVb, okInt, h]
theorem strs_rep {S : Nat → Prop} {w : World} {A : Option Addr} {c : Nat} {ss : List ByteArray} (h : RepStrs S w A ss) (hc : ss.length ≤ c) (hb : ss.length * 16 ≤ 140737488351232) (hs : ∀ s ∈ ss, s.size ≤ 140737488351232) :
    RepD Tryz.prog w S (dStrs ss) (.slice A ss.length c) := by
  refine RepD.sl_iff.2 ⟨A, c, by simp [rowS], by simpa [rowS] using hc, by simpa [rowS] using hb, fun j r hj => ?_⟩
  rw [rowS, List.getElem?_map] at hj
  obtain ⟨s, hs', rfl⟩ := Option.map_eq_some_iff.1 hj
  refine ⟨by simp, fun _ => ?_⟩
  obtain ⟨ad, cs, ha, hS, hr, _, hcs⟩ := h j s hs'
  cases hr
  refine ⟨ad, ha, fun i d hi => ?_⟩
  match i, hi with
  | 0, hi =>
    simp at hi; subst hi
    exact ⟨_, by rw [add_block]; exact hS, by simpa using hcs 0 _ rfl, .v (by simpa [okVb] using hs s (List.mem_of_getElem? hs'))⟩
theorem repGV_rep : ∀ {g : GV} {S : Nat → Prop} {w : World} {cs : List Value}, RepGV S w g cs → All2 (RepD Tryz.prog w S) (gvD g) cs := by
  intro g
  induction g using GV.ind with
  | h kind n f s keys l IH =>
  intro S w cs h
  obtain ⟨ka, kc, la, lc, rfl, ok, hkc, hlc, hks, hls⟩ := h.open
  rw [gvD_mk]
  refine .cons (.v (okInt64 ok.okKind)) (.cons (.v (okInt64 ok.okN)) (.cons (.v (by simpa [okVb] using ok.okF)) (.cons (.v (by simpa [okVb] using ok.okS)) (.cons (strs_rep hks hkc ok.okKeys ok.okEach) (.cons ?_ .nil)))))
  refine (RepD.sl_iff (E := 31) (xs := l.map gvD)).2 ⟨la, lc, by simp, by simpa using hlc, by simpa using ok.okL, fun j r hj => ?_⟩
  rw [List.getElem?_map] at hj
  obtain ⟨x, hx, rfl⟩ := Option.map_eq_some_iff.1 hj
  refine ⟨by simp, fun _ => ?_⟩
  obtain ⟨ad, cs, ha, hS, hr, _, hcs⟩ := hls j x hx
  have := IH x (List.mem_of_getElem? hx) hr
  refine ⟨ad, ha, fun i d hi => ?_⟩
  obtain ⟨u, hu, hd⟩ := this.at hi
  exact ⟨u, by rw [add_block]; exact hS, by simpa using hcs i u hu, hd⟩
theorem cls_all2 {S : Nat → Prop} {β : Nat → Value} {h : Nat → Option Ow} {w : World} {xs : List D} {us : List Value} : All2 (RepC Tryz.prog S β h w) (cls xs) us ↔ All2 (RepD Tryz.prog w S) xs us := by
  constructor
  · intro k
    induction xs generalizing us with
    | nil => cases k; exact .nil
    | cons x xs ih => cases k with | cons k t => exact .cons k (ih t)
  · intro k
    induction k with
    | nil => exact .nil
    | cons k t ih => exact .cons k ih
theorem rep_strs {S : Nat → Prop} {w : World} {ss : List ByteArray} {v : Value} (h : RepD Tryz.prog w S (dStrs ss) v) : ∃ A c, v = .slice A ss.length c ∧ ss.length ≤ c ∧ ss.length * 16 ≤ 140737488351232 ∧ RepStrs S w A ss ∧ ∀ s ∈ ss, s.size ≤ 140737488351232 := by
  have hk := strs_ok ⟨w, S, v, h⟩
  obtain ⟨A, c, rfl, hc, _, hr⟩ := RepD.sl_iff.1 h
  simp only [rowS, List.length_map] at *
  refine ⟨A, c, rfl, hc, hk.1, fun j s hj => ?_, hk.2⟩
  obtain ⟨ad, ha, hrow⟩ := (hr j [dS s] (by simp [hj])).2 (by simp)
  obtain ⟨u, hS, hcell, hd⟩ := hrow 0 (dS s) rfl
  cases hd
  rw [add_block] at hS
  refine ⟨ad, [.string s], ha, hS, rfl, rfl, fun i u hu => ?_⟩
  match i, hu with
  | 0, hu => simp at hu; subst hu; simpa using hcell
set_option maxRecDepth 20000 in
theorem rep_repGV : ∀ {g : GV} {S : Nat → Prop} {w : World} {cs : List Value}, All2 (RepD Tryz.prog w S) (gvD g) cs → RepGV S w g cs := by
  intro g
  induction g using GV.ind with
  | h kind n f s keys l IH =>
  intro S w cs h
  have hok := gv_ok (kind := kind) (n := n) (f := f) (s := s) (keys := keys) (l := l) ⟨w, S, .agg cs.toArray, cs, rfl, cls_all2.2 h⟩
  rw [gvD_mk] at h
  obtain ⟨c0, _, rfl, h0, h⟩ := h.inv
  obtain ⟨c1, _, rfl, h1, h⟩ := h.inv
  obtain ⟨c2, _, rfl, h2, h⟩ := h.inv
  obtain ⟨c3, _, rfl, h3, h⟩ := h.inv
  obtain ⟨c4, _, rfl, h4, h⟩ := h.inv
  obtain ⟨c5, _, rfl, h5, h⟩ := h.inv
  cases h.inv0
  cases h0; cases h1; cases h2; cases h3
  obtain ⟨ka, kc, rfl, hkc, _, hks, _⟩ := rep_strs h4
  obtain ⟨la, lc, rfl, hlc, _, hr⟩ := (RepD.sl_iff (E := 31) (xs := l.map gvD)).1 h5
  rw [List.length_map] at hlc ⊢
  refine RepGV.close ⟨hok.hkind, hok.hn, hok.hf, hok.hs, hok.hkeys, hok.hkey, hok.hl⟩ hkc hlc hks fun j x hj => ?_
  obtain ⟨ad, ha, hrow⟩ := (hr j (gvD x) (by simp [hj])).2 (by simp)
  have key : ∃ us : List Value, All2 (RepD Tryz.prog w S) (gvD x) us ∧ (∀ i u, us[i]? = some u → w.cell? ((ad.add (j * 6)).add i) = some u) ∧ S ad.block := by
    refine ⟨(List.range 6).map fun i => (w.cell? ((ad.add (j * 6)).add i)).getD undef, All2.of (by simp) fun i d u hi hu => ?_, fun i u hu => ?_, ?_⟩
    · obtain ⟨u', _, hc, hd⟩ := hrow i d hi
      rw [List.getElem?_map] at hu
      obtain ⟨i', hi', rfl⟩ := Option.map_eq_some_iff.1 hu
      obtain ⟨hlt, rfl⟩ := List.getElem?_eq_some_iff.1 hi'
      simp only [cells_31] at hc
      simp only [List.getElem_range, hc, Option.getD_some]; exact hd
    · rw [List.getElem?_map] at hu
      obtain ⟨i', hi', rfl⟩ := Option.map_eq_some_iff.1 hu
      obtain ⟨hlt, rfl⟩ := List.getElem?_eq_some_iff.1 hi'
      simp only [List.length_range] at hlt
      have hlt' : i < (gvD x).length := by rw [gvD_length]; exact hlt
      obtain ⟨u', _, hc, _⟩ := hrow i ((gvD x)[i]'hlt') (List.getElem?_eq_getElem hlt')
      simp only [cells_31] at hc
      simp only [List.getElem_range, hc, Option.getD_some]
    · have hlt' : 0 < (gvD x).length := by rw [gvD_length]; decide
      obtain ⟨u', hS, _, _⟩ := hrow 0 ((gvD x)[0]'hlt') (List.getElem?_eq_getElem hlt')
      rwa [add_block] at hS
  obtain ⟨us, h1, h2, h3⟩ := key
  have := IH x (List.mem_of_getElem? hj) h1
  exact ⟨ad, us, ha, h3, this, this.length, fun i u hu => h2 i u hu⟩
theorem gvA_iff {S : Nat → Prop} {β : Nat → Value} {h : Nat → Option Ow} {w : World} {g : GV} {v : Value} : RepA Tryz.prog S β h w (gvA g) v ↔ ∃ cs, v = .agg (List.toArray cs) ∧ RepGV S w g cs :=
  ⟨fun ⟨us, h1, h2⟩ => ⟨us, h1, rep_repGV (cls_all2.1 h2)⟩, fun ⟨us, h1, h2⟩ => ⟨us, h1, cls_all2.2 (repGV_rep h2)⟩⟩
theorem law_walk {f : FuncId} {args : List Av} (h : ACalls Tryz.prog f args (fun r => r = aV (.bool true))) {W : World} {vs : List Value} (ha : All2 (RepA Tryz.prog (fun _ => True) noB noH W) args vs) : Calls Tryz.prog f vs.toArray W (Makes (fun _ u => u = .bool true) W) := by
  refine (h.2 W (· < W.heap.size) vs (fun _ h => h) (ha.imp fun x v _ r => r.imp r.noH fun d u k => k.lt.mono fun b hb => hb.2)).mono ?_
  rintro e w' ⟨v, r, rfl, rfl, hr, hE⟩
  obtain ⟨rfl, _⟩ := rep_v hr
  exact ⟨_, rfl, rfl, hE⟩
theorem clean_a (g : GV) : ACalls Tryz.prog 24 [gvA g] (fun r => r = gvA (clean g)) := by
  refine ⟨⟨_, Tryz.func24, by kernel_rfl, rfl⟩, fun w S vs hS ha => ?_⟩
  cases ha with
  | cons h t =>
  cases t
  obtain ⟨cs, rfl, hg⟩ := gvA_iff.1 h
  refine (clean_c g cs w S hg).mono ?_
  rintro e w' ⟨v, rfl, ⟨cs', rfl, hr⟩, hE⟩
  exact ⟨_, _, rfl, rfl, gvA_iff.2 ⟨cs', rfl, hr.mono fun b hb => .inr hb⟩, hE⟩
end Go.Smd
end
section
set_option linter.unusedSimpArgs false
namespace Go.Smd
open Go.RowKit Go.Proofs
mutual
def orderly : GV → Bool
  | .mk kind n f _ _ l => if kind = 2 then decide (-9007199254740992 ≤ n) && decide (n ≤ 9007199254740992) else if kind = 3 then FloatKind.f64.format.order f f == some .eq else if kind = 5 ∨ kind = 6 then orderlys l else true
def orderlys : List GV → Bool
  | [] => true
  | x :: l => orderly x && orderlys l
end
theorem orderlys_eq : ∀ l, orderlys l = l.all orderly
  | [] => by simp [orderlys]
  | x :: l => by simp [orderlys, orderlys_eq l]
set_option maxRecDepth 20000 in
set_option maxHeartbeats 400000 in
theorem orderly_a (g : GV) : ACalls Tryz.prog 59 [gvA g] (fun r => r = aV (.bool (orderly g))) := by
  induction g using GV.ind with
  | h kind n f s keys l IH =>
  refine acalls_ex [] Tryz.func59 (by kernel_rfl) rfl Tryz.ntmps59 Tryz.results59 (Nat.le_of_ble_eq_true (by kernel_rfl)) ?_; intro hok w0 S0
  have hk := gv_ok (hok _ (List.mem_singleton_self _))
  have hl := hk.hl
  have hl2 : l.length ≤ 9223372036854775807 := by omega
  simp only [gvA, gvD_mk, cls_cons, cls_nil]
  clear hok hk hl
  (repeat' (first | (with_reducible refine br_d (fun _ => ?_) (fun _ => ?_)) | (with_reducible refine br_i (fun _ => ?_) (fun _ => ?_)) | (with_reducible refine dn_i follows_any (by kernel_rfl) ?_) | (with_reducible exact done_eq rfl) | (simp -dsimp [hl2]))); (all_goals try with_reducible refine done_eq ?_)
  all_goals first
    | (simp_all [orderly]; done)
    | (simp_all [orderly]; omega)
    | skip
  all_goals
    have H : orderly (.mk kind n f s keys l) = l.all orderly := by simp_all [orderly, orderlys_eq]
    rw [H]
    clear H
    refine ex_loop (fun i : Nat => ⟨[(28, .c (.d (dGVs l))), (29, aV (.int .i64 l.length)), (30, aV (.int .i64 i))], []⟩) (fun i => i ≤ l.length ∧ ∀ (j : Nat) (h : j < l.length), j < i → orderly l[j] = true) (fun i => l.length - i) 0 ?_ ⟨Nat.zero_le _, fun j x h => by omega⟩ ?_
    · exact Weak.same (by simp -dsimp) (by simp -dsimp) (by first | rfl | (simp [closedSt, Av.ids, Ow.ids, Cl.ids, Go.Smd.keys]; done))
    · rintro i ⟨hi, hall⟩ K hK
      by_cases hlt : i < l.length
      · have hw : IntKind.wrap .i64 ((i : Int) + 1) = ((i + 1 : Nat) : Int) := by rw [wrap_i64] <;> omega
        (repeat' (first | (with_reducible refine br_d (fun _ => ?_) (fun _ => ?_)) | (with_reducible refine br_i (fun _ => ?_) (fun _ => ?_)) | (with_reducible refine nd_v (IH l[i] (List.getElem_mem hlt)) (by first | rfl | (simp -dsimp [hl2, hlt, hw]; done)) ?_) | (with_reducible refine nw_v (IH l[i] (List.getElem_mem hlt)) rfl (by first | rfl | (simp -dsimp [hl2, hlt, hw]; done)) (by first | rfl | (simp -dsimp [hl2, hlt, hw]; done)) ?_) | (with_reducible refine dn_i follows_any (by kernel_rfl) ?_) | (with_reducible exact done_eq rfl) | (simp -dsimp [hl2, hlt, hw]))); (all_goals try with_reducible refine done_eq ?_)
        · rename_i hn
          have : l.all orderly = false := List.all_eq_false.2 ⟨l[i], List.getElem_mem hlt, by simpa using hn⟩
          rw [this]
        · rename_i hn
          refine hK _ (i + 1) ?_ ⟨by omega, fun j h hj => ?_⟩ (by omega)
          · exact Weak.same (by simp -dsimp) (by simp -dsimp) (by first | rfl | (simp [closedSt, Av.ids, Ow.ids, Cl.ids, Go.Smd.keys]; done))
          · by_cases e : j = i
            · subst e; simpa using hn
            · exact hall j h (by omega)
      · (repeat' (first | (with_reducible refine br_d (fun _ => ?_) (fun _ => ?_)) | (with_reducible refine br_i (fun _ => ?_) (fun _ => ?_)) | (with_reducible refine dn_i follows_any (by kernel_rfl) ?_) | (with_reducible exact done_eq rfl) | (simp -dsimp [hl2, hlt]))); (all_goals try with_reducible refine done_eq ?_)
        have : l.all orderly = true := List.all_eq_true.2 fun x hx => by
          obtain ⟨j, hj, rfl⟩ := List.getElem_of_mem hx
          exact hall j hj (by omega)
        rw [this]
end Go.Smd
end
section
set_option linter.unusedSimpArgs false
set_option maxRecDepth 100000
set_option maxHeartbeats 8000000
namespace Go.Smd
open Go.RowKit Go.Proofs
abbrev aS (s : ByteArray) : Av := .c (.d (dS s))
abbrev aI (n : Int) : Av := .c (.d (dI n))
end Go.Smd
end
section
set_option linter.unusedSimpArgs false
set_option maxRecDepth 100000
set_option maxHeartbeats 8000000
namespace Go.Smd
open Go.RowKit Go.Proofs
theorem plain_a (g : GV) : ACalls Tryz.prog 120 [gvA g] (fun r => r = .c (.d (.tr (treeOf g)))) := by
  refine ⟨⟨_, Tryz.func120, by kernel_rfl, rfl⟩, fun w S vs hS ha => ?_⟩
  cases ha with
  | cons h t =>
  cases t
  obtain ⟨cs, rfl, hg⟩ := gvA_iff.1 h
  refine (plain_c g cs w S hg).mono ?_
  rintro e w' ⟨v, rfl, hr, hE⟩
  exact ⟨_, _, rfl, rfl, (RepD.tr hr).mono fun b hb => .inr hb, hE⟩
theorem newVI_a (t : Tree) : ACalls Tryz.prog 119 [.c (.d (.tr t))] (fun r => r = .c (.d (dV t))) := by
  refine acalls_ex [] Tryz.func119 (by kernel_rfl) rfl Tryz.ntmps119 Tryz.results119 (Nat.le_of_ble_eq_true (by kernel_rfl)) ?_; intro hok w0 S0
  (repeat' (first | (with_reducible refine br_d (fun _ => ?_) (fun _ => ?_)) | (with_reducible refine br_i (fun _ => ?_) (fun _ => ?_)) | ((with_reducible apply nd_i [] (f := 157)); (case hc => simp -dsimp; first | exact ⟨rfl, rfl⟩ | exact ⟨rfl, rfl, rfl⟩); (case hf => exact Tryz.func157); (case hA => simp -dsimp <;> with_reducible rfl); (case hok => simp -dsimp); (case hY => simp -dsimp <;> with_reducible rfl); (case hO => simp -dsimp <;> with_reducible rfl); (case hn => kernel_rfl); (case hb => rfl); (case hN => exact Tryz.ntmps157); (case hrs => exact Tryz.results157); (case hl => exact Nat.le_of_ble_eq_true (by kernel_rfl)); intro hok w0 S0) | ((with_reducible apply nd_q (ρ := [(1000000000, 6004)]) 7 (reuse_p (.tr t) (.v .nilIface))); (case hc => simp -dsimp <;> first | exact ⟨rfl, rfl, rfl⟩ | exact ⟨rfl, rfl⟩ | done); (case hx => simp -dsimp <;> with_reducible rfl); (case ho => simp -dsimp); (case hh => simp -dsimp); (case hb => simp -dsimp)) | (with_reducible refine dn_i follows_any (by kernel_rfl) ?_) | (with_reducible exact done_eq rfl) | (simp -dsimp))); (all_goals try with_reducible refine done_eq ?_)
theorem toValue_a (g : GV) : ACalls Tryz.prog 66 [gvA g] (fun r => r = .c (.d (dV (treeOf g)))) := by
  refine acalls_ex [] Tryz.func66 (by kernel_rfl) rfl Tryz.ntmps66 Tryz.results66 (Nat.le_of_ble_eq_true (by kernel_rfl)) ?_; intro hok w0 S0
  (repeat' (first | (with_reducible refine br_d (fun _ => ?_) (fun _ => ?_)) | (with_reducible refine br_i (fun _ => ?_) (fun _ => ?_)) | (with_reducible refine nd_v (plain_a _) (by first | rfl | (simp -dsimp; done)) ?_) | (with_reducible refine nw_v (plain_a _) rfl (by first | rfl | (simp -dsimp; done)) (by first | rfl | (simp -dsimp; done)) ?_) | (with_reducible refine nd_v (newVI_a _) (by first | rfl | (simp -dsimp; done)) ?_) | (with_reducible refine nw_v (newVI_a _) rfl (by first | rfl | (simp -dsimp; done)) (by first | rfl | (simp -dsimp; done)) ?_) | (with_reducible refine dn_i follows_any (by kernel_rfl) ?_) | (with_reducible exact done_eq rfl) | (simp -dsimp))); (all_goals try with_reducible refine done_eq ?_)
noncomputable def cmpV (x y : Tree) : Int := cmpF (dep x) x y
theorem vCompare_a (x y : Tree) (hx : Fits x) (hy : Fits y) : ACalls Tryz.prog 179 [.c (.d (dV x)), .c (.d (dV y))] (fun r => r = aV (.int .i64 (cmpV x y))) := by
  refine acalls_ex [] Tryz.func179 (by kernel_rfl) rfl Tryz.ntmps179 Tryz.results179 (Nat.le_of_ble_eq_true (by kernel_rfl)) ?_; intro hok w0 S0
  (repeat' (first | (with_reducible refine br_d (fun _ => ?_) (fun _ => ?_)) | (with_reducible refine br_i (fun _ => ?_) (fun _ => ?_)) | (with_reducible refine nd_v (compare_a (dep x) x y (Nat.le_refl _) hx hy) (by first | rfl | (simp -dsimp; done)) ?_) | (with_reducible refine nw_v (compare_a (dep x) x y (Nat.le_refl _) hx hy) rfl (by first | rfl | (simp -dsimp; done)) (by first | rfl | (simp -dsimp; done)) ?_) | (with_reducible refine dn_i follows_any (by kernel_rfl) ?_) | (with_reducible exact done_eq rfl) | (simp -dsimp))); (all_goals try with_reducible refine done_eq ?_)
theorem gv_fits {g : GV} (h : okA Tryz.prog (gvA g)) : Fits (treeOf g) := by
  obtain ⟨w, S, v, hr⟩ := h
  obtain ⟨cs, _, hg⟩ := gvA_iff.1 hr
  exact tree_fits hg
end Go.Smd
end
section
set_option linter.unusedSimpArgs false
namespace Go.Smd
open Go.RowKit Go.Proofs
theorem Tree.ind {P : Tree → Prop} (hn : P .nil) (hb : ∀ b, P (.bool b)) (hi : ∀ n, P (.int n)) (hf : ∀ f, P (.float f)) (hs : ∀ s, P (.str s)) (hl : ∀ l, (∀ x ∈ l, P x) → P (.list l)) (hm : ∀ m, (∀ p ∈ m, P p.2) → P (.map m)) : ∀ t, P t
  | .nil => hn
  | .bool b => hb b
  | .int n => hi n
  | .float f => hf f
  | .str s => hs s
  | .list l => hl l fun x _hx => Tree.ind hn hb hi hf hs hl hm x
  | .map m => hm m fun p _hp => Tree.ind hn hb hi hf hs hl hm p.2
termination_by t => SizeOf.sizeOf t
decreasing_by
  · have := List.sizeOf_lt_of_mem _hx
    simp; omega
  · have h1 := List.sizeOf_lt_of_mem _hp
    have h2 : SizeOf.sizeOf p.2 < SizeOf.sizeOf p := by cases p; simp; omega
    simp; omega
mutual
def fromT : Tree → GV
  | .nil => .mk 0 0 0 ⟨#[]⟩ [] []
  | .bool b => .mk 1 (if b then 1 else 0) 0 ⟨#[]⟩ [] []
  | .int n => .mk 2 n 0 ⟨#[]⟩ [] []
  | .float f => .mk 3 0 f ⟨#[]⟩ [] []
  | .str s => .mk 4 0 0 s [] []
  | .list l => .mk 5 0 0 ⟨#[]⟩ [] (fromTs l)
  | .map m => mkMap (fromMs m)
def fromTs : List Tree → List GV
  | [] => []
  | x :: l => fromT x :: fromTs l
def fromMs : List (ByteArray × Tree) → List (ByteArray × GV)
  | [] => []
  | p :: m => sIns p.1 (fromT p.2) (fromMs m)
end
theorem fromTs_eq : ∀ l, fromTs l = l.map fromT
  | [] => by simp [fromTs]
  | x :: l => by simp [fromTs, fromTs_eq l]
theorem fromMs_sorted : ∀ m, Sorted (fromMs m)
  | [] => by simp [fromMs, Sorted]
  | p :: m => by simp only [fromMs]; exact sIns_sorted (fromMs_sorted m)
theorem fromMs_mem {k : ByteArray} {v : GV} : ∀ {m : List (ByteArray × Tree)}, (k, v) ∈ fromMs m → ∃ t, (k, t) ∈ m ∧ v = fromT t
  | [], h => by simp [fromMs] at h
  | p :: m, h => by
    simp only [fromMs] at h
    rcases mem_sIns h with h | h
    · cases h; exact ⟨p.2, List.mem_cons_self .., rfl⟩
    · obtain ⟨t, h1, h2⟩ := fromMs_mem h
      exact ⟨t, List.mem_cons_of_mem _ h1, h2⟩
theorem fromMs_keys (q : ByteArray) : ∀ m : List (ByteArray × Tree), q ∈ (fromMs m).map (·.1) ↔ q ∈ m.map (·.1)
  | [] => by simp [fromMs]
  | p :: m => by
    simp only [fromMs]
    have h : ∀ (k : ByteArray) (v : GV) (l : List (ByteArray × GV)), q ∈ (sIns k v l).map (·.1) ↔ q = k ∨ q ∈ l.map (·.1) := fun k v l => by
      induction l with
      | nil => simp [sIns]
      | cons y l ih =>
        simp only [sIns]
        split
        · simp only [List.map_cons, List.mem_cons, ih]
          constructor <;> rintro (h | h | h) <;> simp [h]
        · split
          · next h => simp [h]
          · simp
    rw [h, fromMs_keys q m]; simp
theorem sIns_mem_iff {k : ByteArray} {v : GV} {p : ByteArray × GV} : ∀ {m : List (ByteArray × GV)}, Sorted m → (p ∈ sIns k v m ↔ p = (k, v) ∨ (p ∈ m ∧ p.1 ≠ k))
  | [], _ => by simp [sIns]
  | q :: m, hs => by
    have hs' := hs
    simp only [Sorted, List.map_cons, List.pairwise_cons] at hs
    have hq : ∀ x ∈ m, blt q.1 x.1 = true := fun x hx => hs.1 x.1 (List.mem_map_of_mem hx)
    simp only [sIns]
    split
    · next hb =>
      rw [List.mem_cons, sIns_mem_iff hs.2, List.mem_cons]
      constructor
      · rintro (h | h | h)
        · subst h; exact .inr ⟨.inl rfl, blt_ne hb⟩
        · exact .inl h
        · exact .inr ⟨.inr h.1, h.2⟩
      · rintro (h | ⟨h | h, h2⟩)
        · exact .inr (.inl h)
        · exact .inl h
        · exact .inr (.inr ⟨h, h2⟩)
    · next hb =>
      split
      · next he =>
        rw [List.mem_cons, List.mem_cons]
        constructor
        · rintro (h | h)
          · exact .inl h
          · exact .inr ⟨.inr h, fun e => blt_ne (hq p h) (he.trans e.symm)⟩
        · rintro (h | ⟨h | h, h2⟩)
          · exact .inl h
          · subst h; exact absurd he h2
          · exact .inr h
      · next he =>
        have hk : blt k q.1 = true := by
          rcases blt_tri q.1 k with h' | h' | h'
          · exact absurd h' hb
          · exact absurd h' he
          · exact h'
        rw [List.mem_cons]
        constructor
        · rintro (h | h)
          · exact .inl h
          · refine .inr ⟨h, fun e => ?_⟩
            rcases List.mem_cons.1 h with rfl | h
            · exact he e
            · have := blt_trans hk (hq p h); rw [e, blt_irrefl] at this; cases this
        · rintro (h | ⟨h, _⟩)
          · exact .inl h
          · exact .inr h
theorem sorted_ext : ∀ {a b : List (ByteArray × GV)}, Sorted a → Sorted b → (∀ p, p ∈ a ↔ p ∈ b) → a = b
  | [], [], _, _, _ => rfl
  | [], y :: b, _, _, h => by have := (h y).2 (List.mem_cons_self ..); cases this
  | x :: a, [], _, _, h => by have := (h x).1 (List.mem_cons_self ..); cases this
  | x :: a, y :: b, ha, hb, h => by
    simp only [Sorted, List.map_cons, List.pairwise_cons] at ha hb
    have hx1 : ∀ p ∈ a, blt x.1 p.1 = true := fun p hp => ha.1 p.1 (List.mem_map_of_mem hp)
    have hy1 : ∀ p ∈ b, blt y.1 p.1 = true := fun p hp => hb.1 p.1 (List.mem_map_of_mem hp)
    have hxy : x = y := by
      rcases List.mem_cons.1 ((h x).1 (List.mem_cons_self ..)) with e | hx
      · exact e
      · rcases List.mem_cons.1 ((h y).2 (List.mem_cons_self ..)) with e | hy
        · exact e.symm
        · have h1 := hy1 x hx
          have h2 := hx1 y hy
          rw [blt_asymm h1] at h2; cases h2
    subst hxy
    rw [sorted_ext ha.2 hb.2 fun p => ?_]
    constructor
    · intro hp
      rcases List.mem_cons.1 ((h p).1 (List.mem_cons_of_mem _ hp)) with rfl | h'
      · have := hx1 p hp; rw [blt_irrefl] at this; cases this
      · exact h'
    · intro hp
      rcases List.mem_cons.1 ((h p).2 (List.mem_cons_of_mem _ hp)) with rfl | h'
      · have := hy1 p hp; rw [blt_irrefl] at this; cases this
      · exact h'
theorem sIns_twice {k : ByteArray} {a b : GV} {m : List (ByteArray × GV)} (hs : Sorted m) : sIns k a (sIns k b m) = sIns k a m := by
  refine sorted_ext (sIns_sorted (sIns_sorted hs)) (sIns_sorted hs) fun p => ?_
  rw [sIns_mem_iff (sIns_sorted hs), sIns_mem_iff hs, sIns_mem_iff hs]
  constructor
  · rintro (h | ⟨h | h, h2⟩)
    · exact .inl h
    · subst h; exact absurd rfl h2
    · exact .inr h
  · rintro (h | h)
    · exact .inl h
    · exact .inr ⟨.inr h, h.2⟩
theorem sIns_comm {k q : ByteArray} (hkq : k ≠ q) {a b : GV} {m : List (ByteArray × GV)} (hs : Sorted m) : sIns k a (sIns q b m) = sIns q b (sIns k a m) := by
  refine sorted_ext (sIns_sorted (sIns_sorted hs)) (sIns_sorted (sIns_sorted hs)) fun p => ?_
  rw [sIns_mem_iff (sIns_sorted hs), sIns_mem_iff hs, sIns_mem_iff (sIns_sorted hs), sIns_mem_iff hs]
  constructor
  · rintro (h | ⟨h | h, h2⟩)
    · exact .inr ⟨.inl h, by rw [h]; exact hkq⟩
    · exact .inl h
    · exact .inr ⟨.inr ⟨h.1, h2⟩, h.2⟩
  · rintro (h | ⟨h | h, h2⟩)
    · exact .inr ⟨.inl h, by rw [h]; exact hkq.symm⟩
    · exact .inl h
    · exact .inr ⟨.inr ⟨h.1, h2⟩, h.2⟩
theorem fromMs_ins (k : ByteArray) (t : Tree) : ∀ m : Fields, fromMs (ins k t m) = sIns k (fromT t) (fromMs m)
  | [] => by simp [ins, fromMs]
  | p :: m => by
    simp only [ins]
    split
    · next h => simp only [fromMs, h]; exact (sIns_twice (fromMs_sorted m)).symm
    · next h =>
      simp only [fromMs]
      rw [fromMs_ins k t m, sIns_comm h (fromMs_sorted m)]
theorem from_mapOf : ∀ (ks : List ByteArray) (l : List GV) (m : Fields), (∀ x ∈ l, fromT (treeOf x) = clean x) → fromMs (mapOf ks (treesOf l) m) = insAll ks (cleans l) (fromMs m)
  | [], l, m, _ => by cases l <;> simp [mapOf, treesOf, cleans, insAll]
  | k :: ks, [], m, _ => by simp [mapOf, treesOf, cleans, insAll]
  | k :: ks, x :: l, m, h => by
    simp only [treesOf, cleans, mapOf, insAll]
    rw [from_mapOf ks l _ fun y hy => h y (List.mem_cons_of_mem _ hy), fromMs_ins, h x (List.mem_cons_self ..)]
theorem from_tree (v : GV) : fromT (treeOf v) = clean v := by
  induction v using GV.ind with
  | h kind n f s keys l IH =>
  simp only [treeOf, clean]
  repeat' split
  all_goals (try simp only [fromT])
  all_goals (try rfl)
  · next h => subst h; simp
  · next h => simp [h]
  · have : fromTs (treesOf l) = cleans l := by
      rw [fromTs_eq, treesOf_eq, cleans_eq, List.map_map]
      exact List.map_congr_left fun x hx => IH x hx
    rw [this]
  · rw [from_mapOf keys l [] IH]; rfl
theorem insAll_self : ∀ {fs m : List (ByteArray × GV)}, Sorted fs → (∀ p ∈ fs, clean p.2 = p.2) → Sorted m → (∀ p ∈ m, ∀ q ∈ fs, blt p.1 q.1 = true) → insAll (fs.map (·.1)) (cleans (fs.map (·.2))) m = m ++ fs
  | [], m, _, _, _, _ => by simp [insAll]
  | q :: fs, m, hs, hc, hm, hlt => by
    simp only [List.map_cons, cleans, insAll]
    have hq : clean q.2 = q.2 := hc q (List.mem_cons_self ..)
    rw [hq]
    have hs' := hs
    simp only [Sorted, List.map_cons, List.pairwise_cons] at hs
    have e : sIns q.1 q.2 m = m ++ [q] := by
      have : ∀ m : List (ByteArray × GV), (∀ p ∈ m, blt p.1 q.1 = true) → sIns q.1 q.2 m = m ++ [q] := by
        intro m
        induction m with
        | nil => intro _; simp [sIns]
        | cons p m ih =>
          intro h
          simp only [sIns, h p (List.mem_cons_self ..), if_true, List.cons_append]
          rw [ih fun x hx => h x (List.mem_cons_of_mem _ hx)]
      exact this m fun p hp => hlt p hp q (List.mem_cons_self ..)
    rw [e, insAll_self hs.2 (fun p hp => hc p (List.mem_cons_of_mem _ hp)) (e ▸ sIns_sorted hm) fun p hp x hx => ?_]
    · simp
    · rcases List.mem_append.1 hp with hp | hp
      · exact hlt p hp x (List.mem_cons_of_mem _ hx)
      · simp at hp; subst hp; exact hs.1 x.1 (List.mem_map_of_mem hx)
theorem insAll_vals : ∀ (ks : List ByteArray) (l : List GV) (m : List (ByteArray × GV)) (Q : GV → Prop), (∀ x ∈ l, Q x) → (∀ p ∈ m, Q p.2) → Sorted m → ∀ p ∈ insAll ks l m, Q p.2
  | [], l, m, Q, _, hm, _, p, hp => by cases l <;> exact hm p (by simpa [insAll] using hp)
  | k :: ks, [], m, Q, _, hm, _, p, hp => hm p (by simpa [insAll] using hp)
  | k :: ks, x :: l, m, Q, hl, hm, hs, p, hp => by
    simp only [insAll] at hp
    refine insAll_vals ks l _ Q (fun y hy => hl y (List.mem_cons_of_mem _ hy)) (fun q hq => ?_) (sIns_sorted hs) p hp
    rcases (sIns_mem_iff hs).1 hq with rfl | ⟨hq, _⟩
    · exact hl x (List.mem_cons_self ..)
    · exact hm q hq
theorem clean_idem (v : GV) : clean (clean v) = clean v := by
  induction v using GV.ind with
  | h kind n f s keys l IH =>
  have hl : ∀ x ∈ cleans l, clean x = x := fun x hx => by
    rw [cleans_eq] at hx
    obtain ⟨y, hy, rfl⟩ := List.mem_map.1 hx
    exact IH y hy
  have hcl : cleans (cleans l) = cleans l := by
    rw [cleans_eq (cleans l)]
    exact (List.map_congr_left hl).trans (List.map_id' _)
  simp only [clean]
  repeat' split
  all_goals (try (simp [clean]; done))
  · simp [clean, hcl]
  · have hs := insAll_sorted keys (cleans l) [] .nil
    have hv := insAll_vals keys (cleans l) [] (fun x => clean x = x) hl (by simp) .nil
    have := insAll_self (m := []) hs hv .nil (by simp)
    simp only [List.nil_append] at this
    simp [mkMap, clean, this]
end Go.Smd
end
