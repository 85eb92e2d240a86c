/- The sizes of a map, in the library's way and in the plain way. -/
import Derived.Test.YtphldfnnjoehpaaSpecb
import Derived.Test.YtphldfnnjoehpaaAssert
import Derived.Test.YtphldfnnjoehpaaMeth
set_option linter.unusedSimpArgs false
namespace Go.Smd
open Go.RowKit Go.Proofs

/-- A map that the library holds: its method value. -/
def MapV (w : World) (S : Nat → Prop) (m : Fields) (v : Value) : Prop := ∃ r es clock, v = .iface 293 (.map (some r)) ∧ w.heap[r]? = some (.map es clock) ∧ es.size = m.length ∧ RepT w S (.map m) (.iface 154 (.map (some r)))

set_option maxRecDepth 100000 in
set_option maxHeartbeats 1000000 in
theorem asMap_c (m : Fields) (v : Value) (w : World) (S : Nat → Prop) (x : Value) (hv : v = .agg #[x]) (hx : RepT w S (.map m) x) :
    Calls Try.prog 162 #[v] w (Makes (fun W u => MapV W S m u) w) := by
  subst hv
  have Hx := Lib.hid hx
  cases hx with
  | @map _ _ r es clock hS hr hm hk hs hb hbc hv =>
  have HF : Hid (∀ W, Ext w W → Makes (fun W u => MapV W S m u) w (.returned (.iface 293 (.map (some r)))) W) := fun W e => ⟨_, rfl, ⟨r, es.toArray, clock, rfl, e.heap hr, by have := congrArg List.length hk; simpa using this, Hx.out.ext e⟩, e⟩
  clear hb hbc hv hs hk hm
  go_enter Try.func162, Try.ntmps162
  go_wp2
  go_ret
  exact HF.out _ (((Ext.refl w).alloc _).alloc _ |>.alloc _)

set_option maxRecDepth 100000 in
set_option maxHeartbeats 1000000 in
theorem toMapping_c (keys : List ByteArray) (l : List GV) (kind n : Int) (f : Nat) (s : ByteArray) (cs : List Value) (w : World) (S : Nat → Prop) (hv : RepGV S w (.mk kind n f s keys l) cs) :
    Calls Try.prog 54 #[.agg cs.toArray] w (Makes (fun W u => MapV W (w.heap.size ≤ ·) (mapOf keys (treesOf l) []) u) w) := by
  have hm := plainMap_step kind n f s keys l (fun x _ => plain_c x) cs (w.alloc (.cells cs.toArray 26)) S (hv.ext ((Ext.refl _).alloc _))
  obtain ⟨ka, kc, la, lc, rfl, ok, hkc, hlc, hks, hls⟩ := hv.open
  have HM := Lib.hid hm
  clear hm ok hkc hlc hks hls hv
  go_enter Try.func54, Try.ntmps54
  go_wp2_with fail
  refine HM.out.mono ?_
  rintro e w1 ⟨u, rfl, ⟨r, rfl, hu⟩, hE⟩
  have HE := Lib.hid (((Ext.refl w).alloc (.cells #[.int .i64 kind, .int .i64 n, .float .f64 f, .string s, .slice ka keys.length kc, .slice la l.length lc] 26)).trans hE)
  have HU := Lib.hid (hu.mono fun b hb => show w.heap.size ≤ b by rw [size_alloc] at hb; omega)
  clear hE hu
  go_wp2_with fail
  refine (newV_c _ _ w1 _ HU.out).mono ?_
  rintro e w2 ⟨u, rfl, ⟨a, x, rfl, ha, hx, hr⟩, hE2⟩
  have hf := hr.form
  have Hr := Lib.hid (hr.mono fun b hb => show w.heap.size ≤ b by have := HE.out.size; rcases hb with hb | hb <;> omega)
  have HE2 := Lib.hid (HE.out.trans hE2)
  clear hE2 hr ha
  go_wp2_with fail
  refine (asMap_c _ _ w2 _ x rfl Hr.out).mono ?_
  rintro e w3 ⟨u, rfl, hu, hE3⟩
  have HU3 := Lib.hid hu
  have HE3 := Lib.hid (HE2.out.trans hE3)
  have huu : ∃ r, u = .iface 293 (.map (some r)) := by obtain ⟨r, _, _, h, _⟩ := hu; exact ⟨r, h⟩
  obtain ⟨r3, rfl⟩ := huu
  clear hu hE3
  go_wp2
  go_ret
  exact ⟨_, rfl, HU3.out, HE3.out⟩

set_option maxRecDepth 100000 in
set_option maxHeartbeats 1000000 in
theorem mapSize_c (keys : List ByteArray) (l : List GV) (kind n : Int) (f : Nat) (s : ByteArray) (cs : List Value) (w : World) (S : Nat → Prop) (hv : RepGV S w (.mk kind n f s keys l) cs) :
    Calls Try.prog 15 #[.agg cs.toArray] w (Makes (fun _ u => u = .tuple #[.int .i64 (mapOf keys (treesOf l) []).length, .bool ((mapOf keys (treesOf l) []).length == 0)]) w) := by
  have hm := toMapping_c keys l kind n f s cs (w.alloc (.cells cs.toArray 26)) S (hv.ext ((Ext.refl _).alloc _))
  obtain ⟨ka, kc, la, lc, rfl, ok, hkc, hlc, hks, hls⟩ := hv.open
  have HM := Lib.hid hm
  have hlen := mapOf_length keys (treesOf l) []
  have hk := ok.okKeys
  have hN : (mapOf keys (treesOf l) []).length ≤ 9223372036854775807 := by simp at hlen; omega
  clear hm ok hkc hlc hks hls hv hk hlen
  go_enter Try.func15, Try.ntmps15
  go_wp2_with fail
  refine HM.out.mono ?_
  rintro e w1 ⟨u, rfl, ⟨r, es, clock, rfl, hr, hes, hrt⟩, hE⟩
  have HE := Lib.hid (((Ext.refl w).alloc (.cells #[.int .i64 kind, .int .i64 n, .float .f64 f, .string s, .slice ka keys.length kc, .slice la l.length lc] 26)).trans hE)
  clear hE hrt HM
  obtain ⟨N, hNN⟩ : ∃ N, (mapOf keys (treesOf l) []).length = N := ⟨_, rfl⟩
  have HNN := Lib.hid hNN
  rw [hNN] at hes hN
  clear hNN
  have hL := run_len_mus 3 hr
  rw [hes] at hL
  go_wp2
  refine bodyPost_ret (results_tmp2 Try.results15 _ _ _) rfl ?_
  refine ⟨_, rfl, ?_, HE.out⟩
  have e : ((N : Int) == 0) = (N == 0) := by rw [Bool.eq_iff_iff]; simp
  rw [HNN.out]; simp [e]

set_option maxRecDepth 100000 in
set_option maxHeartbeats 1000000 in
theorem wMap_c (keys : List ByteArray) (l : List GV) (kind n : Int) (f : Nat) (s : ByteArray) (cs : List Value) (w : World) (S : Nat → Prop) (hv : RepGV S w (.mk kind n f s keys l) cs) :
    Calls Try.prog 16 #[.agg cs.toArray] w (GivesGV (w.heap.size ≤ ·) (mkMap (insAll keys (cleans l) [])) w) := by
  obtain ⟨ka, kc, la, lc, rfl, ok, hkc, hlc, hks, hls⟩ := hv.open
  have ok6 : GVok 6 n f s keys l := ⟨by omega, ok.okN, ok.okF, ok.okS, ok.okKeys, ok.okEach, ok.okL⟩
  have hc6 := fun W (e : Ext w W) => clean_c (.mk 6 n f s keys l) _ W S ((RepGV.close ok6 hkc hlc hks hls).ext e)
  have HC := Lib.hid hc6
  have hcl : clean (.mk 6 n f s keys l) = mkMap (insAll keys (cleans l) []) := by simp [clean]
  rw [hcl] at HC
  have HE0 : Hid (Ext w ((w.alloc (.cells #[.int .i64 6, .int .i64 n, .float .f64 f, .string s, .slice ka keys.length kc, .slice la l.length lc] 26)).alloc (.cells #[.int .i64 0, .int .i64 0, .float .f64 0, .string ⟨#[]⟩, .slice none 0 0, .slice none 0 0] 26))) := ((Ext.refl w).alloc _).alloc _
  have hB0 := new_at (w := w.alloc (.cells #[.int .i64 6, .int .i64 n, .float .f64 f, .string s, .slice ka keys.length kc, .slice la l.length lc] 26)) (.cells #[.int .i64 0, .int .i64 0, .float .f64 0, .string ⟨#[]⟩, .slice none 0 0, .slice none 0 0] 26) (size_alloc _ _)
  have hz0 : w.heap.size + 2 ≤ ((w.alloc (.cells #[.int .i64 6, .int .i64 n, .float .f64 f, .string s, .slice ka keys.length kc, .slice la l.length lc] 26)).alloc (.cells #[.int .i64 0, .int .i64 0, .float .f64 0, .string ⟨#[]⟩, .slice none 0 0, .slice none 0 0] 26)).heap.size := by simp only [size_alloc]; omega
  have HB0 := Lib.hid hB0
  clear hc6 hcl ok ok6 hkc hlc hks hls hv hB0
  go_enter Try.func16, Try.ntmps16
  go_wp2_with fail
  refine (HC.out _ HE0.out).mono ?_
  rintro e w1 ⟨u, rfl, ⟨cu, rfl, hu⟩, hE1⟩
  have hE2 := HE0.out.trans hE1
  have hbo := hE1.heap HB0.out
  obtain ⟨f0, f1, f2, f3, f4, f5, rfl⟩ := hu.list6
  obtain ⟨p0, p1, p2, p3, p4, p5⟩ := hu.six
  have hz : ∀ o, w1.frozen? ⟨w.heap.size + 1, o, none⟩ = false := fun o => by simp [World.frozen?, hbo]
  have g0 := cell_of hbo (i := 0) rfl; have g1 := cell_of hbo (i := 1) rfl; have g2 := cell_of hbo (i := 2) rfl
  have g3 := cell_of hbo (i := 3) rfl; have g4 := cell_of hbo (i := 4) rfl; have g5 := cell_of hbo (i := 5) rfl
  have HQ : Hid ((six w1 (w.heap.size + 1) f0 f1 f2 f3 f4 f5).heap[w.heap.size + 1]? = some (.cells #[f0, f1, f2, f3, f4, f5] 26 (0, 0))) := six_at hbo _ _ _ _ _ _
  have HEq : Hid (Ext w (six w1 (w.heap.size + 1) f0 f1 f2 f3 f4 f5)) := six_ext hE2 (by omega) _ _ _ _ _ _
  have HRq : Hid (RepGV (w.heap.size ≤ ·) (six w1 (w.heap.size + 1) f0 f1 f2 f3 f4 f5) (mkMap (insAll keys (cleans l) [])) [f0, f1, f2, f3, f4, f5]) := RepGV.frame (S' := (w.heap.size ≤ ·)) ((six_same w1 (w.heap.size + 1) _ _ _ _ _ _).mono fun b hb => by omega) (fun b hb => by omega) hu
  clear hbo hu hE1 hE2 hz0
  go_wp2
  refine bodyPost_ret (res6 Try.results16 rfl HQ.out) rfl ?_
  exact ⟨_, rfl, ⟨_, rfl, HRq.out⟩, HEq.out⟩
end Go.Smd
