/- impl.MapHas. -/
import Derived.Test.YtphldfnnjoehpaaMapSt
set_option linter.unusedSimpArgs false
namespace Go.Smd
open Go.RowKit Go.Proofs

set_option maxRecDepth 100000 in
set_option maxHeartbeats 1000000 in
theorem mapHas_c (keys : List ByteArray) (l : List GV) (kind n : Int) (f : Nat) (s : ByteArray) (cs : List Value) (key : ByteArray) (w : World) (S : Nat → Prop) (hv : RepGV S w (.mk kind n f s keys l) cs) :
    Calls Try.prog 49 #[.agg cs.toArray, .string key] w (Makes (fun _ u => u = .bool (idxOf key ((mapOf keys (treesOf l) []).map (·.1))).isSome) w) := by
  have hm := toMapping_c keys l kind n f s cs (w.alloc (.cells cs.toArray 26)) S (hv.ext ((Ext.refl _).alloc _))
  obtain ⟨ka, kc, la, lc, rfl, ok, hkc, hlc, hks, hls⟩ := hv.open
  have HM := Lib.hid hm
  clear hm ok hkc hlc hks hls hv
  go_enter Try.func49, Try.ntmps49
  go_wp2_with fail
  refine HM.out.mono ?_
  rintro e w1 ⟨u, rfl, ⟨r, es, clock, rfl, hr, hes, hrt⟩, hE⟩
  have HE := Lib.hid (((Ext.refl w).alloc (.cells #[.int .i64 kind, .int .i64 n, .float .f64 f, .string s, .slice ka keys.length kc, .slice la l.length lc] 26)).trans hE)
  have HR := Lib.hid hrt
  clear hE hrt HM hr hes
  go_wp2_with fail
  refine (has_c _ _ r key w1 HR.out).mono ?_
  rintro e w2 ⟨u, rfl, rfl, hE2⟩
  have HE2 := Lib.hid (HE.out.trans hE2)
  clear hE2
  generalize hb : (idxOf key ((mapOf keys (treesOf l) []).map (·.1))).isSome = b
  go_wp2
  go_ret
  exact ⟨_, rfl, congrArg Value.bool hb.symm, HE2.out⟩
end Go.Smd
