/- impl.MapDelete, MapSet, MapHas. -/
import Derived.Test.YtphldfnnjoehpaaMapWalk
import Derived.Test.YtphldfnnjoehpaaRoundW
set_option linter.unusedSimpArgs false
namespace Go.Smd
open Go.RowKit Go.Proofs

set_option maxRecDepth 100000 in
set_option maxHeartbeats 2000000 in
theorem mapDelete_c (keys : List ByteArray) (l : List GV) (kind n : Int) (f : Nat) (s : ByteArray) (cs : List Value) (key : ByteArray) (w : World) (S : Nat → Prop) (hv : RepGV S w (.mk kind n f s keys l) cs) (hfit : Fits (.map (delF key (mapOf keys (treesOf l) [])))) :
    Calls Try.prog 45 #[.agg cs.toArray, .string key] w (GivesGV (w.heap.size ≤ ·) (fromT (.map (delF key (mapOf keys (treesOf l) [])))) w) := by
  have hE0 : Ext w ((w.alloc (.cells cs.toArray 26)).alloc (.cells #[.int .i64 0, .int .i64 0, .float .f64 0, .string ⟨#[]⟩, .slice none 0 0, .slice none 0 0] 26)) := ((Ext.refl w).alloc _).alloc _
  have hB0 := new_at (w := w.alloc (.cells cs.toArray 26)) (.cells #[.int .i64 0, .int .i64 0, .float .f64 0, .string ⟨#[]⟩, .slice none 0 0, .slice none 0 0] 26) (size_alloc _ _)
  have hA0 := old_at (.cells #[.int .i64 0, .int .i64 0, .float .f64 0, .string ⟨#[]⟩, .slice none 0 0, .slice none 0 0] 26) (new_at (w := w) (.cells cs.toArray 26) rfl)
  have hpm := fun W (e : Ext w W) => plainMap_step kind n f s keys l (fun x _ => plain_c x) cs W S (hv.ext e)
  obtain ⟨c0, c1, c2, c3, c4, c5, rfl⟩ := hv.list6
  obtain ⟨o0, o1, o2, o3, o4, o5⟩ := hv.six
  have HP := Lib.hid hpm; have HF := Lib.hid hfit
  clear hv hpm hfit
  go_enter Try.func45, Try.ntmps45
  go_upto_region 1 with fail
  generalize (w.alloc (.cells #[c0, c1, c2, c3, c4, c5] 26)).alloc (.cells #[.int .i64 0, .int .i64 0, .float .f64 0, .string ⟨#[]⟩, .slice none 0 0, .slice none 0 0] 26) = w2 at hE0 hB0 hA0 ⊢
  have HE := Lib.hid hE0; have HB := Lib.hid hB0; have HA := Lib.hid hA0
  clear hE0 hB0 hA0
  have a0 := cell_of HA.out (i := 0) rfl; have a1 := cell_of HA.out (i := 1) rfl; have a2 := cell_of HA.out (i := 2) rfl; have a3 := cell_of HA.out (i := 3) rfl; have a4 := cell_of HA.out (i := 4) rfl; have a5 := cell_of HA.out (i := 5) rfl
  go_wp2_with fail
  refine (HP.out w2 HE.out).mono ?_
  rintro e w3 ⟨u, rfl, ⟨r, rfl, hu⟩, hE3⟩
  have HE3 := Lib.hid (HE.out.trans hE3); have HB3 := Lib.hid (hE3.heap HB.out); have HU := Lib.hid hu
  have hrs : w2.heap.size ≤ r := by cases hu; assumption
  have hb2 : w.heap.size + 1 < w2.heap.size := (Array.getElem?_eq_some_iff.1 HB.out).1
  clear hu hE3 a0 a1 a2 a3 a4 a5
  go_wp2_with fail
  refine (newVx_c _ _ w3).mono ?_
  rintro e w4 ⟨u, rfl, ⟨a, rfl, ha, hc⟩, hE4⟩
  replace HE3 := Lib.hid (HE3.out.trans hE4); replace HB3 := Lib.hid (hE4.heap HB3.out); replace HU := Lib.hid (HU.out.ext hE4)
  clear hE4
  go_wp2_with fail
  refine (asMapx_c r w4).mono ?_
  rintro e w5 ⟨u, rfl, rfl, hE5⟩
  replace HE3 := Lib.hid (HE3.out.trans hE5); replace HB3 := Lib.hid (hE5.heap HB3.out); replace HU := Lib.hid (HU.out.ext hE5)
  clear hE5 hc
  go_wp2_with fail
  refine (del_c _ _ r key w5 HU.out).mono ?_
  rintro e w6 ⟨⟨u, rfl⟩, o, rfl, hrep⟩
  have HE6 : Hid (Ext w (put w5 r o)) := HE3.out.put (by omega) o
  have HB6 : Hid ((put w5 r o).heap[w.heap.size + 1]? = some (.cells #[.int .i64 0, .int .i64 0, .float .f64 0, .string ⟨#[]⟩, .slice none 0 0, .slice none 0 0] 26 (0, 0))) := (put_other w5 o (by omega)).trans HB3.out
  have HR6 := Lib.hid hrep
  clear hrep HE3 HB3 HU
  generalize put w5 r o = w7 at HE6 HB6 HR6 ⊢
  go_wp2_with fail
  refine (from_c _ _ w7 _ HR6.out HF.out).mono ?_
  rintro e w8 ⟨u, rfl, ⟨cs, rfl, hu⟩, hE8⟩
  obtain ⟨f0, f1, f2, f3, f4, f5, rfl⟩ := hu.list6
  obtain ⟨p0, p1, p2, p3, p4, p5⟩ := hu.six
  have HE8 := Lib.hid (HE6.out.trans hE8)
  have HB8 := Lib.hid (hE8.heap HB6.out)
  have hz : ∀ o, w8.frozen? ⟨w.heap.size + 1, o, none⟩ = false := fun o => by simp [World.frozen?, HB8.out]
  have g0 := cell_of HB8.out (i := 0) rfl; have g1 := cell_of HB8.out (i := 1) rfl; have g2 := cell_of HB8.out (i := 2) rfl; have g3 := cell_of HB8.out (i := 3) rfl; have g4 := cell_of HB8.out (i := 4) rfl; have g5 := cell_of HB8.out (i := 5) rfl
  have hs7 : w.heap.size + 1 < w7.heap.size := (Array.getElem?_eq_some_iff.1 HB6.out).1
  have HRP : Hid (RepGV (w.heap.size ≤ ·) (six w8 (w.heap.size + 1) f0 f1 f2 f3 f4 f5) (fromT (.map (delF key (mapOf keys (treesOf l) [])))) [f0, f1, f2, f3, f4, f5]) := RepGV.frame (S' := (w.heap.size ≤ ·)) ((six_same w8 (w.heap.size + 1) _ _ _ _ _ _).mono fun b hb => by omega) (fun b hb => by omega) hu
  clear hu hE8
  go_wp2
  (try simp only [Exit.inBlock, Exit.then]); refine bodyPost_ret (res6 Try.results45 rfl (leafs HE8.out (by omega) HB8.out f0 f1 f2 f3 f4 f5).1) rfl ?_
  exact ⟨_, rfl, ⟨_, rfl, HRP.out⟩, (leafs HE8.out (by omega) HB8.out _ _ _ _ _ _).2⟩
end Go.Smd
