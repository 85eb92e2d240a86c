/- impl.MapSet. -/
import Derived.Test.YtphldfnnjoehpaaMapDo
set_option linter.unusedSimpArgs false
namespace Go.Smd
open Go.RowKit Go.Proofs

theorem run_nilAhead_val {P : Program} {T : TypeId} {f : Nat} {name : String} {d : TypeDesc} (hm : (((P.info? T).bind fun i => i.methods.find? (·.name == name)).map fun m => (m.path.toList, m.func)) = some ([], some (f, false)))
    (hu : P.underlying T = some d) (hd : (match d with | .pointer _ => false | _ => true) = true) (n : Nat) (v : Value) (w : World) : (nilAhead (n + 1) T v name).run P w = .ok (some false) w := by
  obtain ⟨m, hm, hmm⟩ := Option.map_eq_some_iff.1 hm
  obtain ⟨i, hi, hf⟩ := Option.bind_eq_some_iff.1 hm
  simp only [Prod.mk.injEq] at hmm
  unfold nilAhead
  simp only [Sem.run_bind, typeInfo, hi, hf, hmm.1, hmm.2, followBlind, Sem.run_pure, Result.andThen_ok]
  cases d <;> simp_all [run_underlying hu, typeInfo, followBlind]
/-- A method value of an interface's value is not nil. -/
theorem qIdx_nilM {P : Program} {ops : Array Oper} {C : World → Prop} {K : Act → Prop} {i : Nat} {is : List Nat} {a : Act} {o : Oper} {x : Operand} {T : TypeId} {v : Value} {cap : Array Value} {name : String} {f : Nat} {d : TypeDesc}
    (ho : nth ops.toList i = some o) (hop : o.op = .nilCheck x) (hwant : Region.wanted o (yielded ops a.tmps) = true) (hx : a.eval x = .func (.method name) #[.iface T v] cap)
    (hm : (((P.info? T).bind fun i => i.methods.find? (·.name == name)).map fun m => (m.path.toList, m.func)) = some ([], some (f, false)))
    (hu : P.underlying T = some d) (hd : (match d with | .pointer _ => false | _ => true) = true)
    (h : qIdx P ops C K is (a.put o.dst (.func (.method name) #[.iface T v] cap))) : qIdx P ops C K (i :: is) a := by
  refine ⟨o, op_of_nth ho, ?_⟩
  unfold wpQuiet
  rw [if_pos hwant]
  refine ⟨_, fun w' _ => ?_, h⟩
  obtain ⟨n, hn⟩ : ∃ n, P.types.size + Made.depth = n + 1 := ⟨P.types.size + (Made.depth - 1), rfl⟩
  have hr := run_nilAhead_val hm hu hd n v w'
  unfold Oper.quietAt execOp
  rw [hop]
  simp only [hx]
  simp [Sem.run_bind, program, Sem.run, hn, hr, Result.andThen, Oper.quietUpon]
set_option maxRecDepth 100000 in
set_option maxHeartbeats 2000000 in
theorem mapSet_c (keys : List ByteArray) (l : List GV) (kind n : Int) (f : Nat) (s : ByteArray) (cs cv : List Value) (key : ByteArray) (g : GV) (w : World) (S : Nat → Prop) (hv : RepGV S w (.mk kind n f s keys l) cs) (hg : RepGV S w g cv) (hkey : key.size ≤ 140737488351232)
    (hfit : Fits (.map (ins key (treeOf g) (mapOf keys (treesOf l) [])))) (hm : (mapOf keys (treesOf l) []).length + 1 ≤ 140737488351232) :
    Calls Try.prog 46 #[.agg cs.toArray, .string key, .agg cv.toArray] w (GivesGV (w.heap.size ≤ ·) (fromT (.map (ins key (treeOf g) (mapOf keys (treesOf l) [])))) w) := by
  have hE0 : Ext w (((w.alloc (.cells cs.toArray 26)).alloc (.cells cv.toArray 26)).alloc (.cells #[.int .i64 0, .int .i64 0, .float .f64 0, .string ⟨#[]⟩, .slice none 0 0, .slice none 0 0] 26)) := (((Ext.refl w).alloc _).alloc _).alloc _
  have hB0 := new_at (w := (w.alloc (.cells cs.toArray 26)).alloc (.cells cv.toArray 26)) (.cells #[.int .i64 0, .int .i64 0, .float .f64 0, .string ⟨#[]⟩, .slice none 0 0, .slice none 0 0] 26) (by rw [size_alloc, size_alloc])
  have hC0 := old_at (.cells #[.int .i64 0, .int .i64 0, .float .f64 0, .string ⟨#[]⟩, .slice none 0 0, .slice none 0 0] 26) (new_at (w := w.alloc (.cells cs.toArray 26)) (.cells cv.toArray 26) (size_alloc _ _))
  have hA0 := old_at (.cells #[.int .i64 0, .int .i64 0, .float .f64 0, .string ⟨#[]⟩, .slice none 0 0, .slice none 0 0] 26) (old_at (.cells cv.toArray 26) (new_at (w := w) (.cells cs.toArray 26) rfl))
  have hpm := fun W (e : Ext w W) => plainMap_step kind n f s keys l (fun x _ => plain_c x) cs W S (hv.ext e)
  have htv := fun W (e : Ext w W) => toValue_c g cv W S (hg.ext e)
  obtain ⟨c0, c1, c2, c3, c4, c5, rfl⟩ := hv.list6
  obtain ⟨o0, o1, o2, o3, o4, o5⟩ := hv.six
  obtain ⟨d0, d1, d2, d3, d4, d5, rfl⟩ := hg.list6
  obtain ⟨q0, q1, q2, q3, q4, q5⟩ := hg.six
  have HP := Lib.hid hpm; have HF := Lib.hid hfit; have HTV := Lib.hid htv
  clear hv hpm hfit htv hg
  go_enter Try.func46, Try.ntmps46
  go_upto_region 1 with fail
  generalize ((w.alloc (.cells #[c0, c1, c2, c3, c4, c5] 26)).alloc (.cells #[d0, d1, d2, d3, d4, d5] 26)).alloc (.cells #[.int .i64 0, .int .i64 0, .float .f64 0, .string ⟨#[]⟩, .slice none 0 0, .slice none 0 0] 26) = w2 at hE0 hB0 hA0 hC0 ⊢
  have HE := Lib.hid hE0; have HB := Lib.hid hB0; have HA := Lib.hid hA0; have HC := Lib.hid hC0
  clear hE0 hB0 hA0 hC0
  have a0 := cell_of HA.out (i := 0) rfl; have a1 := cell_of HA.out (i := 1) rfl; have a2 := cell_of HA.out (i := 2) rfl; have a3 := cell_of HA.out (i := 3) rfl; have a4 := cell_of HA.out (i := 4) rfl; have a5 := cell_of HA.out (i := 5) rfl
  go_wp2_with fail
  refine (HP.out w2 HE.out).mono ?_
  rintro e w3 ⟨u, rfl, ⟨r, rfl, hu⟩, hE3⟩
  have HE3 := Lib.hid (HE.out.trans hE3); have HB3 := Lib.hid (hE3.heap HB.out); have HC3 := Lib.hid (hE3.heap HC.out); have HU := Lib.hid hu
  have hrs : w2.heap.size ≤ r := by cases hu; assumption
  have hr3 : r < w3.heap.size := by cases hu with | map _ hr => exact (Array.getElem?_eq_some_iff.1 hr).1
  have hb2 : w.heap.size + 1 + 1 < w2.heap.size := (Array.getElem?_eq_some_iff.1 HB.out).1
  clear hu hE3 a0 a1 a2 a3 a4 a5
  go_upto_region 2 with fail
  refine wp_region_E [10] (by kernel_rfl) ?_
  have HE3' : Hid (Ext w w3.drew) := HE3.out.drew
  have HB3' : Hid (w3.drew.heap[w.heap.size + 1 + 1]? = some (.cells #[.int .i64 0, .int .i64 0, .float .f64 0, .string ⟨#[]⟩, .slice none 0 0, .slice none 0 0] 26 (0, 0))) := HB3.out
  have HC3' : Hid (w3.drew.heap[w.heap.size + 1]? = some (.cells #[d0, d1, d2, d3, d4, d5] 26 (0, 0))) := HC3.out
  have HU' := Lib.hid (HU.out.ext (Ext.refl w3).drew)
  have hr3' : r < w3.drew.heap.size := hr3
  clear HE3 HB3 HC3 HU hr3
  generalize w3.drew = w4 at HE3' HB3' HC3' HU' hr3' ⊢
  have b0 := cell_of HC3'.out (i := 0) rfl; have b1 := cell_of HC3'.out (i := 1) rfl; have b2 := cell_of HC3'.out (i := 2) rfl; have b3 := cell_of HC3'.out (i := 3) rfl; have b4 := cell_of HC3'.out (i := 4) rfl; have b5 := cell_of HC3'.out (i := 5) rfl
  refine E_takes (listed' := lst 11 [0, 1, 4, 5]) [0, 1, 4, 5] 7 (by kernel_rfl) (fun _ _ _ _ h => h) (by kernel_rfl) rfl (by kernel_rfl) ?_
  repeat (refine qIdx_step rfl ?_; go_big_quiet_step (fail); refine wpQuiet_nil ?_)
  refine qIdx_nil ?_
  clear b0 b1 b2 b3 b4 b5
  refine E_one (n := 6) (i := 2) (listed' := lst 11 [0, 1, 2, 4, 5]) (by kernel_rfl) rfl rfl (by kernel_rfl) ?_
  go_wp2_with fail
  refine (newVx_c _ _ w4).mono ?_
  rintro e w5 ⟨u, rfl, ⟨a, rfl, ha, hc⟩, hE5⟩
  have HE5 := Lib.hid (HE3'.out.trans hE5); have HB5 := Lib.hid (hE5.heap HB3'.out); have HU5 := Lib.hid (HU'.out.ext hE5)
  have hr5 : r < w5.heap.size := by have := hE5.size; omega
  go_wp2_with fail
  refine ⟨hE5, ?_⟩
  clear hE5
  refine E_one (n := 5) (i := 3) (listed' := lst 11 [0, 1, 2, 3, 4, 5]) (by kernel_rfl) rfl rfl (by kernel_rfl) ?_
  go_wp2_with fail
  refine (asMapx_c r w5).mono ?_
  rintro e w6 ⟨u, rfl, rfl, hE6⟩
  have HE6 := Lib.hid (HE5.out.trans hE6); have HB6 := Lib.hid (hE6.heap HB5.out); have HU6 := Lib.hid (HU5.out.ext hE6)
  have hr6 : r < w6.heap.size := by have := hE6.size; omega
  go_wp2_with fail
  refine ⟨hE6, ?_⟩
  clear hE6 hc
  refine E_takes (listed' := lst 11 [0, 1, 2, 3, 4, 5, 7, 8, 9]) [7, 8, 9] 2 (by kernel_rfl) (fun _ _ _ _ h => h) (by kernel_rfl) rfl (by kernel_rfl) ?_
  (refine qIdx_step rfl ?_; go_big_quiet_step (fail); refine wpQuiet_nil ?_)
  refine qIdx_nilM (f := 193) (d := .map 9 20) rfl rfl (by rfl) rfl (by kernel_rfl) Try.underlying293 rfl ?_
  go_simp
  (refine qIdx_step rfl ?_; go_big_quiet_step (fail); refine wpQuiet_nil ?_)
  refine qIdx_nil ?_
  refine E_one (n := 1) (i := 6) (listed' := lst 11 [0, 1, 2, 3, 4, 5, 6, 7, 8, 9]) (by kernel_rfl) rfl rfl (by kernel_rfl) ?_
  go_wp2_with fail
  refine (HTV.out w6 HE6.out).mono ?_
  rintro e w7 ⟨u, rfl, hu7, hE7⟩
  have HE7 := Lib.hid (HE6.out.trans hE7); have HB7 := Lib.hid (hE7.heap HB6.out); have HU7 := Lib.hid (HU6.out.ext hE7)
  have hr7 : r < w7.heap.size := by have := hE7.size; omega
  have HV7 := Lib.hid hu7
  go_wp2_with fail
  refine ⟨hE7, ?_⟩
  clear hE7 hu7
  refine E_bar (n := 0) (i := 10) (listed' := lst 11 [0, 1, 2, 3, 4, 5, 6, 7, 8, 9, 10]) (by kernel_rfl) rfl rfl rfl (by kernel_rfl) ?_
  go_wp2_with fail
  refine (set_c (w2.heap.size ≤ ·) (w6.heap.size ≤ ·) _ r key (treeOf g) _ w7 HU7.out HV7.out (fun b hb => ⟨by omega, by omega⟩) hkey hm).mono ?_
  rintro e w8 ⟨w9, hE9, ⟨u, rfl⟩, o, rfl, hrep⟩
  have HE9 : Hid (Ext w (put w9 r o)) := (HE7.out.trans hE9).put (by omega) o
  have HB9 : Hid ((put w9 r o).heap[w.heap.size + 1 + 1]? = some (.cells #[.int .i64 0, .int .i64 0, .float .f64 0, .string ⟨#[]⟩, .slice none 0 0, .slice none 0 0] 26 (0, 0))) := (put_other w9 o (by omega)).trans (hE9.heap HB7.out)
  have HR9 := Lib.hid hrep
  clear hrep hE9 HE3' HB3' HC3' HU' HE5 HB5 HU5 HE6 HB6 HU6 HE7 HB7 HU7 HV7
  generalize put w9 r o = w10 at HE9 HB9 HR9 ⊢
  go_wp2_with fail
  refine E_done (by kernel_rfl) ?_
  go_wp2_with fail
  refine (from_c _ _ w10 _ HR9.out HF.out).mono ?_
  rintro e w11 ⟨u, rfl, ⟨cs, rfl, hu⟩, hE11⟩
  obtain ⟨f0, f1, f2, f3, f4, f5, rfl⟩ := hu.list6
  obtain ⟨p0, p1, p2, p3, p4, p5⟩ := hu.six
  have HE11 := Lib.hid (HE9.out.trans hE11)
  have HB11 := Lib.hid (hE11.heap HB9.out)
  have hz : ∀ o, w11.frozen? ⟨w.heap.size + 1 + 1, o, none⟩ = false := fun o => by simp [World.frozen?, HB11.out]
  have g0 := cell_of HB11.out (i := 0) rfl; have g1 := cell_of HB11.out (i := 1) rfl; have g2 := cell_of HB11.out (i := 2) rfl; have g3 := cell_of HB11.out (i := 3) rfl; have g4 := cell_of HB11.out (i := 4) rfl; have g5 := cell_of HB11.out (i := 5) rfl
  have hs7 : w.heap.size + 1 + 1 < w10.heap.size := (Array.getElem?_eq_some_iff.1 HB9.out).1
  have HRP : Hid (RepGV (w.heap.size ≤ ·) (six w11 (w.heap.size + 1 + 1) f0 f1 f2 f3 f4 f5) (fromT (.map (ins key (treeOf g) (mapOf keys (treesOf l) [])))) [f0, f1, f2, f3, f4, f5]) := RepGV.frame (S' := (w.heap.size ≤ ·)) ((six_same w11 (w.heap.size + 1 + 1) _ _ _ _ _ _).mono fun b hb => by omega) (fun b hb => by omega) hu
  clear hu hE11
  go_wp2
  (try simp only [Exit.inBlock, Exit.then]); refine bodyPost_ret (res6 Try.results46 rfl (leafs HE11.out (by omega) HB11.out f0 f1 f2 f3 f4 f5).1) rfl ?_
  exact ⟨_, rfl, ⟨_, rfl, HRP.out⟩, (leafs HE11.out (by omega) HB11.out _ _ _ _ _ _).2⟩
end Go.Smd
