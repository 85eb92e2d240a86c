/- The law FnMapFieldsInAnyOrder holds of every value and every turn: a map whose fields come in another order is equal to it, compares as 0 and has the same plain form. -/
import Derived.Test.YtannholebjdckaaQM25
import Derived.Test.YtannholebjdckaaRows
import Derived.Test.YtannholebjdckaaQM01
import Derived.ProofKit
import Derived.Deep.Slices
import Derived.Test.YtannholebjdckaaQM20
set_option linter.unusedVariables false
section
set_option linter.unusedSimpArgs false
set_option maxRecDepth 100000
set_option maxHeartbeats 8000000
namespace Go.Smd
open Go.RowKit Go.Proofs
theorem mkMap_kind {g : GV} (h : kd (clean g) = 6) (hF : Fits (treeOf g)) : ∃ fs, clean g = mkMap fs ∧ Sorted fs ∧ (∀ p ∈ fs, clean p.2 = p.2 ∧ Fits (treeOf p.2)) ∧ fs.length * 88 ≤ 140737488351232 := clean_map g hF h
theorem clean_len {g : GV} {fs : List (ByteArray × GV)} (h5 : fits5 g = true) (hcl : clean g = mkMap fs) : fs.length ≤ 2147483647 := by
  obtain ⟨k, n, f, s, keys, l⟩ := g
  simp only [fits5, Bool.and_eq_true, decide_eq_true_eq] at h5
  have hll := h5.2
  have em : mkMap fs = .mk 6 0 0 ⟨#[]⟩ (fs.map (·.1)) (fs.map (·.2)) := rfl
  rw [em] at hcl
  have h6 := insAll_length keys (cleans l) []
  have h7 : (cleans l).length = l.length := by rw [cleans_eq, List.length_map]
  by_cases hk : k = 6
  · subst hk
    simp only [clean] at hcl
    simp [mkMap] at hcl
    have h8 := congrArg List.length hcl.1
    simp only [List.length_map, List.length_nil] at h8 h6
    omega
  · exfalso
    have hkd := congrArg kd hcl
    simp only [clean, hk, if_false] at hkd
    repeat' (split at hkd)
    all_goals simp [kd] at hkd
theorem fnMapAny_a (v : GV) (turn : Int) : ACalls Try.prog 5 [gvA v, aI turn] (fun r => r = aV (.bool true)) := by
  have q1 := zzFits5_a v
  have q2 := clean_a v
  by_cases h5 : fits5 v = true
  · by_cases hk : kd (clean v) = 6
    · have h : okA Try.prog (gvA v) → ACalls Try.prog 5 [gvA v, aI turn] (fun r => r = aV (.bool true)) := fun hv => by
        obtain ⟨fs, hcl, hs, hc, _⟩ := mkMap_kind hk (gv_fits hv)
        by_cases ho : orderly (mkMap fs) = true
        · exact anyMap_a v turn fs hcl hs hc (clean_len h5 hcl) h5 ho
        · have ho : orderly (mkMap fs) = false := by simpa using ho
          have q3 := orderly_a (mkMap fs)
          rw [ho] at q3
          rw [h5] at q1
          rw [hcl] at q2
          have em : mkMap fs = .mk 6 0 0 ⟨#[]⟩ (fs.map (·.1)) (fs.map (·.2)) := rfl
          rw [em, gvA_x] at q2 q3
          obtain ⟨va, vb, vc, vd, ve, vf⟩ := v
          rw [gvA_x] at q1 q2 ⊢
          refine acalls_ex [(12, ([2, 6, 13], [(0, []), (1, []), (2, []), (3, []), (4, []), (5, []), (6, []), (7, []), (8, []), (9, []), (10, []), (12, []), (11, []), (13, []), (14, []), (15, [])]))] Try.func5 (by kernel_rfl) rfl Try.ntmps5 Try.results5 (Nat.le_of_ble_eq_true (by kernel_rfl)) ?_; intro hok w0 S0
          clear hok
          (repeat' (first
                                                            | (with_reducible refine br_d (fun _ => ?_) (fun _ => ?_))
                                                            | (with_reducible refine br_i (fun _ => ?_) (fun _ => ?_))
                                                            | (with_reducible refine nd_v (q1) (by first | rfl | (simp -dsimp; done)) ?_)
                                                            | (with_reducible refine nw_v (q1) rfl (by first | rfl | (simp -dsimp; done)) (by first | rfl | (simp -dsimp; done)) ?_)
                                                            | (with_reducible refine nd_v (q2) (by first | rfl | (simp -dsimp; done)) ?_)
                                                            | (with_reducible refine nw_v (q2) rfl (by first | rfl | (simp -dsimp; done)) (by first | rfl | (simp -dsimp; done)) ?_)
                                                            | (with_reducible refine nd_v (q3) (by first | rfl | (simp -dsimp; done)) ?_)
                                                            | (with_reducible refine nw_v (q3) rfl (by first | rfl | (simp -dsimp; done)) (by first | rfl | (simp -dsimp; done)) ?_)
                                                            | ((with_reducible apply nd_next); (case hx => simp -dsimp; first | done | with_reducible rfl); (case hid => simp -dsimp; first | done | with_reducible rfl | exact ⟨rfl, rfl, rfl⟩ | exact ⟨rfl, rfl⟩); (case' h1 => intro _ _ _); (case' h0 => intro _))
                                                            | ((with_reducible apply nd_entry); (case hx => simp -dsimp; first | done | with_reducible rfl); (case hid => simp -dsimp; first | done | with_reducible rfl | exact ⟨rfl, rfl, rfl⟩ | exact ⟨rfl, rfl⟩))
                                                            | ((with_reducible apply nd_range); (case hx => simp -dsimp; with_reducible rfl); (case hT => simp -dsimp); (case hnd => assumption); (case hz => simp -dsimp))
                                                            | (with_reducible refine dn_i follows_any (by kernel_rfl) ?_)
                                                            | (with_reducible exact done_eq rfl)
                                                            | (simp -dsimp))); (all_goals try with_reducible refine done_eq ?_)
      refine ⟨⟨_, Try.func5, by kernel_rfl, rfl⟩, fun w S vs hS ha => ?_⟩
      obtain ⟨u, _, _, hu, _⟩ := ha.inv
      exact (h ⟨w, S, u, hu⟩).2 w S vs hS ha
    · rw [h5] at q1
      obtain ⟨b1, b2, b3, b4, b5, b6, hcl⟩ : ∃ b1 b2 b3 b4 b5 b6, clean v = .mk b1 b2 b3 b4 b5 b6 := by cases clean v; exact ⟨_, _, _, _, _, _, rfl⟩
      rw [hcl] at hk q2
      have hk : ¬ b1 = 6 := hk
      rw [gvA_x] at q2
      obtain ⟨va, vb, vc, vd, ve, vf⟩ := v
      rw [gvA_x] at q1 q2 ⊢
      refine acalls_ex [(12, ([2, 6, 13], [(0, []), (1, []), (2, []), (3, []), (4, []), (5, []), (6, []), (7, []), (8, []), (9, []), (10, []), (12, []), (11, []), (13, []), (14, []), (15, [])]))] Try.func5 (by kernel_rfl) rfl Try.ntmps5 Try.results5 (Nat.le_of_ble_eq_true (by kernel_rfl)) ?_; intro hok w0 S0
      clear hok
      (repeat' (first
                                                            | (with_reducible refine br_d (fun _ => ?_) (fun _ => ?_))
                                                            | (with_reducible refine br_i (fun _ => ?_) (fun _ => ?_))
                                                            | (with_reducible refine nd_v (q1) (by first | rfl | (simp -dsimp [hk]; done)) ?_)
                                                            | (with_reducible refine nw_v (q1) rfl (by first | rfl | (simp -dsimp [hk]; done)) (by first | rfl | (simp -dsimp [hk]; done)) ?_)
                                                            | (with_reducible refine nd_v (q2) (by first | rfl | (simp -dsimp [hk]; done)) ?_)
                                                            | (with_reducible refine nw_v (q2) rfl (by first | rfl | (simp -dsimp [hk]; done)) (by first | rfl | (simp -dsimp [hk]; done)) ?_)
                                                            | ((with_reducible apply nd_next); (case hx => simp -dsimp [hk]; first | done | with_reducible rfl); (case hid => simp -dsimp [hk]; first | done | with_reducible rfl | exact ⟨rfl, rfl, rfl⟩ | exact ⟨rfl, rfl⟩); (case' h1 => intro _ _ _); (case' h0 => intro _))
                                                            | ((with_reducible apply nd_entry); (case hx => simp -dsimp [hk]; first | done | with_reducible rfl); (case hid => simp -dsimp [hk]; first | done | with_reducible rfl | exact ⟨rfl, rfl, rfl⟩ | exact ⟨rfl, rfl⟩))
                                                            | ((with_reducible apply nd_range); (case hx => simp -dsimp [hk]; with_reducible rfl); (case hT => simp -dsimp [hk]); (case hnd => assumption); (case hz => simp -dsimp [hk]))
                                                            | (with_reducible refine dn_i follows_any (by kernel_rfl) ?_)
                                                            | (with_reducible exact done_eq rfl)
                                                            | (simp -dsimp [hk]))); (all_goals try with_reducible refine done_eq ?_)
  · have h5 : fits5 v = false := by simpa using h5
    rw [h5] at q1
    obtain ⟨va, vb, vc, vd, ve, vf⟩ := v
    rw [gvA_x] at q1 ⊢
    refine acalls_ex [(12, ([2, 6, 13], [(0, []), (1, []), (2, []), (3, []), (4, []), (5, []), (6, []), (7, []), (8, []), (9, []), (10, []), (12, []), (11, []), (13, []), (14, []), (15, [])]))] Try.func5 (by kernel_rfl) rfl Try.ntmps5 Try.results5 (Nat.le_of_ble_eq_true (by kernel_rfl)) ?_; intro hok w0 S0
    clear hok
    (repeat' (first
                                                            | (with_reducible refine br_d (fun _ => ?_) (fun _ => ?_))
                                                            | (with_reducible refine br_i (fun _ => ?_) (fun _ => ?_))
                                                            | (with_reducible refine nd_v (q1) (by first | rfl | (simp -dsimp; done)) ?_)
                                                            | (with_reducible refine nw_v (q1) rfl (by first | rfl | (simp -dsimp; done)) (by first | rfl | (simp -dsimp; done)) ?_)
                                                            | ((with_reducible apply nd_next); (case hx => simp -dsimp; first | done | with_reducible rfl); (case hid => simp -dsimp; first | done | with_reducible rfl | exact ⟨rfl, rfl, rfl⟩ | exact ⟨rfl, rfl⟩); (case' h1 => intro _ _ _); (case' h0 => intro _))
                                                            | ((with_reducible apply nd_entry); (case hx => simp -dsimp; first | done | with_reducible rfl); (case hid => simp -dsimp; first | done | with_reducible rfl | exact ⟨rfl, rfl, rfl⟩ | exact ⟨rfl, rfl⟩))
                                                            | ((with_reducible apply nd_range); (case hx => simp -dsimp; with_reducible rfl); (case hT => simp -dsimp); (case hnd => assumption); (case hz => simp -dsimp))
                                                            | (with_reducible refine dn_i follows_any (by kernel_rfl) ?_)
                                                            | (with_reducible exact done_eq rfl)
                                                            | (simp -dsimp))); (all_goals try with_reducible refine done_eq ?_)
end Go.Smd
end
section
set_option linter.unusedSimpArgs false
namespace Go.Smd
open Go.RowKit Go.Proofs Go.ChangeShapes Go.WideShapes Go.ChangeAt
theorem own_knob : ownKnob Try.prog.godebug = none := by kernel_rfl
theorem laid_out : laidOutB Try.prog = true := by kernel_rfl
section
variable {H : Type} {enc : TypeId × Value → H}
theorem trodAll_below {W W' : World} (hb : Below W.heap.size W W') : ∀ {ts : List TypeId} {vs : List Value} {ds : List (DataW H)} {ps : List MemPlace},
    (∀ t ∈ ts, Try.prog.readableRec t = true ∧ t < Try.prog.types.size) → DataW.TrodAll enc Try.prog W 0 (fun _ => true) true ts vs ds ps → (∀ x ∈ ps, x.block < W.heap.size) →
    DataW.TrodAll enc Try.prog W' 0 (fun b => decide (b < W.heap.size)) true ts vs ds ps
  | [], vs, ds, ps, _, h, _ => by
    match vs, ds, h with
    | [], [], h => exact h
  | t :: ts, vs, ds, ps, hr, h, hlt => by
    match vs, ds, h with
    | v :: vs, d :: ds, ⟨p, q, h1, h2, e⟩ =>
      subst e
      exact ⟨p, q, Below.trod laid_out (hr t (List.mem_cons_self ..)).1 (hr t (List.mem_cons_self ..)).2 h1 hb fun x hx => hlt x (List.mem_append_left _ hx),
        trodAll_below hb (fun t ht => hr t (List.mem_cons_of_mem _ ht)) h2 fun x hx => hlt x (List.mem_append_right _ hx), rfl⟩
theorem law_post {fn : Func} {s : ChangeSpec} {W W' : World} {args : Array Value} {ds gs : List (DataW H)} {before : List MemPlace} (hv : s.vars = []) (hr : fn.resultTypes = #[4])
    (hp : ∀ t ∈ fn.params.toList, Try.prog.readableRec t = true ∧ t < Try.prog.types.size)
    (hW : DataW.Whole enc Try.prog fn.params.toList s.vars false W args.toList ds gs before) (hs : s.fn H ds = { results := [.lit (.bool true)], args := ds }) (hE : Ext W W') :
    s.post enc Try.prog fn false true false false W args (.bool true) W' := by
  have hlt : ∀ p ∈ before, p.block < W.heap.size := fun p hp => hW.lt p hp
  have hW' := hW
  obtain ⟨p, q, hA, hV, rfl, hfz, hnd⟩ := hW
  rw [hv] at hV
  obtain ⟨rfl, rfl⟩ := trodVars_none hV
  have hA' := trodAll_below hE hp hA fun x hx => hlt x (by simpa using hx)
  refine ⟨ds, [], p ++ [], [], p, [], hW', ?_, ?_, ?_, ?_, fun h => by cases h⟩
  · rw [hr, List.append_nil, hs]
    exact trodAll_mk1 (shut_bool Try.underlying4 true)
  · rw [List.append_nil, hs]; exact hA'
  · rw [hv, List.append_nil, hs]; rfl
  · exact World.keptBut_mono (fun x hx => hx) (Below.frame hE _)
end
set_option maxRecDepth 100000 in
theorem law_lift {fn : Func} {f : FuncId} {s : ChangeSpec} (hfn : Try.prog.funcs[f]? = some fn) (hv : s.vars = []) (hr : fn.resultTypes = #[4])
    (hp : ∀ t ∈ fn.params.toList, Try.prog.readableRec t = true ∧ t < Try.prog.types.size) (hi : Try.prog.inits.idxOf? f = none)
    {os : Os} (started : os.Started) {H : Type} {enc : TypeId × Value → H}
    (hs : ∀ ds : List (DataW H), ds.length = fn.params.size → s.fn H ds = { results := [.lit (.bool true)], args := ds })
    (witness : ∃ (w : World) (tape : Tape) (i : Input), w.os = os ∧ (w.forCall tape i).Shaped Try.prog ∧ i.vars = [] ∧ Input.okWide Try.prog (w.forCall tape i) .any w.heap.size f i ∧
      s.pre6 enc Try.prog fn [] false (w.forCall tape i).memory i.args ∧ ({} : Assume).holds Try.prog (lone (Frame.enter Try.prog f i.args .normal) [] (w.forCall tape i)))
    (walk : ∀ (W : World) (args : Array Value) (ds : List (DataW H)) (p : List MemPlace), DataW.TrodAll enc Try.prog W 0 (fun _ => true) true fn.params.toList args.toList ds p →
      (∀ x ∈ DataW.weightsEach Try.prog fn.params.toList ds, x ≤ 140737488351232) →
      (∃ base : Nat, ∀ (j : Nat) t v, fn.params[j]? = some t → args[j]? = some v → Value.okWide Try.prog W .any base t v) → Calls Try.prog f args W (Makes (fun _ u => u = .bool true) W)) :
    ReturnsInHanded {} Try.checked os f .any (s.pre6 enc Try.prog fn [] false) (s.post enc Try.prog fn false true false false) := by
  refine returnsInHanded_of_change_sized (C := Try.checked) own_knob started hi hfn witness ?_
  intro W base args ds gs before hval hW _ hweights _
  have hW' := hW
  obtain ⟨p, q, hA, hV, rfl, hfz, hnd⟩ := hW
  rw [hv] at hV
  obtain ⟨rfl, rfl⟩ := trodVars_none hV
  have hlen : ds.length = fn.params.size := by
    have : ∀ {ts : List TypeId} {vs : List Value} {ds : List (DataW H)} {ps : List MemPlace}, DataW.TrodAll enc Try.prog W 0 (fun _ => true) true ts vs ds ps → ds.length = ts.length := by
      intro ts
      induction ts with
      | nil => intro vs ds ps h; match vs, ds, h with | [], [], _ => rfl
      | cons t ts ih => intro vs ds ps h; match vs, ds, h with | v :: vs, d :: ds, ⟨_, _, _, h2, _⟩ => simp [ih h2]
    simpa using this hA
  refine (walk W args ds p hA (fun x hx => ?_) ⟨base, hval⟩).mono fun e W' h => ?_
  · have e : s.plain.varTypes Try.prog = [] := by simp [DataSpec.varTypes, ChangeSpec.plain, hv]
    have hw : (DataW.weightsEach Try.prog (fn.params.toList ++ s.plain.varTypes Try.prog) (ds ++ [])).all (· ≤ reachBytes) = true := hweights
    rw [e, List.append_nil, List.append_nil, List.all_eq_true] at hw
    exact of_decide_eq_true (hw x hx)
  · obtain ⟨v, rfl, rfl, hE⟩ := h
    exact ⟨_, rfl, law_post hv hr hp hW' (hs ds hlen) hE⟩
end Go.Smd
end
section
set_option linter.unusedSimpArgs false
namespace Go.Smd
open Go.RowKit Go.Proofs Go.ChangeShapes Go.WideShapes Go.Deep
theorem cells_at {w : World} {base : Nat} {a : Addr} {n : Nat} {cs : List Value} (h : w.cells? base a n = some cs) : CellsAt w a cs := fun i u hu => by
  obtain ⟨_, hl, hc⟩ := World.cells?_some h
  rw [hc i (by rw [← hl]; exact (List.getElem?_eq_some_iff.1 hu).1)]; exact hu
def Light (l : List Nat) : Prop := ∀ x ∈ l, x ≤ 140737488351232
theorem Light.append {l m : List Nat} (h : Light (l ++ m)) : Light l ∧ Light m := ⟨fun x hx => h x (List.mem_append_left _ hx), fun x hx => h x (List.mem_append_right _ hx)⟩
theorem Light.all {H : Type} {P : Program} {e : TypeId} : ∀ {ds : List (DataW H)}, Light (DataW.weightsAll P e ds) → ∀ d ∈ ds, Light (d.weights P e)
  | [], _, d, hd => by simp at hd
  | d0 :: ds, h, d, hd => by
    simp only [DataW.weightsAll] at h
    rcases List.mem_cons.1 hd with rfl | hd
    · exact h.append.1
    · exact Light.all h.append.2 d hd
section
variable {H : Type} {enc : TypeId × Value → H} {w : World} {held : Bool}
theorem open_strs {P : Program} {t e : TypeId} (ht : P.underlying t = some (.slice e)) (he : P.underlying e = some .string) (hc : P.cellsOf e = 1) (hb : P.bytesOf e = 16) {fuel : Nat} {cs : List Value} {x : DataW H × List MemPlace}
    (h : DataW.trod enc P w 0 (fun _ => true) held fuel t cs = some x) (hw : Light (x.1.weights P t)) :
    ∃ A c ss, cs = [.slice A (List.length ss) c] ∧ ss.length ≤ c ∧ RepStrs (fun _ => True) w A ss ∧ ss.length * 16 ≤ 140737488351232 ∧ ∀ s ∈ ss, s.size ≤ 140737488351232 := by
  rcases open_slice1 ht hc h with ⟨rfl, rfl⟩ | ⟨a, len, cap, m, n, V, D, Pl, rfl, _, hl, _, hm, rfl, hx⟩
  · exact ⟨none, 0, [], rfl, Nat.zero_le _, RowOf.nil, by simp, by simp⟩
  · have hm' : m = cap := by simpa using hm
    subst hm'
    have key : ∀ i : Nat, ∃ s : ByteArray, i < m → V i = .string s ∧ D i = .lit (.string s.data.toList) := fun i => by
      by_cases hi : i < m
      · obtain ⟨s, h1, h2, _⟩ := DataW.trod_string he (hx i hi).2
        exact ⟨s, fun _ => ⟨by simpa using h1, congrArg Prod.fst h2⟩⟩
      · exact ⟨⟨#[]⟩, fun h => absurd h hi⟩
    let F : Nat → ByteArray := fun i => Classical.choose (key i)
    have hF : ∀ i, i < m → V i = .string (F i) ∧ D i = .lit (.string (F i).data.toList) := fun i hi => Classical.choose_spec (key i) hi
    have hlen : ((List.range len).map F).length = len := by simp
    simp only [DataW.weights, ht, hb, List.length_map, List.length_range] at hw
    have hw1 : (len + (m - len)) * 16 ≤ 140737488351232 := hw _ (List.mem_cons_self ..)
    have hw2 : Light (DataW.weightsAll P e ((List.range len).map D)) := fun x hx => hw x (List.mem_cons_of_mem _ (List.mem_append_left _ hx))
    refine ⟨some a, m, (List.range len).map F, by rw [hlen], by rw [hlen]; exact hl, fun j x hj => ?_, by rw [hlen]; omega, fun s hs => ?_⟩
    · rw [List.getElem?_map] at hj
      obtain ⟨i, hi, rfl⟩ := Option.map_eq_some_iff.1 hj
      obtain ⟨hlt, rfl⟩ := List.getElem?_eq_some_iff.1 hi
      simp only [List.length_range] at hlt
      simp only [List.getElem_range]
      refine ⟨a, [V j], rfl, trivial, by rw [(hF j (by omega)).1]; rfl, rfl, fun i u hu => ?_⟩
      match i, hu with
      | 0, hu =>
        simp at hu; subst hu
        have := (hx j (by omega)).1
        simpa [Addr.add] using this
    · obtain ⟨i, hi, rfl⟩ := List.mem_map.1 hs
      have hi' : i < len := by simpa using hi
      have := Light.all hw2 (D i) (List.mem_map.2 ⟨i, hi, rfl⟩)
      rw [(hF i (by omega)).2] at this
      simp only [DataW.weights] at this
      have := this _ (List.mem_singleton_self _)
      rw [ByteArray.size, Array.size_eq_length_toList]; exact this
theorem trod_float {P : Program} {t : TypeId} {k : FloatKind} {fuel : Nat} {cs : List Value} {x : DataW H × List MemPlace} (ht : P.underlying t = some (.float k)) (h : DataW.trod enc P w 0 (fun _ => true) held fuel t cs = some x) : ∃ n, cs = [.float k n] ∧ x = (.lit (.float k n), []) ∧ (Lit.float k n).wf = true := by
  cases fuel with
  | zero => simp [DataW.trod] at h
  | succ n =>
    unfold DataW.trod at h
    rw [ht] at h
    split at h <;> simp_all
set_option maxRecDepth 100000 in
theorem open_val : ∀ (fuel : Nat) (cs : List Value) (x : DataW H × List MemPlace), DataW.trod enc Try.prog w 0 (fun _ => true) held fuel 29 cs = some x → Light (x.1.weights Try.prog 29) →
    ∃ v, RepGV (fun _ => True) w v cs := by
  intro fuel
  induction fuel using Nat.strongRecOn with
  | _ fuel IH =>
  intro cs x h hw
  obtain ⟨xs, n, rfl, rfl, hlen, hxl, hf⟩ := DataW.trod_struct Try.underlying29 h
  have e6 : Try.prog.cellsOf 29 = 6 := by kernel_rfl
  have e1 : Try.prog.cellsOf 3 = 1 := by kernel_rfl
  have e2 : Try.prog.cellsOf 2 = 1 := by kernel_rfl
  have e3 : Try.prog.cellsOf 27 = 1 := by kernel_rfl
  have e4 : Try.prog.cellsOf 9 = 1 := by kernel_rfl
  have e5 : Try.prog.cellsOf 26 = 1 := by kernel_rfl
  have e7 : Try.prog.cellsOf 22 = 1 := by kernel_rfl
  rw [e6] at hlen
  match cs, hlen with
  | [c0, c1, c2, c3, c4, c5], _ =>
  match xs, hxl with
  | [x0, x1, x2, x3, x4, x5], _ =>
  have f0 : DataW.trod enc Try.prog w 0 (fun _ => true) held n 3 (([c0, c1, c2, c3, c4, c5].drop 0).take (Try.prog.cellsOf 3)) = some x0 := hf 0 _ rfl
  rw [e1] at f0
  change DataW.trod enc Try.prog w 0 (fun _ => true) held n 3 [c0] = some x0 at f0
  have f1 : DataW.trod enc Try.prog w 0 (fun _ => true) held n 2 (([c0, c1, c2, c3, c4, c5].drop 1).take (Try.prog.cellsOf 2)) = some x1 := hf 1 _ rfl
  rw [e2] at f1
  change DataW.trod enc Try.prog w 0 (fun _ => true) held n 2 [c1] = some x1 at f1
  have f2 : DataW.trod enc Try.prog w 0 (fun _ => true) held n 27 (([c0, c1, c2, c3, c4, c5].drop 2).take (Try.prog.cellsOf 27)) = some x2 := hf 2 _ rfl
  rw [e3] at f2
  change DataW.trod enc Try.prog w 0 (fun _ => true) held n 27 [c2] = some x2 at f2
  have f3 : DataW.trod enc Try.prog w 0 (fun _ => true) held n 9 (([c0, c1, c2, c3, c4, c5].drop 3).take (Try.prog.cellsOf 9)) = some x3 := hf 3 _ rfl
  rw [e4] at f3
  change DataW.trod enc Try.prog w 0 (fun _ => true) held n 9 [c3] = some x3 at f3
  have f4 : DataW.trod enc Try.prog w 0 (fun _ => true) held n 26 (([c0, c1, c2, c3, c4, c5].drop 4).take (Try.prog.cellsOf 26)) = some x4 := hf 4 _ rfl
  rw [e5] at f4
  change DataW.trod enc Try.prog w 0 (fun _ => true) held n 26 [c4] = some x4 at f4
  have f5 : DataW.trod enc Try.prog w 0 (fun _ => true) held n 22 (([c0, c1, c2, c3, c4, c5].drop 5).take (Try.prog.cellsOf 22)) = some x5 := hf 5 _ rfl
  rw [e7] at f5
  change DataW.trod enc Try.prog w 0 (fun _ => true) held n 22 [c5] = some x5 at f5
  obtain ⟨kind, h0, hx0, hr0⟩ := DataW.trod_int Try.underlying3 f0
  obtain ⟨N, h1, hx1, hr1⟩ := DataW.trod_int Try.underlying2 f1
  obtain ⟨F, h2, hx2, hr2⟩ := trod_float Try.underlying27 f2
  obtain ⟨s, h3, hx3, hr3⟩ := DataW.trod_string Try.underlying9 f3
  simp only [List.cons.injEq, and_true] at h0 h1 h2 h3
  subst h0; subst h1; subst h2; subst h3
  simp only [List.map_cons, List.map_nil, DataW.weights, Try.underlying29, DataW.weightsEach] at hw
  have hw : Light (DataW.weights Try.prog 3 x0.1 ++ (DataW.weights Try.prog 2 x1.1 ++ (DataW.weights Try.prog 27 x2.1 ++ (DataW.weights Try.prog 9 x3.1 ++ (DataW.weights Try.prog 26 x4.1 ++ (DataW.weights Try.prog 22 x5.1 ++ [])))))) := hw
  have w3 := hw.append.2.append.2.append.2.append.1
  have w4 := hw.append.2.append.2.append.2.append.2.append.1
  have w5 := hw.append.2.append.2.append.2.append.2.append.2.append.1
  obtain ⟨ka, kc, keys, hk, hkc, hkr, hk16, hks⟩ := open_strs Try.underlying26 Try.underlying9 e4 (by kernel_rfl) f4 w4
  simp only [List.cons.injEq, and_true] at hk
  subst hk
  have hss : s.size ≤ 140737488351232 := by
    rw [hx3] at w3
    simp only [DataW.weights] at w3
    have := w3 _ (List.mem_singleton_self _)
    rw [ByteArray.size, Array.size_eq_length_toList]; exact this
  have okk : ∀ {l : List GV}, l.length * 88 ≤ 140737488351232 → GVok kind N F s keys l := fun hl => by
    refine ⟨?_, ?_, ?_, hss, hk16, hks, hl⟩
    · have := hr0; simp [Lit.wf, IntKind.min, IntKind.max, IntKind.signed, IntKind.bits] at this; omega
    · have := hr1; simp [Lit.wf, IntKind.min, IntKind.max, IntKind.signed, IntKind.bits] at this; omega
    · have := hr2; simp [Lit.wf] at this; omega
  rcases DataW.trod_slice Try.underlying22 f5 with ⟨h5, rfl⟩ | ⟨a, len, cap, elems, rest, n', rfl, h5, rfl, _, hl, _, hlen5, hel, _, _⟩
  · simp only [List.cons.injEq, and_true] at h5
    subst h5
    exact ⟨.mk kind N F s keys [], RepGV.close (l := []) (okk (by simp)) hkc (Nat.zero_le _) hkr RowOf.nil⟩
  · simp only [List.cons.injEq, and_true] at h5
    subst h5
    have hb : Try.prog.bytesOf 29 = 88 := by kernel_rfl
    simp only [DataW.weights, Try.underlying22, List.length_map, hb, hlen5] at w5
    have hw1 : (len + rest.length) * 88 ≤ 140737488351232 := w5 _ (List.mem_cons_self ..)
    have hw2 : Light (DataW.weightsAll Try.prog 29 (elems.map (·.1))) := fun x hx => w5 x (List.mem_cons_of_mem _ (List.mem_append_left _ hx))
    have key : ∀ j : Nat, ∃ p : GV × List Value, j < len → CellsAt w (a.add (j * 6)) p.2 ∧ RepGV (fun _ => True) w p.1 p.2 := fun j => by
      by_cases hj : j < len
      · have he := hel j hj
        rw [e6] at he
        obtain ⟨y, hy⟩ : ∃ y, elems[j]? = some y := ⟨elems[j]'(by omega), List.getElem?_eq_getElem _⟩
        rw [hy] at he
        obtain ⟨cs', hc, ht⟩ := Option.bind_eq_some_iff.1 he
        obtain ⟨v, hv⟩ := IH n' (by omega) cs' y ht (Light.all hw2 y.1 (List.mem_map.2 ⟨y, List.mem_of_getElem? hy, rfl⟩))
        exact ⟨(v, cs'), fun _ => ⟨cells_at hc, hv⟩⟩
      · exact ⟨(.mk 0 0 0 ⟨#[]⟩ [] [], []), fun h => absurd h hj⟩
    let G : Nat → GV × List Value := fun j => Classical.choose (key j)
    have hG : ∀ j, j < len → CellsAt w (a.add (j * 6)) (G j).2 ∧ RepGV (fun _ => True) w (G j).1 (G j).2 := fun j hj => Classical.choose_spec (key j) hj
    have hlenl : ((List.range len).map fun j => (G j).1).length = len := by simp
    refine ⟨.mk kind N F s keys ((List.range len).map fun j => (G j).1), ?_⟩
    have := RepGV.close (S := fun _ => True) (w := w) (la := some a) (lc := cap) (okk (l := (List.range len).map fun j => (G j).1) (by rw [hlenl]; omega)) hkc (by rw [hlenl]; exact hl) hkr (fun j x hj => by
      rw [List.getElem?_map] at hj
      obtain ⟨i, hi, rfl⟩ := Option.map_eq_some_iff.1 hj
      obtain ⟨hlt, rfl⟩ := List.getElem?_eq_some_iff.1 hi
      simp only [List.length_range] at hlt
      simp only [List.getElem_range]
      exact ⟨a, (G j).2, rfl, trivial, (hG j hlt).2, (hG j hlt).2.length, (hG j hlt).1⟩)
    rw [hlenl] at this
    exact this
end
end Go.Smd
end
section
set_option linter.unusedSimpArgs false
namespace Go.Smd
open Go.RowKit Go.Proofs Go.ChangeShapes Go.WideShapes Go.Deep
section
variable {H : Type} {enc : TypeId × Value → H} {w : World} {held : Bool} {P : Program}
variable (enc w held P) in
def OpensAt {α : Type} (n : Nat) (T : TypeId) (E : α → List D) : Prop := ∀ (m : Nat), m ≤ n → ∀ (cs : List Value) (x : DataW H × List MemPlace), DataW.trod enc P w 0 (fun _ => true) held m T cs = some x → Light (x.1.weights P T) →
  ∃ a, All2 (RepD P w (fun _ => True)) (E a) cs
theorem opens_val {n : Nat} : OpensAt enc w held Try.prog n 29 gvD := fun m _ cs x h hw => by
  obtain ⟨g, hg⟩ := open_val m cs x h hw
  exact ⟨g, repGV_rep hg⟩
theorem cls_all2' {S : Nat → Prop} {β : Nat → Value} {h : Nat → Option Ow} {xs : List D} {us : List Value} (k : All2 (RepD P w S) xs us) : All2 (RepC P S β h w) (cls xs) us := by
  induction k with
  | nil => exact .nil
  | cons k t ih => exact .cons k ih
theorem open_agg {α : Type} {T : TypeId} {E : α → List D} {v : Value} {d : DataW H} {p : List MemPlace} (hd : DataW.Trod enc P w 0 (fun _ => true) held T v d p) (hw : Light (d.weights P T)) (h : ∀ n, OpensAt enc w held P n T E) (h2 : ∀ a, (E a).length ≠ 1) :
    ∃ a, RepA P (fun _ => True) noB noH w (.agg (cls (E a))) v := by
  obtain ⟨fuel, hd⟩ := hd
  obtain ⟨a, ha⟩ := h fuel fuel (Nat.le_refl _) _ _ hd hw
  have hl := ha.length
  refine ⟨a, v.cells.toList, ?_, cls_all2' ha⟩
  cases v with
  | agg cs => simp [Value.cells]
  | _ => simp [Value.cells] at hl; exact absurd hl (h2 a)
end
end Go.Smd
end
section
namespace Go.Proofs.Ytannholebjdckaa
open Go.Smd Go.RowKit Go.Proofs Go.ChangeShapes Go.WideShapes Go.ChangeAt
set_option maxRecDepth 100000 in
theorem mapAny_lifted (os : Os) (started : os.Started) (H : Type) (enc : TypeId × Value → H) :
    ReturnsInHanded {} Try.checked os 5 .any (Rows.fnMapFieldsInAnyOrderSpec.pre6 enc Try.prog Try.f5 Rows.fnMapFieldsInAnyOrderRow.domain false) (Rows.fnMapFieldsInAnyOrderSpec.post enc Try.prog Try.f5 false true false false) := by
  refine law_lift Try.func5 rfl rfl (by decide +kernel) (by kernel_rfl) started (fun ds h => ?_)
    (ChangeSpec.witness6 (enc := enc) (C := Try.checked) false ⟨#[], #[.agg #[.int .i64 0, .int .i64 0, .float .f64 0, .string ⟨#[]⟩, .slice none 0 0, .slice none 0 0], .int .i64 0], []⟩ 8 (by kernel_rfl) (by kernel_rfl) (by kernel_rfl) (by kernel_rfl)) ?_
  · match ds, h with
    | [d1, d2], _ => rfl
  · intro W args ds p hA hw hval
    obtain ⟨_, hval⟩ := hval
    rw [Try.params5] at hA hw hval
    obtain ⟨v1, vs1, d1, ds1, p1, q1, e1, rfl, rfl, t1, hA⟩ := trodAll_cons hA
    obtain ⟨v2, vs2, d2, ds2, p2, q2, rfl, rfl, rfl, t2, hA⟩ := trodAll_cons hA
    obtain ⟨rfl, rfl, rfl⟩ := trodAll_nil hA
    have ea : args = #[v1, v2] := by rw [← Array.toArray_toList (xs := args), e1]
    subst ea
    simp only [DataW.weightsEach] at hw
    have hw : Light (DataW.weights Try.prog 29 d1 ++ (DataW.weights Try.prog 3 d2 ++ [])) := hw
    have w1 := hw.append.1
    obtain ⟨n, rfl, -, -, hr0⟩ := open_int Try.underlying3 (hval 1 3 v2 rfl rfl) t2
    obtain ⟨a, ra⟩ := open_agg t1 w1 (fun n => opens_val) (fun g => by simp)
    exact law_walk (fnMapAny_a a n) (.cons ra (.cons (RepD.v (by have := hr0; simp [Lit.wf, IntKind.min, IntKind.max, IntKind.signed, IntKind.bits] at this; simp [okVb, okInt]; omega)) .nil))
theorem mapAny_holds : Rows.FnMapFieldsInAnyOrderSaid :=
  OpenClaim.holds_of_wide 5 Try.f5 rfl rfl rfl rfl rfl rfl rfl ⟨rfl, rfl, rfl, rfl, rfl⟩ rfl rfl rfl rfl rfl (by kernel_rfl) Try.func5 (by kernel_rfl)
    (of_decide_eq_true (by kernel_rfl)) (by unfold Func.isWrapper; first | (rw [if_pos (by decide +kernel)]; kernel_rfl) | (rw [if_neg (by decide +kernel)]; exact ⟨rfl, rfl⟩))
    (fun os started H enc _ => mapAny_lifted os started H enc)
end Go.Proofs.Ytannholebjdckaa
end
#print axioms Go.Proofs.Ytannholebjdckaa.mapAny_holds
