/- A law's statement from its walk: the call makes true, and all that was there is as it was. -/
import Derived.Test.YtphldfnnjoehpaaRows
import Derived.Test.YtphldfnnjoehpaaBase
import Derived.ProofKit
set_option linter.unusedSimpArgs false
namespace Go.Smd
open Go.RowKit Go.Proofs Go.ChangeShapes Go.WideShapes Go.ChangeAt

theorem own_knob : ownKnob Try.prog.godebug = none := by kernel_rfl
theorem laid_out : laidOutB Try.prog = true := by kernel_rfl

section
variable {H : Type} {enc : TypeId × Value → H}
theorem trodAll_below {W W' : World} (hb : Below W.heap.size W W') : ∀ {ts : List TypeId} {vs : List Value} {ds : List (DataW H)} {ps : List MemPlace},
    (∀ t ∈ ts, Try.prog.readableRec t = true ∧ t < Try.prog.types.size) → DataW.TrodAll enc Try.prog W 0 (fun _ => true) true ts vs ds ps → (∀ x ∈ ps, x.block < W.heap.size) →
    DataW.TrodAll enc Try.prog W' 0 (fun b => decide (b < W.heap.size)) true ts vs ds ps
  | [], vs, ds, ps, _, h, _ => by
    match vs, ds, h with
    | [], [], h => exact h
  | t :: ts, vs, ds, ps, hr, h, hlt => by
    match vs, ds, h with
    | v :: vs, d :: ds, ⟨p, q, h1, h2, e⟩ =>
      subst e
      exact ⟨p, q, Below.trod laid_out (hr t (List.mem_cons_self ..)).1 (hr t (List.mem_cons_self ..)).2 h1 hb fun x hx => hlt x (List.mem_append_left _ hx),
        trodAll_below hb (fun t ht => hr t (List.mem_cons_of_mem _ ht)) h2 fun x hx => hlt x (List.mem_append_right _ hx), rfl⟩

theorem law_post {fn : Func} {s : ChangeSpec} {W W' : World} {args : Array Value} {ds gs : List (DataW H)} {before : List MemPlace} (hv : s.vars = []) (hr : fn.resultTypes = #[4])
    (hp : ∀ t ∈ fn.params.toList, Try.prog.readableRec t = true ∧ t < Try.prog.types.size)
    (hW : DataW.Whole enc Try.prog fn.params.toList s.vars false W args.toList ds gs before) (hs : s.fn H ds = { results := [.lit (.bool true)], args := ds }) (hE : Ext W W') :
    s.post enc Try.prog fn false true false false W args (.bool true) W' := by
  have hlt : ∀ p ∈ before, p.block < W.heap.size := fun p hp => hW.lt p hp
  have hW' := hW
  obtain ⟨p, q, hA, hV, rfl, hfz, hnd⟩ := hW
  rw [hv] at hV
  obtain ⟨rfl, rfl⟩ := trodVars_none hV
  have hA' := trodAll_below hE hp hA fun x hx => hlt x (by simpa using hx)
  refine ⟨ds, [], p ++ [], [], p, [], hW', ?_, ?_, ?_, ?_, fun h => by cases h⟩
  · rw [hr, List.append_nil, hs]
    exact trodAll_mk1 (shut_bool Try.underlying4 true)
  · rw [List.append_nil, hs]; exact hA'
  · rw [hv, List.append_nil, hs]; rfl
  · exact World.keptBut_mono (fun x hx => hx) (Below.frame hE _)
end

set_option maxRecDepth 100000 in
/-- A law's row from its walk. -/
theorem law_lift {fn : Func} {f : FuncId} {s : ChangeSpec} (hfn : Try.prog.funcs[f]? = some fn) (hv : s.vars = []) (hr : fn.resultTypes = #[4])
    (hp : ∀ t ∈ fn.params.toList, Try.prog.readableRec t = true ∧ t < Try.prog.types.size) (hi : Try.prog.inits.idxOf? f = none)
    {os : Os} (started : os.Started) {H : Type} {enc : TypeId × Value → H}
    (hs : ∀ ds : List (DataW H), ds.length = fn.params.size → s.fn H ds = { results := [.lit (.bool true)], args := ds })
    (witness : ∃ (w : World) (tape : Tape) (i : Input), w.os = os ∧ (w.forCall tape i).Shaped Try.prog ∧ i.vars = [] ∧ Input.okWide Try.prog (w.forCall tape i) .any w.heap.size f i ∧
      s.pre6 enc Try.prog fn [] false (w.forCall tape i).memory i.args ∧ ({} : Assume).holds Try.prog (lone (Frame.enter Try.prog f i.args .normal) [] (w.forCall tape i)))
    (walk : ∀ (W : World) (args : Array Value) (ds : List (DataW H)) (p : List MemPlace), DataW.TrodAll enc Try.prog W 0 (fun _ => true) true fn.params.toList args.toList ds p →
      (∀ x ∈ DataW.weightsEach Try.prog fn.params.toList ds, x ≤ 140737488351232) →
      (∃ base : Nat, ∀ (j : Nat) t v, fn.params[j]? = some t → args[j]? = some v → Value.okWide Try.prog W .any base t v) → Calls Try.prog f args W (Makes (fun _ u => u = .bool true) W)) :
    ReturnsInHanded {} Try.checked os f .any (s.pre6 enc Try.prog fn [] false) (s.post enc Try.prog fn false true false false) := by
  refine returnsInHanded_of_change_sized (C := Try.checked) own_knob started hi hfn witness ?_
  intro W base args ds gs before hval hW _ hweights _
  have hW' := hW
  obtain ⟨p, q, hA, hV, rfl, hfz, hnd⟩ := hW
  rw [hv] at hV
  obtain ⟨rfl, rfl⟩ := trodVars_none hV
  have hlen : ds.length = fn.params.size := by
    have : ∀ {ts : List TypeId} {vs : List Value} {ds : List (DataW H)} {ps : List MemPlace}, DataW.TrodAll enc Try.prog W 0 (fun _ => true) true ts vs ds ps → ds.length = ts.length := by
      intro ts
      induction ts with
      | nil => intro vs ds ps h; match vs, ds, h with | [], [], _ => rfl
      | cons t ts ih => intro vs ds ps h; match vs, ds, h with | v :: vs, d :: ds, ⟨_, _, _, h2, _⟩ => simp [ih h2]
    simpa using this hA
  refine (walk W args ds p hA (fun x hx => ?_) ⟨base, hval⟩).mono fun e W' h => ?_
  · have e : s.plain.varTypes Try.prog = [] := by simp [DataSpec.varTypes, ChangeSpec.plain, hv]
    have hw : (DataW.weightsEach Try.prog (fn.params.toList ++ s.plain.varTypes Try.prog) (ds ++ [])).all (· ≤ reachBytes) = true := hweights
    rw [e, List.append_nil, List.append_nil, List.all_eq_true] at hw
    exact of_decide_eq_true (hw x hx)
  · obtain ⟨v, rfl, rfl, hE⟩ := h
    exact ⟨_, rfl, law_post hv hr hp hW' (hs ds hlen) hE⟩
end Go.Smd
