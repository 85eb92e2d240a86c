/- The law FnElemSetSizes holds of every two lists of elements: the sizes of union, intersection and difference of their sets. -/
import Derived.Test.YtannholebjdckaaGreatRows
import Derived.Test.YtannholebjdckaaGreatQZ01
import Derived.ProofKit
import Derived.Test.YtannholebjdckaaGreatQZ22
import Derived.Test.YtannholebjdckaaGreatQZ33
import Derived.Test.YtannholebjdckaaGreatQZ24
set_option linter.unusedVariables false
section
set_option linter.unusedSimpArgs false
namespace Go.Smd
open Go.RowKit Go.Proofs Go.ChangeShapes Go.WideShapes Go.ChangeAt
theorem own_knob : ownKnob Tryz.prog.godebug = none := by kernel_rfl
theorem laid_out : laidOutB Tryz.prog = true := by kernel_rfl
section
variable {H : Type} {enc : TypeId × Value → H}
theorem trodAll_below {W W' : World} (hb : Below W.heap.size W W') : ∀ {ts : List TypeId} {vs : List Value} {ds : List (DataW H)} {ps : List MemPlace},
    (∀ t ∈ ts, Tryz.prog.readableRec t = true ∧ t < Tryz.prog.types.size) → DataW.TrodAll enc Tryz.prog W 0 (fun _ => true) true ts vs ds ps → (∀ x ∈ ps, x.block < W.heap.size) →
    DataW.TrodAll enc Tryz.prog W' 0 (fun b => decide (b < W.heap.size)) true ts vs ds ps
  | [], vs, ds, ps, _, h, _ => by
    match vs, ds, h with
    | [], [], h => exact h
  | t :: ts, vs, ds, ps, hr, h, hlt => by
    match vs, ds, h with
    | v :: vs, d :: ds, ⟨p, q, h1, h2, e⟩ =>
      subst e
      exact ⟨p, q, Below.trod laid_out (hr t (List.mem_cons_self ..)).1 (hr t (List.mem_cons_self ..)).2 h1 hb fun x hx => hlt x (List.mem_append_left _ hx),
        trodAll_below hb (fun t ht => hr t (List.mem_cons_of_mem _ ht)) h2 fun x hx => hlt x (List.mem_append_right _ hx), rfl⟩
theorem law_post {fn : Func} {s : ChangeSpec} {W W' : World} {args : Array Value} {ds gs : List (DataW H)} {before : List MemPlace} (hv : s.vars = []) (hr : fn.resultTypes = #[4])
    (hp : ∀ t ∈ fn.params.toList, Tryz.prog.readableRec t = true ∧ t < Tryz.prog.types.size)
    (hW : DataW.Whole enc Tryz.prog fn.params.toList s.vars false W args.toList ds gs before) (hs : s.fn H ds = { results := [.lit (.bool true)], args := ds }) (hE : Ext W W') :
    s.post enc Tryz.prog fn false true false false W args (.bool true) W' := by
  have hlt : ∀ p ∈ before, p.block < W.heap.size := fun p hp => hW.lt p hp
  have hW' := hW
  obtain ⟨p, q, hA, hV, rfl, hfz, hnd⟩ := hW
  rw [hv] at hV
  obtain ⟨rfl, rfl⟩ := trodVars_none hV
  have hA' := trodAll_below hE hp hA fun x hx => hlt x (by simpa using hx)
  refine ⟨ds, [], p ++ [], [], p, [], hW', ?_, ?_, ?_, ?_, fun h => by cases h⟩
  · rw [hr, List.append_nil, hs]
    exact trodAll_mk1 (shut_bool Tryz.underlying4 true)
  · rw [List.append_nil, hs]; exact hA'
  · rw [hv, List.append_nil, hs]; rfl
  · exact World.keptBut_mono (fun x hx => hx) (Below.frame hE _)
end
set_option maxRecDepth 100000 in
theorem law_lift {fn : Func} {f : FuncId} {s : ChangeSpec} (hfn : Tryz.prog.funcs[f]? = some fn) (hv : s.vars = []) (hr : fn.resultTypes = #[4])
    (hp : ∀ t ∈ fn.params.toList, Tryz.prog.readableRec t = true ∧ t < Tryz.prog.types.size) (hi : Tryz.prog.inits.idxOf? f = none)
    {os : Os} (started : os.Started) {H : Type} {enc : TypeId × Value → H}
    (hs : ∀ ds : List (DataW H), ds.length = fn.params.size → s.fn H ds = { results := [.lit (.bool true)], args := ds })
    (witness : ∃ (w : World) (tape : Tape) (i : Input), w.os = os ∧ (w.forCall tape i).Shaped Tryz.prog ∧ i.vars = [] ∧ Input.okWide Tryz.prog (w.forCall tape i) .any w.heap.size f i ∧
      s.pre6 enc Tryz.prog fn [] false (w.forCall tape i).memory i.args ∧ ({} : Assume).holds Tryz.prog (lone (Frame.enter Tryz.prog f i.args .normal) [] (w.forCall tape i)))
    (walk : ∀ (W : World) (args : Array Value) (ds : List (DataW H)) (p : List MemPlace), DataW.TrodAll enc Tryz.prog W 0 (fun _ => true) true fn.params.toList args.toList ds p →
      (∀ x ∈ DataW.weightsEach Tryz.prog fn.params.toList ds, x ≤ 140737488351232) →
      (∃ base : Nat, ∀ (j : Nat) t v, fn.params[j]? = some t → args[j]? = some v → Value.okWide Tryz.prog W .any base t v) → Calls Tryz.prog f args W (Makes (fun _ u => u = .bool true) W)) :
    ReturnsInHanded {} Tryz.checked os f .any (s.pre6 enc Tryz.prog fn [] false) (s.post enc Tryz.prog fn false true false false) := by
  refine returnsInHanded_of_change_sized (C := Tryz.checked) own_knob started hi hfn witness ?_
  intro W base args ds gs before hval hW _ hweights _
  have hW' := hW
  obtain ⟨p, q, hA, hV, rfl, hfz, hnd⟩ := hW
  rw [hv] at hV
  obtain ⟨rfl, rfl⟩ := trodVars_none hV
  have hlen : ds.length = fn.params.size := by
    have : ∀ {ts : List TypeId} {vs : List Value} {ds : List (DataW H)} {ps : List MemPlace}, DataW.TrodAll enc Tryz.prog W 0 (fun _ => true) true ts vs ds ps → ds.length = ts.length := by
      intro ts
      induction ts with
      | nil => intro vs ds ps h; match vs, ds, h with | [], [], _ => rfl
      | cons t ts ih => intro vs ds ps h; match vs, ds, h with | v :: vs, d :: ds, ⟨_, _, _, h2, _⟩ => simp [ih h2]
    simpa using this hA
  refine (walk W args ds p hA (fun x hx => ?_) ⟨base, hval⟩).mono fun e W' h => ?_
  · have e : s.plain.varTypes Tryz.prog = [] := by simp [DataSpec.varTypes, ChangeSpec.plain, hv]
    have hw : (DataW.weightsEach Tryz.prog (fn.params.toList ++ s.plain.varTypes Tryz.prog) (ds ++ [])).all (· ≤ reachBytes) = true := hweights
    rw [e, List.append_nil, List.append_nil, List.all_eq_true] at hw
    exact of_decide_eq_true (hw x hx)
  · obtain ⟨v, rfl, rfl, hE⟩ := h
    exact ⟨_, rfl, law_post hv hr hp hW' (hs ds hlen) hE⟩
end Go.Smd
end
section
set_option linter.unusedSimpArgs false
namespace Go.Smd
open Go.RowKit Go.Proofs Go.ChangeShapes Go.WideShapes Go.Deep
section
variable {H : Type} {enc : TypeId × Value → H} {w : World} {held : Bool} {P : Program}
variable (enc w held P) in
def OpensAt {α : Type} (n : Nat) (T : TypeId) (E : α → List D) : Prop := ∀ (m : Nat), m ≤ n → ∀ (cs : List Value) (x : DataW H × List MemPlace), DataW.trod enc P w 0 (fun _ => true) held m T cs = some x → Light (x.1.weights P T) →
  ∃ a, All2 (RepD P w (fun _ => True)) (E a) cs
theorem OpensAt.le {α : Type} {n m : Nat} {T : TypeId} {E : α → List D} (h : OpensAt enc w held P n T E) (hm : m ≤ n) : OpensAt enc w held P m T E := fun k hk => h k (Nat.le_trans hk hm)
theorem opens_str {n : Nat} {T : TypeId} (ht : P.underlying T = some .string) : OpensAt enc w held P n T fun s : ByteArray => [.v (.string s)] := fun m _ cs x h hw => by
  obtain ⟨s, h1, h2, _⟩ := DataW.trod_string ht h
  subst h1; subst h2
  refine ⟨s, .cons (.v ?_) .nil⟩
  simp only [DataW.weights] at hw
  have := hw _ (List.mem_singleton_self _)
  simp only [okVb, decide_eq_true_eq]
  rw [ByteArray.size, Array.size_eq_length_toList]; exact this
theorem opens_int {n : Nat} {T : TypeId} {k : IntKind} (ht : P.underlying T = some (.int k)) : OpensAt enc w held P n T fun i : Int => [.v (.int k i)] := fun m _ cs x h hw => by
  obtain ⟨i, h1, h2, h3⟩ := DataW.trod_int ht h
  subst h1
  refine ⟨i, .cons (.v ?_) .nil⟩
  simp only [okVb]
  cases k <;> simp [okInt, Lit.wf, IntKind.min, IntKind.max, IntKind.signed, IntKind.bits] at h3 ⊢ <;> omega
theorem opens_slice {α : Type} [Inhabited α] {n : Nat} {T E : TypeId} {e : α → List D} (ht : P.underlying T = some (.slice E)) (hl : ∀ a, (e a).length = P.cellsOf E) (h : ∀ m, m < n → OpensAt enc w held P m E e) :
    OpensAt enc w held P n T fun l : List α => [.sl E (l.map e)] := fun m hm cs x hx hw => by
  rcases DataW.trod_slice ht hx with ⟨rfl, rfl⟩ | ⟨a, len, cap, elems, rest, n', rfl, rfl, rfl, _, hle, _, hlen, hel, _, _⟩
  · exact ⟨[], .cons (RepD.nil E) .nil⟩
  · simp only [DataW.weights, ht, List.length_map, hlen] at hw
    have hw1 : (len + rest.length) * P.bytesOf E ≤ 140737488351232 := hw _ (List.mem_cons_self ..)
    have hw2 : Light (DataW.weightsAll P E (elems.map (·.1))) := fun x hx => hw x (List.mem_cons_of_mem _ (List.mem_append_left _ hx))
    have key : ∀ j : Nat, ∃ p : α × List Value, j < len → CellsAt w (a.add (j * P.cellsOf E)) p.2 ∧ All2 (RepD P w (fun _ => True)) (e p.1) p.2 := fun j => by
      by_cases hj : j < len
      · have he := hel j hj
        obtain ⟨y, hy⟩ : ∃ y, elems[j]? = some y := ⟨elems[j]'(by omega), List.getElem?_eq_getElem _⟩
        rw [hy] at he
        obtain ⟨cs', hc, ht'⟩ := Option.bind_eq_some_iff.1 he
        obtain ⟨v, hv⟩ := h n' (by omega) n' (Nat.le_refl _) cs' y ht' (Light.all hw2 y.1 (List.mem_map.2 ⟨y, List.mem_of_getElem? hy, rfl⟩))
        exact ⟨(v, cs'), fun _ => ⟨cells_at hc, hv⟩⟩
      · exact ⟨(default, []), fun h => absurd h hj⟩
    let G : Nat → α × List Value := fun j => Classical.choose (key j)
    have hG : ∀ j, j < len → CellsAt w (a.add (j * P.cellsOf E)) (G j).2 ∧ All2 (RepD P w (fun _ => True)) (e (G j).1) (G j).2 := fun j hj => Classical.choose_spec (key j) hj
    refine ⟨(List.range len).map fun j => (G j).1, .cons (RepD.sl_iff.2 ⟨some a, cap, by simp, by simpa using hle, by
      have := Nat.mul_le_mul_right (P.bytesOf E) (Nat.le_add_right len rest.length)
      simp; omega, fun j r hj => ?_⟩) .nil⟩
    rw [List.getElem?_map] at hj
    obtain ⟨y, hy, rfl⟩ := Option.map_eq_some_iff.1 hj
    rw [List.getElem?_map] at hy
    obtain ⟨i, hi, rfl⟩ := Option.map_eq_some_iff.1 hy
    obtain ⟨hlt, rfl⟩ := List.getElem?_eq_some_iff.1 hi
    simp only [List.length_range] at hlt
    simp only [List.getElem_range]
    refine ⟨hl _, fun _ => ⟨a, rfl, fun i d hd => ?_⟩⟩
    obtain ⟨hc, hr⟩ := hG j hlt
    obtain ⟨u, hu, hd'⟩ := hr.at hd
    exact ⟨u, trivial, hc i u hu, hd'⟩
theorem opens_val {n : Nat} : OpensAt enc w held Tryz.prog n 31 gvD := fun m _ cs x h hw => by
  obtain ⟨g, hg⟩ := open_val m cs x h hw
  exact ⟨g, repGV_rep hg⟩
theorem open_one {α : Type} {T : TypeId} {E : α → List D} {v : Value} {d : DataW H} {p : List MemPlace} (hd : DataW.Trod enc P w 0 (fun _ => true) held T v d p) (hw : Light (d.weights P T)) (h : ∀ n, OpensAt enc w held P n T E) (h1 : ∀ a, ∃ x, E a = [x]) (hv : ∀ cs, v ≠ .agg cs) :
    ∃ a x, E a = [x] ∧ RepA P (fun _ => True) noB noH w (.c (.d x)) v := by
  obtain ⟨fuel, hd⟩ := hd
  obtain ⟨a, ha⟩ := h fuel fuel (Nat.le_refl _) _ _ hd hw
  obtain ⟨x, hx⟩ := h1 a
  rw [hx] at ha
  refine ⟨a, x, hx, ?_⟩
  cases v with
  | agg cs =>
    exact absurd rfl (hv cs)
  | _ =>
    simp only [Value.cells] at ha
    cases ha with
    | cons h t => exact h
end
end Go.Smd
end
section
set_option linter.unusedSimpArgs false
namespace Go.Smd
open Go.RowKit Go.Proofs Go.ChangeShapes Go.WideShapes Go.Deep
section
variable {H : Type} {enc : TypeId × Value → H} {w : World} {held : Bool} {P : Program}
variable (enc w held P) in
inductive FieldsAt (n : Nat) : Nat → List TypeId → (List D → Prop) → Prop
  | nil {o : Nat} : FieldsAt n o [] fun ds => ds = []
  | cons {o : Nat} {T : TypeId} {Ts : List TypeId} {α : Type} {E : α → List D} {Q : List D → Prop} (h : OpensAt enc w held P n T E) (t : FieldsAt n (o + P.cellsOf T) Ts Q) : FieldsAt n o (T :: Ts) fun ds => ∃ a rest, ds = E a ++ rest ∧ Q rest
theorem fieldsAt_open {n : Nat} {cs : List Value} : ∀ {o : Nat} {Ts : List TypeId} {Q : List D → Prop} {xs : List (DataW H × List MemPlace)}, FieldsAt enc w held P n o Ts Q → xs.length = Ts.length → cs.length = o + (Ts.map P.cellsOf).sum →
    (∀ (i : Nat) (T : TypeId) (x : DataW H × List MemPlace) (off : Nat), Ts[i]? = some T → xs[i]? = some x → off = o + ((Ts.take i).map P.cellsOf).sum → DataW.trod enc P w 0 (fun _ => true) held n T ((cs.drop off).take (P.cellsOf T)) = some x ∧ Light (x.1.weights P T)) →
    ∃ ds, Q ds ∧ All2 (RepD P w (fun _ => True)) ds (cs.drop o)
  | o, [], _, xs, .nil, _, hc, _ => ⟨[], rfl, by rw [List.drop_eq_nil_of_le (by simp at hc; omega)]; exact .nil⟩
  | o, T :: Ts, _, x :: xs, .cons h t, hl, hc, hf => by
    obtain ⟨h1, h2⟩ := hf 0 T x o rfl rfl (by simp)
    obtain ⟨a, ha⟩ := h n (Nat.le_refl _) _ _ h1 h2
    simp only [List.map_cons, List.sum_cons] at hc
    obtain ⟨ds, hq, hd⟩ := fieldsAt_open (cs := cs) (xs := xs) t (by simpa using hl) (by omega) fun i T' x' off hT hx hoff => hf (i + 1) T' x' off (by simpa using hT) (by simpa using hx) (by simp only [List.take_succ_cons, List.map_cons, List.sum_cons]; omega)
    refine ⟨_, ⟨a, ds, rfl, hq⟩, ?_⟩
    have e : cs.drop o = (cs.drop o).take (P.cellsOf T) ++ cs.drop (o + P.cellsOf T) := by
      rw [← List.drop_drop, List.take_append_drop]
    rw [e]
    exact ha.append hd
theorem light_each : ∀ {Ts : List TypeId} {ds : List (DataW H)}, Light (DataW.weightsEach P Ts ds) → ∀ (i : Nat) (T : TypeId) (d : DataW H), Ts[i]? = some T → ds[i]? = some d → Light (d.weights P T)
  | [], _, _, i, T, d, hT, _ => by simp at hT
  | _ :: _, [], _, i, T, d, _, hd => by simp at hd
  | T0 :: Ts, d0 :: ds, h, i, T, d, hT, hd => by
    simp only [DataW.weightsEach] at h
    cases i with
    | zero => simp at hT hd; subst hT; subst hd; exact h.append.1
    | succ i => exact light_each h.append.2 i T d (by simpa using hT) (by simpa using hd)
theorem opens_struct {α : Type} {n : Nat} {T : TypeId} {fs : Array Field} {Q : List D → Prop} {E : α → List D} (ht : P.underlying T = some (.struct fs))
    (hoff : (List.range fs.size).all (fun i => match fs[i]? with | some f => f.offset == ((fs.toList.map (·.type)).take i |>.map P.cellsOf).sum | none => false) = true) (hc : P.cellsOf T = ((fs.toList.map (·.type)).map P.cellsOf).sum)
    (hE : ∀ ds, Q ds → ∃ a, ds = E a) (h : ∀ m, m < n → FieldsAt enc w held P m 0 (fs.toList.map (·.type)) Q) : OpensAt enc w held P n T E := fun m hm cs x hx hw => by
  obtain ⟨xs, k, rfl, rfl, hlen, hxl, hf⟩ := DataW.trod_struct ht hx
  simp only [DataW.weights, ht] at hw
  obtain ⟨ds, hq, hd⟩ := fieldsAt_open (cs := cs) (xs := xs) (h k (by omega)) (by simp [hxl]) (by rw [hlen, hc]; omega) fun i T' x' off hT hx' hoff' => by
    rw [List.getElem?_map] at hT
    obtain ⟨f, hfi, rfl⟩ := Option.map_eq_some_iff.1 hT
    have hfi' : fs[i]? = some f := by simpa using hfi
    have ho := List.all_eq_true.1 hoff i (List.mem_range.2 (Array.getElem?_eq_some_iff.1 hfi').1)
    rw [hfi'] at ho
    simp only [beq_iff_eq] at ho
    have := hf i f hfi'
    rw [hx'] at this
    refine ⟨by rw [hoff', Nat.zero_add, ← ho]; exact this, light_each hw i f.type x'.1 (by rw [List.getElem?_map]; exact hT) (by rw [List.getElem?_map, hx']; rfl)⟩
  obtain ⟨a, rfl⟩ := hE ds hq
  exact ⟨a, by simpa using hd⟩
end
end Go.Smd
end
section
namespace Go.Smd
open Go.RowKit Go.Proofs Go.ChangeShapes Go.WideShapes Go.Deep
instance : Inhabited GV := ⟨.mk 0 0 0 ⟨#[]⟩ [] []⟩
instance : Inhabited EV := ⟨⟨0, ⟨#[]⟩, [], [], default, 0⟩⟩
def structFs (P : Program) (T : TypeId) : Array Field := match P.underlying T with | some (.struct fs) => fs | _ => #[]
theorem opens_elem {H : Type} {enc : TypeId × Value → H} {w : World} {held : Bool} {n : Nat} : OpensAt enc w held Tryz.prog n 33 evD := by
  have hf : ∀ m, m < n → FieldsAt enc w held Tryz.prog m 0 [3, 9, 28, 27, 31, 3] _ := fun m _ =>
    .cons (opens_int (k := .i64) (by kernel_rfl)) (.cons (opens_str (by kernel_rfl)) (.cons (opens_slice (E := 9) (e := fun s : ByteArray => [dS s]) (by kernel_rfl) (fun _ => by kernel_rfl) fun _ _ => opens_str (by kernel_rfl)) (.cons (opens_slice (E := 31) (e := gvD) (by kernel_rfl) (fun _ => by simp) fun _ _ => opens_val) (.cons opens_val (.cons (opens_int (k := .i64) (by kernel_rfl)) .nil)))))
  have hT : [3, 9, 28, 27, 31, 3] = (structFs Tryz.prog 33).toList.map (·.type) := by kernel_rfl
  rw [hT] at hf
  refine opens_struct (fs := structFs Tryz.prog 33) (by kernel_rfl) (by kernel_rfl) (by kernel_rfl) ?_ hf
  · rintro ds ⟨k, _, rfl, s, _, rfl, keys, _, rfl, l, _, rfl, v, _, rfl, n, _, rfl, rfl⟩
    exact ⟨⟨k, s, keys, l, v, n⟩, by simp [evD, rowS]⟩
end Go.Smd
end
section
set_option linter.unusedSimpArgs false
set_option maxRecDepth 100000
set_option maxHeartbeats 8000000
namespace Go.Smd
open Go.RowKit Go.Proofs
theorem setEq_a (a b : List EV) (la : a.length * 168 ≤ 140737488351232) (lb : b.length * 168 ≤ 140737488351232) (ha : ∀ e ∈ a, GoodE e) (hb : ∀ e ∈ b, GoodE e) (h : mkE a = mkE b) :
    ACalls Tryz.prog 44 [.c (.d (dPath a)), .c (.d (dPath b))] (fun r => r = aV (.bool true)) := by
  have c1 := toEs_a a la ha
  have c2 := toEs_a b lb hb
  have e : esOf a = esOf b := by unfold esOf; rw [h]
  rw [e] at c1
  have l2 := esOf_len hb
  have f2 := esOf_fits hb
  have c3 := esEquals_a (esOf b) (esOf b) (by omega) (by omega) (fun x h => (f2 x h).1) (fun x h => (f2 x h).1) rfl (fun k h _ => by
    obtain ⟨y, hy, hye⟩ := List.mem_map.1 (show (esOf b)[k] ∈ (mkE b).map toLE from List.getElem_mem h)
    rw [← hye]
    exact eqLE_self y (mkE_good hb y hy))
  generalize esOf b = B at *
  refine acalls_ex [] Tryz.func44 (by kernel_rfl) rfl Tryz.ntmps44 Tryz.results44 (Nat.le_of_ble_eq_true (by kernel_rfl)) ?_; intro hok w0 S0
  clear hok
  (repeat' (first | (with_reducible refine br_d (fun _ => ?_) (fun _ => ?_)) | (with_reducible refine br_i (fun _ => ?_) (fun _ => ?_)) | (with_reducible refine nd_v (c1) (by first | rfl | (simp -dsimp; done)) ?_) | (with_reducible refine nw_v (c1) rfl (by first | rfl | (simp -dsimp; done)) (by first | rfl | (simp -dsimp; done)) ?_) | (with_reducible refine nd_v (c2) (by first | rfl | (simp -dsimp; done)) ?_) | (with_reducible refine nw_v (c2) rfl (by first | rfl | (simp -dsimp; done)) (by first | rfl | (simp -dsimp; done)) ?_) | (with_reducible refine nd_v (c3) (by first | rfl | (simp -dsimp; done)) ?_) | (with_reducible refine nw_v (c3) rfl (by first | rfl | (simp -dsimp; done)) (by first | rfl | (simp -dsimp; done)) ?_) | (with_reducible refine dn_i follows_any (by kernel_rfl) ?_) | (with_reducible exact done_eq rfl) | (simp -dsimp))); (all_goals try with_reducible refine done_eq ?_)
theorem fnElemSetSizes_a (a b : List EV) : ACalls Tryz.prog 8 [.c (.d (dPath a)), .c (.d (dPath b))] (fun r => r = aV (.bool true)) := by
  refine acalls_ex [] Tryz.func8 (by kernel_rfl) rfl Tryz.ntmps8 Tryz.results8 (Nat.le_of_ble_eq_true (by kernel_rfl)) ?_; intro hok w0 S0
  have ka := path_ok (hok (.c (.d (dPath a))) (by simp))
  have kb := path_ok (hok (.c (.d (dPath b))) (by simp))
  clear hok
  have b1 : a.length ≤ 9223372036854775807 := by omega
  have b2 : b.length ≤ 9223372036854775807 := by omega
  by_cases la : a.length ≤ 2147483647
  · by_cases lb : b.length ≤ 2147483647
    · have sa : ∀ e ∈ a, EVs e := fun e he => ⟨(ka.2 e he).1, (ka.2 e he).2.2.1⟩
      have sb : ∀ e ∈ b, EVs e := fun e he => ⟨(kb.2 e he).1, (kb.2 e he).2.2.1⟩
      have t1 := tameElems_g a ka.1 sa
      have t2 := tameElems_g b kb.1 sb
      have n1 : ¬ (2147483647 < (a.length : Int)) := by omega
      have n2 : ¬ (2147483647 < (b.length : Int)) := by omega
      (repeat' (first | (with_reducible refine br_d (fun _ => ?_) (fun _ => ?_)) | (with_reducible refine br_i (fun _ => ?_) (fun _ => ?_)) | ((with_reducible refine nd_c (t1) (by first | rfl | (simp -dsimp [b1, b2, n1, n2]; done)) ?_); rintro _ ⟨x, rfl, hx⟩ _) | ((with_reducible refine nw_c (t1) rfl (by first | rfl | (simp -dsimp [b1, b2, n1, n2]; done)) (by first | rfl | (simp -dsimp [b1, b2, n1, n2]; done)) ?_); rintro _ ⟨x, rfl, hx⟩ _) | ((with_reducible refine nd_c (t2) (by first | rfl | (simp -dsimp [b1, b2, n1, n2]; done)) ?_); rintro _ ⟨y, rfl, hy⟩ _) | ((with_reducible refine nw_c (t2) rfl (by first | rfl | (simp -dsimp [b1, b2, n1, n2]; done)) (by first | rfl | (simp -dsimp [b1, b2, n1, n2]; done)) ?_); rintro _ ⟨y, rfl, hy⟩ _) | (with_reducible refine dn_i follows_any (by kernel_rfl) ?_) | (with_reducible exact done_eq rfl) | (simp -dsimp [b1, b2, n1, n2]))); (all_goals try with_reducible refine done_eq ?_)
      have good1 := hx (by simpa using ‹(!x) = false›)
      have good2 := hy (by simpa using ‹(!y) = false›)
      have ga : ∀ e ∈ a, GoodE e := fun e he => ⟨sa e he, (ka.2 e he).2.2.2, good1 e he⟩
      have gb : ∀ e ∈ b, GoodE e := fun e he => ⟨sb e he, (kb.2 e he).2.2.2, good2 e he⟩
      have u1 := setUnion_a a b la lb ga gb
      have u2 := setInt_a a b la lb ga gb
      have u3 := setDif_a a b la lb ga gb
      have z1 := setSize_a a la ga
      have z2 := setSize_a b lb gb
      obtain ⟨p1, p2⟩ := uni_int _ (esOf a) (esOf b) rfl
      have l1 := esOf_len ga
      have l2 := esOf_len gb
      have ka1 := ka.1
      have hw0 : IntKind.wrap .i64 ((a.length : Int) - 1) = (a.length : Int) - 1 := by rw [wrap_i64] <;> omega
      (repeat' (first | (with_reducible refine br_d (fun _ => ?_) (fun _ => ?_)) | (with_reducible refine br_i (fun _ => ?_) (fun _ => ?_)) | (with_reducible refine nd_v (u1) (by first | rfl | (simp -dsimp [b1, b2, ka1, hw0]; done)) ?_) | (with_reducible refine nw_v (u1) rfl (by first | rfl | (simp -dsimp [b1, b2, ka1, hw0]; done)) (by first | rfl | (simp -dsimp [b1, b2, ka1, hw0]; done)) ?_) | (with_reducible refine nd_v (u2) (by first | rfl | (simp -dsimp [b1, b2, ka1, hw0]; done)) ?_) | (with_reducible refine nw_v (u2) rfl (by first | rfl | (simp -dsimp [b1, b2, ka1, hw0]; done)) (by first | rfl | (simp -dsimp [b1, b2, ka1, hw0]; done)) ?_) | (with_reducible refine nd_v (u3) (by first | rfl | (simp -dsimp [b1, b2, ka1, hw0]; done)) ?_) | (with_reducible refine nw_v (u3) rfl (by first | rfl | (simp -dsimp [b1, b2, ka1, hw0]; done)) (by first | rfl | (simp -dsimp [b1, b2, ka1, hw0]; done)) ?_) | (with_reducible refine dn_i follows_any (by kernel_rfl) ?_) | (with_reducible exact done_eq rfl) | (simp -dsimp [b1, b2, ka1, hw0]))); (all_goals try with_reducible refine done_eq ?_)
      refine ex_loop (fun x : Nat × List EV => ⟨[(0, .c (.d (dPath a))), (1, .c (.d (dPath b))), (5, .c (.d (dPath ((uniE (esOf a) (esOf b)).map fromLE)))), (6, .c (.d (dPath ((intE (esOf a) (esOf b)).map fromLE)))), (7, .c (.d (dPath ((difE (esOf a) (esOf b)).map fromLE)))), (8, .c (.gs 35 (1 + (a.length - x.1)))), (9, aI ((x.1 : Int) - 1))], [(35, .arr (1 + (a.length - x.1)) 33 (x.2.map evD))]⟩)
        (fun x => x.1 ≤ a.length ∧ ∃ M, x.2 = a ++ M ∧ M.length + x.1 = a.length ∧ ∀ e ∈ M, e ∈ a) (fun x => x.1) (a.length, a) ?_ ⟨Nat.le_refl _, [], by simp, by simp, by simp⟩ ?_
      · exact Weak.same (by simp -dsimp [Nat.sub_self, Nat.add_zero]) (by simp -dsimp [Nat.sub_self, Nat.add_zero]) (by first | rfl | (simp [closedSt, Av.ids, Ow.ids, Cl.ids, Go.Smd.keys]; done))
      · rintro ⟨k, TW⟩ ⟨hk, M, rfl, hMl, hM⟩ K hK
        dsimp only at hk hMl
        cases k with
        | zero =>
          have hTg : ∀ e ∈ a ++ M, GoodE e := fun e he => ga e ((List.mem_append.1 he).elim id (hM e))
          have hTl : (a ++ M).length * 168 ≤ 140737488351232 := by simp; omega
          have q := setEq_a (a ++ M) a hTl ka1 hTg ga (mkE_again ga M hM)
          have bT : (a ++ M).length ≤ 9223372036854775807 := by omega
          generalize a ++ M = TW at *
          generalize hU : (uniE (esOf a) (esOf b)) = U at *
          generalize hI : (intE (esOf a) (esOf b)) = I at *
          generalize hD : (difE (esOf a) (esOf b)) = D' at *
          have bU : U.length ≤ 9223372036854775807 := by omega
          have bI : I.length ≤ 9223372036854775807 := by omega
          have bD : D'.length ≤ 9223372036854775807 := by omega
          have hq1 : IntKind.wrap .i64 ((U.length : Int) + (I.length : Int)) = ((esOf a).length : Int) + ((esOf b).length : Int) := by rw [wrap_i64] <;> omega
          have hq2 : IntKind.wrap .i64 (((esOf a).length : Int) + ((esOf b).length : Int)) = ((esOf a).length : Int) + ((esOf b).length : Int) := by rw [wrap_i64] <;> omega
          have hq3 : IntKind.wrap .i64 (((esOf a).length : Int) - (I.length : Int)) = (D'.length : Int) := by rw [wrap_i64] <;> omega
          have m1 : ¬ ((0 : Int) ≤ -1) := by omega
          (repeat' (first | (with_reducible refine br_d (fun _ => ?_) (fun _ => ?_)) | (with_reducible refine br_i (fun _ => ?_) (fun _ => ?_)) | (with_reducible refine nd_v (z1) (by first | rfl | (simp -dsimp [b1, b2, m1, bU, bI, bD, bT, hq1, hq2, hq3]; done)) ?_) | (with_reducible refine nw_v (z1) rfl (by first | rfl | (simp -dsimp [b1, b2, m1, bU, bI, bD, bT, hq1, hq2, hq3]; done)) (by first | rfl | (simp -dsimp [b1, b2, m1, bU, bI, bD, bT, hq1, hq2, hq3]; done)) ?_) | (with_reducible refine nd_v (z2) (by first | rfl | (simp -dsimp [b1, b2, m1, bU, bI, bD, bT, hq1, hq2, hq3]; done)) ?_) | (with_reducible refine nw_v (z2) rfl (by first | rfl | (simp -dsimp [b1, b2, m1, bU, bI, bD, bT, hq1, hq2, hq3]; done)) (by first | rfl | (simp -dsimp [b1, b2, m1, bU, bI, bD, bT, hq1, hq2, hq3]; done)) ?_) | (with_reducible refine nd_v (z1) (by first | rfl | (simp -dsimp [b1, b2, m1, bU, bI, bD, bT, hq1, hq2, hq3]; done)) ?_) | (with_reducible refine nw_v (z1) rfl (by first | rfl | (simp -dsimp [b1, b2, m1, bU, bI, bD, bT, hq1, hq2, hq3]; done)) (by first | rfl | (simp -dsimp [b1, b2, m1, bU, bI, bD, bT, hq1, hq2, hq3]; done)) ?_) | (with_reducible refine nd_v (q) (by first | rfl | (simp -dsimp [b1, b2, m1, bU, bI, bD, bT, hq1, hq2, hq3]; done)) ?_) | (with_reducible refine nw_v (q) rfl (by first | rfl | (simp -dsimp [b1, b2, m1, bU, bI, bD, bT, hq1, hq2, hq3]; done)) (by first | rfl | (simp -dsimp [b1, b2, m1, bU, bI, bD, bT, hq1, hq2, hq3]; done)) ?_) | (with_reducible refine dn_i follows_any (by kernel_rfl) ?_) | (with_reducible exact done_eq rfl) | (simp -dsimp [b1, b2, m1, bU, bI, bD, bT, hq1, hq2, hq3]))); (all_goals try with_reducible refine done_eq ?_)
        | succ k =>
          have hlt : k < a.length := by omega
          have h1 : (((k + 1 : Nat) : Int) - 1) = (k : Int) := by omega
          have hw : IntKind.wrap .i64 ((k : Int) - 1) = (k : Int) - 1 := by rw [wrap_i64] <;> omega
          have hb : ((a ++ M).length + 1) * 168 ≤ 140737488351232 := by simp; omega
          have hv : 1 + (a.length - (k + 1)) + 1 = 1 + (a.length - k) := by omega
          obtain ⟨TW, hTW⟩ : ∃ TW, TW = a ++ M := ⟨_, rfl⟩
          rw [← hTW] at hb
          rw [h1]
          rw [← hTW]
          (repeat' (first | (with_reducible refine br_d (fun _ => ?_) (fun _ => ?_)) | (with_reducible refine br_i (fun _ => ?_) (fun _ => ?_)) | (with_reducible refine dn_i follows_any (by kernel_rfl) ?_) | (with_reducible exact done_eq rfl) | (simp -dsimp [b1, hlt, hw, hb, toDs]))); (all_goals try with_reducible refine done_eq ?_)
          refine hK _ (k, TW ++ [a[k]]) ?_ ⟨by show k ≤ _; omega, M ++ [a[k]], by rw [hTW]; simp, by simp; omega, fun e he => ?_⟩ (by show k < k + 1; omega)
          · simp only [List.map_append, List.map_cons, List.map_nil, ← hv]
            exact Weak.same (by simp -dsimp) (by simp -dsimp) (by first | rfl | (simp [closedSt, Av.ids, Ow.ids, Cl.ids, Go.Smd.keys]; done))
          · rcases List.mem_append.1 he with he | he
            · exact hM e he
            · simp at he; subst he; exact List.getElem_mem hlt
    · have n1 : ¬ (2147483647 < (a.length : Int)) := by omega
      have n2 : (2147483647 < (b.length : Int)) := by omega
      (repeat' (first | (with_reducible refine br_d (fun _ => ?_) (fun _ => ?_)) | (with_reducible refine br_i (fun _ => ?_) (fun _ => ?_)) | (with_reducible refine dn_i follows_any (by kernel_rfl) ?_) | (with_reducible exact done_eq rfl) | (simp -dsimp [b1, b2, n1, n2]))); (all_goals try with_reducible refine done_eq ?_)
  · have n1 : (2147483647 < (a.length : Int)) := by omega
    (repeat' (first | (with_reducible refine br_d (fun _ => ?_) (fun _ => ?_)) | (with_reducible refine br_i (fun _ => ?_) (fun _ => ?_)) | (with_reducible refine dn_i follows_any (by kernel_rfl) ?_) | (with_reducible exact done_eq rfl) | (simp -dsimp [b1, b2, n1]))); (all_goals try with_reducible refine done_eq ?_)
end Go.Smd
end
section
namespace Go.Proofs.YtannholebjdckaaGreat
open Go.Smd Go.RowKit Go.Proofs Go.ChangeShapes Go.WideShapes Go.ChangeAt
set_option maxRecDepth 100000 in
theorem elemSetSizes_lifted (os : Os) (started : os.Started) (H : Type) (enc : TypeId × Value → H) :
    ReturnsInHanded {} Tryz.checked os 8 .any (Rows.fnElemSetSizesSpec.pre6 enc Tryz.prog Tryz.f8 Rows.fnElemSetSizesRow.domain false) (Rows.fnElemSetSizesSpec.post enc Tryz.prog Tryz.f8 false true false false) := by
  refine law_lift Tryz.func8 rfl rfl (by decide +kernel) (by kernel_rfl) started (fun ds h => ?_)
    (ChangeSpec.witness6 (enc := enc) (C := Tryz.checked) false ⟨#[], #[.slice none 0 0, .slice none 0 0], []⟩ 8 (by kernel_rfl) (by kernel_rfl) (by kernel_rfl) (by kernel_rfl)) ?_
  · match ds, h with
    | [d1, d2], _ => rfl
  · intro W args ds p hA hw hval
    obtain ⟨_, hval⟩ := hval
    rw [Tryz.params8] at hA hw hval
    obtain ⟨v1, vs1, d1, ds1, p1, q1, e1, rfl, rfl, t1, hA⟩ := trodAll_cons hA
    obtain ⟨v2, vs2, d2, ds2, p2, q2, rfl, rfl, rfl, t2, hA⟩ := trodAll_cons hA
    obtain ⟨rfl, rfl, rfl⟩ := trodAll_nil hA
    have ea : args = #[v1, v2] := by rw [← Array.toArray_toList (xs := args), e1]
    subst ea
    simp only [DataW.weightsEach] at hw
    have hw : Light (DataW.weights Tryz.prog 26 d1 ++ (DataW.weights Tryz.prog 26 d2 ++ [])) := hw
    have w1 := hw.append.1
    have w2 := hw.append.2.append.1
    obtain ⟨_, _, _, h1⟩ := okWide_slice Tryz.underlying26 (hval 0 26 v1 rfl rfl)
    obtain ⟨_, _, _, h2⟩ := okWide_slice Tryz.underlying26 (hval 1 26 v2 rfl rfl)
    obtain ⟨a, _, e2, ra⟩ := open_one t1 w1 (fun n => opens_slice (E := 33) (e := evD) (by kernel_rfl) (fun s => by simp) fun m _ => opens_elem) (fun l => ⟨_, rfl⟩) (fun cs h => by rw [h1] at h; cases h)
    obtain ⟨b, _, e3, rb⟩ := open_one t2 w2 (fun n => opens_slice (E := 33) (e := evD) (by kernel_rfl) (fun s => by simp) fun m _ => opens_elem) (fun l => ⟨_, rfl⟩) (fun cs h => by rw [h2] at h; cases h)
    cases e2
    cases e3
    exact law_walk (fnElemSetSizes_a a b) (.cons ra (.cons rb .nil))
theorem elemSetSizes_holds : Rows.FnElemSetSizesSaid :=
  OpenClaim.holds_of_wide 8 Tryz.f8 rfl rfl rfl rfl rfl rfl rfl ⟨rfl, rfl, rfl, rfl, rfl⟩ rfl rfl rfl rfl rfl (by kernel_rfl) Tryz.func8 (by kernel_rfl)
    (of_decide_eq_true (by kernel_rfl)) (by unfold Func.isWrapper; first | (rw [if_pos (by decide +kernel)]; kernel_rfl) | (rw [if_neg (by decide +kernel)]; exact ⟨rfl, rfl⟩))
    (fun os started H enc _ => elemSetSizes_lifted os started H enc)
end Go.Proofs.YtannholebjdckaaGreat
end
#print axioms Go.Proofs.YtannholebjdckaaGreat.elemSetSizes_holds
