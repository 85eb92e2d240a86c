/- Part 32 of the proof: Ao Os Oe Jl. -/
import Derived.Test.YtannholebjdckaaGreatQS20
import Derived.Test.YtannholebjdckaaGreatQS31
import Derived.Test.YtannholebjdckaaGreatQS21
set_option linter.unusedVariables false
section
set_option linter.unusedSimpArgs false
namespace Go.Smd
open Go.RowKit Go.Proofs Go.ChangeShapes Go.WideShapes Go.Deep
section
variable {H : Type} {enc : TypeId × Value → H} {w : World} {held : Bool} {P : Program}
variable (enc w held P) in
def OpensAt {α : Type} (n : Nat) (T : TypeId) (E : α → List D) : Prop := ∀ (m : Nat), m ≤ n → ∀ (cs : List Value) (x : DataW H × List MemPlace), DataW.trod enc P w 0 (fun _ => true) held m T cs = some x → Light (x.1.weights P T) →
  ∃ a, All2 (RepD P w (fun _ => True)) (E a) cs
theorem OpensAt.le {α : Type} {n m : Nat} {T : TypeId} {E : α → List D} (h : OpensAt enc w held P n T E) (hm : m ≤ n) : OpensAt enc w held P m T E := fun k hk => h k (Nat.le_trans hk hm)
theorem opens_str {n : Nat} {T : TypeId} (ht : P.underlying T = some .string) : OpensAt enc w held P n T fun s : ByteArray => [.v (.string s)] := fun m _ cs x h hw => by
  obtain ⟨s, h1, h2, _⟩ := DataW.trod_string ht h
  subst h1; subst h2
  refine ⟨s, .cons (.v ?_) .nil⟩
  simp only [DataW.weights] at hw
  have := hw _ (List.mem_singleton_self _)
  simp only [okVb, decide_eq_true_eq]
  rw [ByteArray.size, Array.size_eq_length_toList]; exact this
theorem opens_int {n : Nat} {T : TypeId} {k : IntKind} (ht : P.underlying T = some (.int k)) : OpensAt enc w held P n T fun i : Int => [.v (.int k i)] := fun m _ cs x h hw => by
  obtain ⟨i, h1, h2, h3⟩ := DataW.trod_int ht h
  subst h1
  refine ⟨i, .cons (.v ?_) .nil⟩
  simp only [okVb]
  cases k <;> simp [okInt, Lit.wf, IntKind.min, IntKind.max, IntKind.signed, IntKind.bits] at h3 ⊢ <;> omega
theorem opens_slice {α : Type} [Inhabited α] {n : Nat} {T E : TypeId} {e : α → List D} (ht : P.underlying T = some (.slice E)) (hl : ∀ a, (e a).length = P.cellsOf E) (h : ∀ m, m < n → OpensAt enc w held P m E e) :
    OpensAt enc w held P n T fun l : List α => [.sl E (l.map e)] := fun m hm cs x hx hw => by
  rcases DataW.trod_slice ht hx with ⟨rfl, rfl⟩ | ⟨a, len, cap, elems, rest, n', rfl, rfl, rfl, _, hle, _, hlen, hel, _, _⟩
  · exact ⟨[], .cons (RepD.nil E) .nil⟩
  · simp only [DataW.weights, ht, List.length_map, hlen] at hw
    have hw1 : (len + rest.length) * P.bytesOf E ≤ 140737488351232 := hw _ (List.mem_cons_self ..)
    have hw2 : Light (DataW.weightsAll P E (elems.map (·.1))) := fun x hx => hw x (List.mem_cons_of_mem _ (List.mem_append_left _ hx))
    have key : ∀ j : Nat, ∃ p : α × List Value, j < len → CellsAt w (a.add (j * P.cellsOf E)) p.2 ∧ All2 (RepD P w (fun _ => True)) (e p.1) p.2 := fun j => by
      by_cases hj : j < len
      · have he := hel j hj
        obtain ⟨y, hy⟩ : ∃ y, elems[j]? = some y := ⟨elems[j]'(by omega), List.getElem?_eq_getElem _⟩
        rw [hy] at he
        obtain ⟨cs', hc, ht'⟩ := Option.bind_eq_some_iff.1 he
        obtain ⟨v, hv⟩ := h n' (by omega) n' (Nat.le_refl _) cs' y ht' (Light.all hw2 y.1 (List.mem_map.2 ⟨y, List.mem_of_getElem? hy, rfl⟩))
        exact ⟨(v, cs'), fun _ => ⟨cells_at hc, hv⟩⟩
      · exact ⟨(default, []), fun h => absurd h hj⟩
    let G : Nat → α × List Value := fun j => Classical.choose (key j)
    have hG : ∀ j, j < len → CellsAt w (a.add (j * P.cellsOf E)) (G j).2 ∧ All2 (RepD P w (fun _ => True)) (e (G j).1) (G j).2 := fun j hj => Classical.choose_spec (key j) hj
    refine ⟨(List.range len).map fun j => (G j).1, .cons (RepD.sl_iff.2 ⟨some a, cap, by simp, by simpa using hle, by
      have := Nat.mul_le_mul_right (P.bytesOf E) (Nat.le_add_right len rest.length)
      simp; omega, fun j r hj => ?_⟩) .nil⟩
    rw [List.getElem?_map] at hj
    obtain ⟨y, hy, rfl⟩ := Option.map_eq_some_iff.1 hj
    rw [List.getElem?_map] at hy
    obtain ⟨i, hi, rfl⟩ := Option.map_eq_some_iff.1 hy
    obtain ⟨hlt, rfl⟩ := List.getElem?_eq_some_iff.1 hi
    simp only [List.length_range] at hlt
    simp only [List.getElem_range]
    refine ⟨hl _, fun _ => ⟨a, rfl, fun i d hd => ?_⟩⟩
    obtain ⟨hc, hr⟩ := hG j hlt
    obtain ⟨u, hu, hd'⟩ := hr.at hd
    exact ⟨u, trivial, hc i u hu, hd'⟩
theorem opens_val {n : Nat} : OpensAt enc w held Tryz.prog n 31 gvD := fun m _ cs x h hw => by
  obtain ⟨g, hg⟩ := open_val m cs x h hw
  exact ⟨g, repGV_rep hg⟩
theorem open_one {α : Type} {T : TypeId} {E : α → List D} {v : Value} {d : DataW H} {p : List MemPlace} (hd : DataW.Trod enc P w 0 (fun _ => true) held T v d p) (hw : Light (d.weights P T)) (h : ∀ n, OpensAt enc w held P n T E) (h1 : ∀ a, ∃ x, E a = [x]) (hv : ∀ cs, v ≠ .agg cs) :
    ∃ a x, E a = [x] ∧ RepA P (fun _ => True) noB noH w (.c (.d x)) v := by
  obtain ⟨fuel, hd⟩ := hd
  obtain ⟨a, ha⟩ := h fuel fuel (Nat.le_refl _) _ _ hd hw
  obtain ⟨x, hx⟩ := h1 a
  rw [hx] at ha
  refine ⟨a, x, hx, ?_⟩
  cases v with
  | agg cs =>
    exact absurd rfl (hv cs)
  | _ =>
    simp only [Value.cells] at ha
    cases ha with
    | cons h t => exact h
end
end Go.Smd
end
section
set_option linter.unusedSimpArgs false
namespace Go.Smd
open Go.RowKit Go.Proofs Go.ChangeShapes Go.WideShapes Go.Deep
section
variable {H : Type} {enc : TypeId × Value → H} {w : World} {held : Bool} {P : Program}
variable (enc w held P) in
inductive FieldsAt (n : Nat) : Nat → List TypeId → (List D → Prop) → Prop
  | nil {o : Nat} : FieldsAt n o [] fun ds => ds = []
  | cons {o : Nat} {T : TypeId} {Ts : List TypeId} {α : Type} {E : α → List D} {Q : List D → Prop} (h : OpensAt enc w held P n T E) (t : FieldsAt n (o + P.cellsOf T) Ts Q) : FieldsAt n o (T :: Ts) fun ds => ∃ a rest, ds = E a ++ rest ∧ Q rest
theorem fieldsAt_open {n : Nat} {cs : List Value} : ∀ {o : Nat} {Ts : List TypeId} {Q : List D → Prop} {xs : List (DataW H × List MemPlace)}, FieldsAt enc w held P n o Ts Q → xs.length = Ts.length → cs.length = o + (Ts.map P.cellsOf).sum →
    (∀ (i : Nat) (T : TypeId) (x : DataW H × List MemPlace) (off : Nat), Ts[i]? = some T → xs[i]? = some x → off = o + ((Ts.take i).map P.cellsOf).sum → DataW.trod enc P w 0 (fun _ => true) held n T ((cs.drop off).take (P.cellsOf T)) = some x ∧ Light (x.1.weights P T)) →
    ∃ ds, Q ds ∧ All2 (RepD P w (fun _ => True)) ds (cs.drop o)
  | o, [], _, xs, .nil, _, hc, _ => ⟨[], rfl, by rw [List.drop_eq_nil_of_le (by simp at hc; omega)]; exact .nil⟩
  | o, T :: Ts, _, x :: xs, .cons h t, hl, hc, hf => by
    obtain ⟨h1, h2⟩ := hf 0 T x o rfl rfl (by simp)
    obtain ⟨a, ha⟩ := h n (Nat.le_refl _) _ _ h1 h2
    simp only [List.map_cons, List.sum_cons] at hc
    obtain ⟨ds, hq, hd⟩ := fieldsAt_open (cs := cs) (xs := xs) t (by simpa using hl) (by omega) fun i T' x' off hT hx hoff => hf (i + 1) T' x' off (by simpa using hT) (by simpa using hx) (by simp only [List.take_succ_cons, List.map_cons, List.sum_cons]; omega)
    refine ⟨_, ⟨a, ds, rfl, hq⟩, ?_⟩
    have e : cs.drop o = (cs.drop o).take (P.cellsOf T) ++ cs.drop (o + P.cellsOf T) := by
      rw [← List.drop_drop, List.take_append_drop]
    rw [e]
    exact ha.append hd
theorem light_each : ∀ {Ts : List TypeId} {ds : List (DataW H)}, Light (DataW.weightsEach P Ts ds) → ∀ (i : Nat) (T : TypeId) (d : DataW H), Ts[i]? = some T → ds[i]? = some d → Light (d.weights P T)
  | [], _, _, i, T, d, hT, _ => by simp at hT
  | _ :: _, [], _, i, T, d, _, hd => by simp at hd
  | T0 :: Ts, d0 :: ds, h, i, T, d, hT, hd => by
    simp only [DataW.weightsEach] at h
    cases i with
    | zero => simp at hT hd; subst hT; subst hd; exact h.append.1
    | succ i => exact light_each h.append.2 i T d (by simpa using hT) (by simpa using hd)
theorem opens_struct {α : Type} {n : Nat} {T : TypeId} {fs : Array Field} {Q : List D → Prop} {E : α → List D} (ht : P.underlying T = some (.struct fs))
    (hoff : (List.range fs.size).all (fun i => match fs[i]? with | some f => f.offset == ((fs.toList.map (·.type)).take i |>.map P.cellsOf).sum | none => false) = true) (hc : P.cellsOf T = ((fs.toList.map (·.type)).map P.cellsOf).sum)
    (hE : ∀ ds, Q ds → ∃ a, ds = E a) (h : ∀ m, m < n → FieldsAt enc w held P m 0 (fs.toList.map (·.type)) Q) : OpensAt enc w held P n T E := fun m hm cs x hx hw => by
  obtain ⟨xs, k, rfl, rfl, hlen, hxl, hf⟩ := DataW.trod_struct ht hx
  simp only [DataW.weights, ht] at hw
  obtain ⟨ds, hq, hd⟩ := fieldsAt_open (cs := cs) (xs := xs) (h k (by omega)) (by simp [hxl]) (by rw [hlen, hc]; omega) fun i T' x' off hT hx' hoff' => by
    rw [List.getElem?_map] at hT
    obtain ⟨f, hfi, rfl⟩ := Option.map_eq_some_iff.1 hT
    have hfi' : fs[i]? = some f := by simpa using hfi
    have ho := List.all_eq_true.1 hoff i (List.mem_range.2 (Array.getElem?_eq_some_iff.1 hfi').1)
    rw [hfi'] at ho
    simp only [beq_iff_eq] at ho
    have := hf i f hfi'
    rw [hx'] at this
    refine ⟨by rw [hoff', Nat.zero_add, ← ho]; exact this, light_each hw i f.type x'.1 (by rw [List.getElem?_map]; exact hT) (by rw [List.getElem?_map, hx']; rfl)⟩
  obtain ⟨a, rfl⟩ := hE ds hq
  exact ⟨a, by simpa using hd⟩
end
end Go.Smd
end
section
namespace Go.Smd
open Go.RowKit Go.Proofs Go.ChangeShapes Go.WideShapes Go.Deep
instance : Inhabited GV := ⟨.mk 0 0 0 ⟨#[]⟩ [] []⟩
instance : Inhabited EV := ⟨⟨0, ⟨#[]⟩, [], [], default, 0⟩⟩
def structFs (P : Program) (T : TypeId) : Array Field := match P.underlying T with | some (.struct fs) => fs | _ => #[]
theorem opens_elem {H : Type} {enc : TypeId × Value → H} {w : World} {held : Bool} {n : Nat} : OpensAt enc w held Tryz.prog n 33 evD := by
  have hf : ∀ m, m < n → FieldsAt enc w held Tryz.prog m 0 [3, 9, 28, 27, 31, 3] _ := fun m _ =>
    .cons (opens_int (k := .i64) (by kernel_rfl)) (.cons (opens_str (by kernel_rfl)) (.cons (opens_slice (E := 9) (e := fun s : ByteArray => [dS s]) (by kernel_rfl) (fun _ => by kernel_rfl) fun _ _ => opens_str (by kernel_rfl)) (.cons (opens_slice (E := 31) (e := gvD) (by kernel_rfl) (fun _ => by simp) fun _ _ => opens_val) (.cons opens_val (.cons (opens_int (k := .i64) (by kernel_rfl)) .nil)))))
  have hT : [3, 9, 28, 27, 31, 3] = (structFs Tryz.prog 33).toList.map (·.type) := by kernel_rfl
  rw [hT] at hf
  refine opens_struct (fs := structFs Tryz.prog 33) (by kernel_rfl) (by kernel_rfl) (by kernel_rfl) ?_ hf
  · rintro ds ⟨k, _, rfl, s, _, rfl, keys, _, rfl, l, _, rfl, v, _, rfl, n, _, rfl, rfl⟩
    exact ⟨⟨k, s, keys, l, v, n⟩, by simp [evD, rowS]⟩
end Go.Smd
end
section
set_option linter.unusedSimpArgs false
set_option maxRecDepth 100000
set_option maxHeartbeats 8000000
namespace Go.Smd
open Go.RowKit Go.Proofs
abbrev PthS (p : List EV) : Prop := p.length * 168 ≤ 140737488351232 ∧ ∀ e ∈ p, EVs e
theorem isEmpty_drop {α : Type} {l : List α} {i : Nat} (h : i < l.length) : (l.drop (i + 1)).isEmpty = decide (i = l.length - 1) := by
  rw [Bool.eq_iff_iff, List.isEmpty_iff, decide_eq_true_eq, List.drop_eq_nil_iff]
  omega
theorem walkCompare_a (a b : List EV) (ha : PthS a) (hb : PthS b) : ACalls Tryz.prog 107 [.c (.d (dPath a)), .c (.d (dPath b))] (fun r => r = aI (wcmp a b)) := by
  have b1 : a.length ≤ 9223372036854775807 := by have := ha.1; omega
  have b2 : b.length ≤ 9223372036854775807 := by have := hb.1; omega
  refine acalls_ex [(4, ([8], [(0, []), (1, []), (2, []), (3, []), (4, []), (5, []), (6, []), (7, []), (8, []), (9, [])]))] Tryz.func107 (by kernel_rfl) rfl Tryz.ntmps107 Tryz.results107 (Nat.le_of_ble_eq_true (by kernel_rfl)) ?_; intro hok w0 S0
  clear hok
  (repeat' (first | (with_reducible refine br_d (fun _ => ?_) (fun _ => ?_)) | (with_reducible refine br_i (fun _ => ?_) (fun _ => ?_)) | (with_reducible refine dn_i follows_any (by kernel_rfl) ?_) | (with_reducible exact done_eq rfl) | (simp -dsimp [b1, b2]))); (all_goals try with_reducible refine done_eq ?_)
  refine ex_loop (fun i : Nat => ⟨[(0, .c (.d (dPath a))), (1, .c (.d (dPath b))), (5, aI i)], []⟩) (fun i => i ≤ a.length ∧ i ≤ b.length ∧ wcmp (a.drop i) (b.drop i) = wcmp a b) (fun i => a.length - i) 0 ?_ ⟨Nat.zero_le _, Nat.zero_le _, rfl⟩ ?_
  · exact Weak.same (by simp -dsimp) (by simp -dsimp) (by first | rfl | (simp [closedSt, Av.ids, Ow.ids, Cl.ids, Go.Smd.keys]; done))
  · rintro i ⟨hi, hi2, hw0⟩ K hK
    by_cases h1 : i < a.length
    · by_cases h2 : i < b.length
      · have hw : IntKind.wrap .i64 ((i : Int) + 1) = ((i + 1 : Nat) : Int) := by rw [wrap_i64] <;> omega
        have hwa : IntKind.wrap .i64 ((a.length : Int) - 1) = ((a.length - 1 : Nat) : Int) := by rw [wrap_i64] <;> omega
        have hwb : IntKind.wrap .i64 ((b.length : Int) - 1) = ((b.length - 1 : Nat) : Int) := by rw [wrap_i64] <;> omega
        have ea := ha.2 _ (List.getElem_mem h1)
        have eb := hb.2 _ (List.getElem_mem h2)
        have hc := sCompareElems_a a[i] b[i] ⟨ea.hk, ea.hl⟩ ⟨eb.hk, eb.hl⟩
        rw [List.drop_eq_getElem_cons h1, List.drop_eq_getElem_cons h2, wcmp] at hw0
        by_cases h0 : cmpEl a[i] b[i] = 0
        · rw [if_pos h0] at hw0
          (repeat' (first | (with_reducible refine br_d (fun _ => ?_) (fun _ => ?_)) | (with_reducible refine br_i (fun _ => ?_) (fun _ => ?_)) | (with_reducible refine nd_v (hc) (by first | rfl | (simp -dsimp [b1, b2, h1, h2, hw, h0]; done)) ?_) | (with_reducible refine nw_v (hc) rfl (by first | rfl | (simp -dsimp [b1, b2, h1, h2, hw, h0]; done)) (by first | rfl | (simp -dsimp [b1, b2, h1, h2, hw, h0]; done)) ?_) | (with_reducible refine dn_i follows_any (by kernel_rfl) ?_) | (with_reducible exact done_eq rfl) | (simp -dsimp [b1, b2, h1, h2, hw, h0]))); (all_goals try with_reducible refine done_eq ?_)
          refine hK _ (i + 1) ?_ ⟨by omega, by omega, hw0⟩ (by omega)
          exact Weak.same (by simp -dsimp) (by simp -dsimp) (by first | rfl | (simp [closedSt, Av.ids, Ow.ids, Cl.ids, Go.Smd.keys]; done))
        · rw [if_neg h0] at hw0
          have da : (a.drop (i + 1)).isEmpty = decide (i = a.length - 1) := isEmpty_drop h1
          have db : (b.drop (i + 1)).isEmpty = decide (i = b.length - 1) := isEmpty_drop h2
          rw [da, db] at hw0
          clear da db hK
          generalize a.length - 1 = A1 at hwa hw0
          generalize b.length - 1 = B1 at hwb hw0
          (repeat' (first | (with_reducible refine br_d (fun _ => ?_) (fun _ => ?_)) | (with_reducible refine br_i (fun _ => ?_) (fun _ => ?_)) | (with_reducible refine nd_v (hc) (by first | rfl | (simp -dsimp [b1, b2, h1, h2, hw, h0, hwa, hwb]; done)) ?_) | (with_reducible refine nw_v (hc) rfl (by first | rfl | (simp -dsimp [b1, b2, h1, h2, hw, h0, hwa, hwb]; done)) (by first | rfl | (simp -dsimp [b1, b2, h1, h2, hw, h0, hwa, hwb]; done)) ?_) | (with_reducible refine dn_i follows_any (by kernel_rfl) ?_) | (with_reducible exact done_eq rfl) | (simp -dsimp [b1, b2, h1, h2, hw, h0, hwa, hwb]))); (all_goals try with_reducible refine done_eq ?_)
          all_goals
            rw [← hw0]
            clear hw0 hw hc ea eb
            simp only [bne_iff_ne, bne_eq_false_iff_eq, ne_eq, decide_eq_decide, decide_eq_true_eq] at *
            repeat' split
            all_goals first | rfl | (exfalso; omega)
      · have hend := wcmp_end (p := a.drop i) (q := b.drop i) (.inr (List.drop_of_length_le (by omega)))
        have hci := compareInts_v (a.length : Int) (b.length : Int)
        have hcc : cmpI ((a.drop i).length : Int) (b.drop i).length = cmpI (a.length : Int) b.length := by
          simp only [List.length_drop, cmpI]; repeat' split <;> omega
        rw [hcc, hw0] at hend
        rw [← hend] at hci
        (repeat' (first | (with_reducible refine br_d (fun _ => ?_) (fun _ => ?_)) | (with_reducible refine br_i (fun _ => ?_) (fun _ => ?_)) | (with_reducible refine nd_v (hci) (by first | rfl | (simp -dsimp [b1, b2, h1, h2]; done)) ?_) | (with_reducible refine nw_v (hci) rfl (by first | rfl | (simp -dsimp [b1, b2, h1, h2]; done)) (by first | rfl | (simp -dsimp [b1, b2, h1, h2]; done)) ?_) | (with_reducible refine dn_i follows_any (by kernel_rfl) ?_) | (with_reducible exact done_eq rfl) | (simp -dsimp [b1, b2, h1, h2]))); (all_goals try with_reducible refine done_eq ?_)
    · have hend := wcmp_end (p := a.drop i) (q := b.drop i) (.inl (List.drop_of_length_le (by omega)))
      have hci := compareInts_v (a.length : Int) (b.length : Int)
      have hcc : cmpI ((a.drop i).length : Int) (b.drop i).length = cmpI (a.length : Int) b.length := by
        simp only [List.length_drop, cmpI]; repeat' split <;> omega
      rw [hcc, hw0] at hend
      rw [← hend] at hci
      (repeat' (first | (with_reducible refine br_d (fun _ => ?_) (fun _ => ?_)) | (with_reducible refine br_i (fun _ => ?_) (fun _ => ?_)) | (with_reducible refine nd_v (hci) (by first | rfl | (simp -dsimp [b1, b2, h1]; done)) ?_) | (with_reducible refine nw_v (hci) rfl (by first | rfl | (simp -dsimp [b1, b2, h1]; done)) (by first | rfl | (simp -dsimp [b1, b2, h1]; done)) ?_) | (with_reducible refine dn_i follows_any (by kernel_rfl) ?_) | (with_reducible exact done_eq rfl) | (simp -dsimp [b1, b2, h1]))); (all_goals try with_reducible refine done_eq ?_)
theorem quo_2 {P : Program} {T : TypeId} {ox oy : Operand} {n : Nat} (h : n ≤ 9223372036854775807) : binA P .quo T ox oy (.c (.d (.v (.int .i64 n)))) (.c (.d (.v (.int .i64 2)))) = some (.c (.d (.v (.int .i64 ((n / 2 : Nat) : Int))))) := by
  have hw : IntKind.wrap .i64 ((n : Int).tdiv 2) = ((n / 2 : Nat) : Int) := by
    have e : (n : Int).tdiv 2 = ((n / 2 : Nat) : Int) := by rw [Int.tdiv_eq_ediv_of_nonneg (by omega)]; omega
    rw [e, wrap_i64] <;> omega
  have e2 : (n : Int).tdiv 2 = (n : Int) / 2 := Int.tdiv_eq_ediv_of_nonneg (by omega)
  have hw2 : IntKind.wrap .i64 ((n : Int) / 2) = (n : Int) / 2 := by rw [wrap_i64] <;> omega
  simp [binA, valPure, eqGuard, binOp, pure, Sem.bind, bind, evalPure, okVb, okInt, Op.intDiv, e2, hw2]
  omega
structure BoundP (W : List (List EV)) (p : List EV) (i : Nat) : Prop where
  le : i ≤ W.length
  lo : ∀ (j : Nat) (h : j < W.length), j < i → wcmp W[j] p < 0
  hi : ∀ (j : Nat) (h : j < W.length), i ≤ j → 0 ≤ wcmp W[j] p
theorem place_a (W : List (List EV)) (p : List EV) (i : Nat) (fd : Bool) (hl : W.length * 24 ≤ 140737488351232) (hW : ∀ w ∈ W, PthS w) (hp : PthS p) (hB : BoundP W p i) (hf : fd = true ↔ ∃ x, W[i]? = some x ∧ wcmp x p = 0) :
    ACalls Tryz.prog 52 [.c (.d (dPaths W)), .c (.d (dPath p))] (fun r => r = .tup [(false, [.d (dI i)]), (false, [.d (dB fd)])]) := by
  have b1 : W.length ≤ 9223372036854775807 := by omega
  refine acalls_ex [] Tryz.func52 (by kernel_rfl) rfl Tryz.ntmps52 Tryz.results52 (Nat.le_of_ble_eq_true (by kernel_rfl)) ?_; intro hok w0 S0
  clear hok
  (repeat' (first | (with_reducible refine br_d (fun _ => ?_) (fun _ => ?_)) | (with_reducible refine br_i (fun _ => ?_) (fun _ => ?_)) | (with_reducible refine dn_i follows_any (by kernel_rfl) ?_) | (with_reducible exact done_eq rfl) | (simp -dsimp [b1]))); (all_goals try with_reducible refine done_eq ?_)
  refine ex_loop (fun x : Nat × Nat => ⟨[(0, .c (.d (dPaths W))), (1, .c (.d (dPath p))), (6, aI x.1), (7, aI x.2)], []⟩) (fun x => x.1 ≤ i ∧ i ≤ x.2 ∧ x.2 ≤ W.length) (fun x => x.2 - x.1) (0, W.length) ?_ ⟨Nat.zero_le _, hB.le, Nat.le_refl _⟩ ?_
  · exact Weak.same (by simp -dsimp) (by simp -dsimp) (by first | rfl | (simp [closedSt, Av.ids, Ow.ids, Cl.ids, Go.Smd.keys]; done))
  · rintro ⟨lo, hi⟩ ⟨h1, h2, h3⟩ K hK
    dsimp only at h1 h2 h3 ⊢
    by_cases hlt : lo < hi
    · obtain ⟨m, hm⟩ : ∃ m, m = (hi - lo) / 2 := ⟨_, rfl⟩
      obtain ⟨d, hd⟩ : ∃ d, d = hi - lo := ⟨_, rfl⟩
      have hml : lo + m < W.length := by omega
      have c1 : ∀ {T : TypeId} {ox oy : Operand}, binA Tryz.prog .quo T ox oy (.c (.d (.v (.int .i64 (d : Int))))) (.c (.d (.v (.int .i64 2)))) = some (.c (.d (.v (.int .i64 (m : Int))))) := by
        have e : m = d / 2 := by omega
        intro T ox oy; rw [e]; exact quo_2 (n := d) (by omega)
      have hw1 : IntKind.wrap .i64 ((hi : Int) - lo) = (d : Int) := by rw [wrap_i64] <;> omega
      obtain ⟨q, hq⟩ : ∃ q, q = lo + m := ⟨_, rfl⟩
      have hw2 : IntKind.wrap .i64 ((lo : Int) + m) = (q : Int) := by rw [wrap_i64] <;> omega
      have hw3 : IntKind.wrap .i64 ((q : Int) + 1) = ((q + 1 : Nat) : Int) := by rw [wrap_i64] <;> omega
      have hql : q < W.length := by omega
      have hx := walkCompare_a W[q] p (hW _ (List.getElem_mem hql)) hp
      by_cases hc : wcmp W[q] p < 0
      · (repeat' (first | (with_reducible refine br_d (fun _ => ?_) (fun _ => ?_)) | (with_reducible refine br_i (fun _ => ?_) (fun _ => ?_)) | (with_reducible refine nd_v (hx) (by first | rfl | (simp -dsimp [b1, hlt, c1, hw1, hw2, hw3, hql, hc]; done)) ?_) | (with_reducible refine nw_v (hx) rfl (by first | rfl | (simp -dsimp [b1, hlt, c1, hw1, hw2, hw3, hql, hc]; done)) (by first | rfl | (simp -dsimp [b1, hlt, c1, hw1, hw2, hw3, hql, hc]; done)) ?_) | (with_reducible refine dn_i follows_any (by kernel_rfl) ?_) | (with_reducible exact done_eq rfl) | (simp -dsimp [b1, hlt, c1, hw1, hw2, hw3, hql, hc]))); (all_goals try with_reducible refine done_eq ?_)
        refine hK _ (q + 1, hi) ?_ ⟨?_, h2, h3⟩ (by dsimp only; omega)
        · exact Weak.same (by simp -dsimp) (by simp -dsimp) (by first | rfl | (simp [closedSt, Av.ids, Ow.ids, Cl.ids, Go.Smd.keys]; done))
        · dsimp only
          apply Classical.byContradiction
          intro hn
          have := hB.hi q hql (by omega); omega
      · (repeat' (first | (with_reducible refine br_d (fun _ => ?_) (fun _ => ?_)) | (with_reducible refine br_i (fun _ => ?_) (fun _ => ?_)) | (with_reducible refine nd_v (hx) (by first | rfl | (simp -dsimp [b1, hlt, c1, hw1, hw2, hw3, hql, hc]; done)) ?_) | (with_reducible refine nw_v (hx) rfl (by first | rfl | (simp -dsimp [b1, hlt, c1, hw1, hw2, hw3, hql, hc]; done)) (by first | rfl | (simp -dsimp [b1, hlt, c1, hw1, hw2, hw3, hql, hc]; done)) ?_) | (with_reducible refine dn_i follows_any (by kernel_rfl) ?_) | (with_reducible exact done_eq rfl) | (simp -dsimp [b1, hlt, c1, hw1, hw2, hw3, hql, hc]))); (all_goals try with_reducible refine done_eq ?_)
        refine hK _ (lo, q) ?_ ⟨h1, ?_, by dsimp only; omega⟩ (by dsimp only; omega)
        · exact Weak.same (by simp -dsimp) (by simp -dsimp) (by first | rfl | (simp [closedSt, Av.ids, Ow.ids, Cl.ids, Go.Smd.keys]; done))
        · dsimp only
          apply Classical.byContradiction
          intro hn
          exact hc (hB.lo q hql (by omega))
    · have e1 : lo = i := by omega
      have e2 : hi = i := by omega
      subst e1; subst e2
      by_cases hpl : hi < W.length
      · have hx := walkCompare_a W[hi] p (hW _ (List.getElem_mem hpl)) hp
        have hf2 : fd = decide (wcmp W[hi] p = 0) := by
          rw [Bool.eq_iff_iff, hf, decide_eq_true_eq]
          exact ⟨fun ⟨x, h5, h6⟩ => (by rw [List.getElem?_eq_getElem hpl] at h5; cases h5; exact h6), fun h5 => ⟨_, List.getElem?_eq_getElem hpl, h5⟩⟩
        by_cases hc : wcmp W[hi] p = 0
        · (repeat' (first | (with_reducible refine br_d (fun _ => ?_) (fun _ => ?_)) | (with_reducible refine br_i (fun _ => ?_) (fun _ => ?_)) | (with_reducible refine nd_v (hx) (by first | rfl | (simp -dsimp [b1, hlt, hpl, hc]; done)) ?_) | (with_reducible refine nw_v (hx) rfl (by first | rfl | (simp -dsimp [b1, hlt, hpl, hc]; done)) (by first | rfl | (simp -dsimp [b1, hlt, hpl, hc]; done)) ?_) | (with_reducible refine dn_i follows_any (by kernel_rfl) ?_) | (with_reducible exact done_eq rfl) | (simp -dsimp [b1, hlt, hpl, hc]))); (all_goals try with_reducible refine done_eq ?_)
          rw [hf2]; simp [hc]
        · (repeat' (first | (with_reducible refine br_d (fun _ => ?_) (fun _ => ?_)) | (with_reducible refine br_i (fun _ => ?_) (fun _ => ?_)) | (with_reducible refine nd_v (hx) (by first | rfl | (simp -dsimp [b1, hlt, hpl, hc]; done)) ?_) | (with_reducible refine nw_v (hx) rfl (by first | rfl | (simp -dsimp [b1, hlt, hpl, hc]; done)) (by first | rfl | (simp -dsimp [b1, hlt, hpl, hc]; done)) ?_) | (with_reducible refine dn_i follows_any (by kernel_rfl) ?_) | (with_reducible exact done_eq rfl) | (simp -dsimp [b1, hlt, hpl, hc]))); (all_goals try with_reducible refine done_eq ?_)
          rw [hf2]; simp [hc]
      · have hf2 : fd = false := by
          rw [Bool.eq_false_iff]
          intro h5
          obtain ⟨x, h6, _⟩ := hf.1 h5
          have := (List.getElem?_eq_some_iff.1 h6).1
          omega
        (repeat' (first | (with_reducible refine br_d (fun _ => ?_) (fun _ => ?_)) | (with_reducible refine br_i (fun _ => ?_) (fun _ => ?_)) | (with_reducible refine dn_i follows_any (by kernel_rfl) ?_) | (with_reducible exact done_eq rfl) | (simp -dsimp [b1, hlt, hpl]))); (all_goals try with_reducible refine done_eq ?_)
        rw [hf2]
theorem cleanPath_a (p : List EV) (hp : PthS p) : ACalls Tryz.prog 53 [.c (.d (dPath p))] (fun r => r = .c (.d (dPath (cP p)))) := by
  have hl := hp.1
  have b1 : p.length ≤ 9223372036854775807 := by omega
  have b2 : 168 * p.length ≤ 281474976710656 := by omega
  refine acalls_ex [] Tryz.func53 (by kernel_rfl) rfl Tryz.ntmps53 Tryz.results53 (Nat.le_of_ble_eq_true (by kernel_rfl)) ?_; intro hok w0 S0
  clear hok
  (repeat' (first | (with_reducible refine br_d (fun _ => ?_) (fun _ => ?_)) | (with_reducible refine br_i (fun _ => ?_) (fun _ => ?_)) | (with_reducible refine dn_i follows_any (by kernel_rfl) ?_) | (with_reducible exact done_eq rfl) | (simp -dsimp [b1, b2]))); (all_goals try with_reducible refine done_eq ?_)
  refine ex_loop (fun i : Nat => ⟨[(3, .c (.gs 8 i)), (9, .c (.d (dPath p))), (10, aI p.length), (11, aI i)], [(8, .arr i 33 ((p.map (evD ∘ CE)).take i))]⟩) (fun i => i ≤ p.length) (fun i => p.length - i) 0 ?_ (Nat.zero_le _) ?_
  · exact Weak.same (by simp -dsimp) (by simp -dsimp) (by first | rfl | (simp [closedSt, Av.ids, Ow.ids, Cl.ids, Go.Smd.keys]; done))
  · rintro i hi K hK
    by_cases hlt : i < p.length
    · have hw : IntKind.wrap .i64 ((i : Int) + 1) = ((i + 1 : Nat) : Int) := by rw [wrap_i64] <;> omega
      have he := hp.2 _ (List.getElem_mem hlt)
      obtain ⟨R, hR⟩ : ∃ R, R = (p.map (evD ∘ CE)).take i := ⟨_, rfl⟩
      have hRl : R.length = i := by rw [hR]; simp; omega
      have hb : (i + 1) * 168 ≤ 140737488351232 := by omega
      have h1 : (p.map (evD ∘ CE)).take (i + 1) = R ++ [evD (CE p[i])] := by
        rw [hR, List.take_succ_eq_append_getElem (by simpa using hlt)]; simp
      have hc := cleanElem_a p[i] he.hk he.hl
      obtain ⟨k, s, keys, l, a, b, c, d, e, f, n, hE⟩ : ∃ k s keys l a b c d e f n, p[i] = ⟨k, s, keys, l, .mk a b c d e f, n⟩ := by
        obtain ⟨k, s, keys, l, ⟨a, b, c, d, e, f⟩, n⟩ := p[i]
        exact ⟨_, _, _, _, _, _, _, _, _, _, _, rfl⟩
      obtain ⟨k', s', keys', l', a', b', c', d', e', f', n', hE'⟩ : ∃ k s keys l a b c d e f n, CE p[i] = ⟨k, s, keys, l, .mk a b c d e f, n⟩ := by
        obtain ⟨k, s, keys, l, ⟨a, b, c, d, e, f⟩, n⟩ := CE p[i]
        exact ⟨_, _, _, _, _, _, _, _, _, _, _, rfl⟩
      have hD : evD p[i] = [dI k, dS s, dStrs keys, dGVs l, dI a, dI b, dF c, dS d, dStrs e, dGVs f, dI n] := by rw [hE, evD_x]
      rw [hE'] at hc
      rw [hE, evA_x, evA_x] at hc
      rw [hE', evD_x] at h1
      rw [← hR]
      (repeat' (first | (with_reducible refine br_d (fun _ => ?_) (fun _ => ?_)) | (with_reducible refine br_i (fun _ => ?_) (fun _ => ?_)) | (with_reducible refine nd_v (hc) (by first | rfl | (simp -dsimp [b1, hlt, hw, hb, toDs, hRl, hD]; done)) ?_) | (with_reducible refine nw_v (hc) rfl (by first | rfl | (simp -dsimp [b1, hlt, hw, hb, toDs, hRl, hD]; done)) (by first | rfl | (simp -dsimp [b1, hlt, hw, hb, toDs, hRl, hD]; done)) ?_) | (with_reducible refine dn_i follows_any (by kernel_rfl) ?_) | (with_reducible exact done_eq rfl) | (simp -dsimp [b1, hlt, hw, hb, toDs, hRl, hD]))); (all_goals try with_reducible refine done_eq ?_)
      refine hK _ (i + 1) ?_ (by omega) (by omega)
      rw [h1]
      exact Weak.same (by simp -dsimp) (by simp -dsimp) (by first | rfl | (simp [closedSt, Av.ids, Ow.ids, Cl.ids, Go.Smd.keys]; done))
    · have hi2 : i = p.length := by omega
      subst hi2
      rw [List.take_of_length_le (by simp)]
      (repeat' (first | (with_reducible refine br_d (fun _ => ?_) (fun _ => ?_)) | (with_reducible refine br_i (fun _ => ?_) (fun _ => ?_)) | (with_reducible refine dn_i follows_any (by kernel_rfl) ?_) | (with_reducible exact done_eq rfl) | (simp -dsimp [b1]))); (all_goals try with_reducible refine done_eq ?_)
      simp only [dPath, List.map_map]
end Go.Smd
end
