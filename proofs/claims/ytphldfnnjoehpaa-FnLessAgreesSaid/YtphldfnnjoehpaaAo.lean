/- What is read as data, told by value: one type after the other. -/
import Derived.Test.YtphldfnnjoehpaaAm
import Derived.Test.YtphldfnnjoehpaaOpen
import Derived.Test.YtphldfnnjoehpaaLaw
set_option linter.unusedSimpArgs false
namespace Go.Smd
open Go.RowKit Go.Proofs Go.ChangeShapes Go.WideShapes Go.Deep

section
variable {H : Type} {enc : TypeId × Value → H} {w : World} {held : Bool} {P : Program}
variable (enc w held P) in
/-- What is read as data of the type T with at most n steps is, by value, some E a. -/
def OpensAt {α : Type} (n : Nat) (T : TypeId) (E : α → List D) : Prop := ∀ (m : Nat), m ≤ n → ∀ (cs : List Value) (x : DataW H × List MemPlace), DataW.trod enc P w 0 (fun _ => true) held m T cs = some x → Light (x.1.weights P T) →
  ∃ a, All2 (RepD P w (fun _ => True)) (E a) cs
theorem OpensAt.le {α : Type} {n m : Nat} {T : TypeId} {E : α → List D} (h : OpensAt enc w held P n T E) (hm : m ≤ n) : OpensAt enc w held P m T E := fun k hk => h k (Nat.le_trans hk hm)
theorem opens_str {n : Nat} {T : TypeId} (ht : P.underlying T = some .string) : OpensAt enc w held P n T fun s : ByteArray => [.v (.string s)] := fun m _ cs x h hw => by
  obtain ⟨s, h1, h2, _⟩ := DataW.trod_string ht h
  subst h1; subst h2
  refine ⟨s, .cons (.v ?_) .nil⟩
  simp only [DataW.weights] at hw
  have := hw _ (List.mem_singleton_self _)
  simp only [okVb, decide_eq_true_eq]
  rw [ByteArray.size, Array.size_eq_length_toList]; exact this
theorem opens_int {n : Nat} {T : TypeId} {k : IntKind} (ht : P.underlying T = some (.int k)) : OpensAt enc w held P n T fun i : Int => [.v (.int k i)] := fun m _ cs x h hw => by
  obtain ⟨i, h1, h2, h3⟩ := DataW.trod_int ht h
  subst h1
  refine ⟨i, .cons (.v ?_) .nil⟩
  simp only [okVb]
  cases k <;> simp [okInt, Lit.wf, IntKind.min, IntKind.max, IntKind.signed, IntKind.bits] at h3 ⊢ <;> omega
theorem opens_float {n : Nat} {T : TypeId} (ht : P.underlying T = some (.float .f64)) : OpensAt enc w held P n T fun i : Nat => [.v (.float .f64 i)] := fun m _ cs x h hw => by
  obtain ⟨i, h1, h2, h3⟩ := trod_float ht h
  subst h1
  refine ⟨i, .cons (.v ?_) .nil⟩
  simp [Lit.wf] at h3
  simp only [okVb, decide_eq_true_eq]; omega
theorem opens_bool {n : Nat} {T : TypeId} (ht : P.underlying T = some .bool) : OpensAt enc w held P n T fun b : Bool => [.v (.bool b)] := fun m _ cs x h hw => by
  have : ∃ b, cs = [.bool b] := by
    cases m with
    | zero => simp [DataW.trod] at h
    | succ m =>
      unfold DataW.trod at h
      rw [ht] at h
      split at h <;> simp_all
  obtain ⟨b, rfl⟩ := this
  exact ⟨b, .cons (.v rfl) .nil⟩
theorem opens_slice {α : Type} [Inhabited α] {n : Nat} {T E : TypeId} {e : α → List D} (ht : P.underlying T = some (.slice E)) (hl : ∀ a, (e a).length = P.cellsOf E) (h : ∀ m, m < n → OpensAt enc w held P m E e) :
    OpensAt enc w held P n T fun l : List α => [.sl E (l.map e)] := fun m hm cs x hx hw => by
  rcases DataW.trod_slice ht hx with ⟨rfl, rfl⟩ | ⟨a, len, cap, elems, rest, n', rfl, rfl, rfl, _, hle, _, hlen, hel, _, _⟩
  · exact ⟨[], .cons (RepD.nil E) .nil⟩
  · simp only [DataW.weights, ht, List.length_map, hlen] at hw
    have hw1 : (len + rest.length) * P.bytesOf E ≤ 140737488351232 := hw _ (List.mem_cons_self ..)
    have hw2 : Light (DataW.weightsAll P E (elems.map (·.1))) := fun x hx => hw x (List.mem_cons_of_mem _ (List.mem_append_left _ hx))
    have key : ∀ j : Nat, ∃ p : α × List Value, j < len → CellsAt w (a.add (j * P.cellsOf E)) p.2 ∧ All2 (RepD P w (fun _ => True)) (e p.1) p.2 := fun j => by
      by_cases hj : j < len
      · have he := hel j hj
        obtain ⟨y, hy⟩ : ∃ y, elems[j]? = some y := ⟨elems[j]'(by omega), List.getElem?_eq_getElem _⟩
        rw [hy] at he
        obtain ⟨cs', hc, ht'⟩ := Option.bind_eq_some_iff.1 he
        obtain ⟨v, hv⟩ := h n' (by omega) n' (Nat.le_refl _) cs' y ht' (Light.all hw2 y.1 (List.mem_map.2 ⟨y, List.mem_of_getElem? hy, rfl⟩))
        exact ⟨(v, cs'), fun _ => ⟨cells_at hc, hv⟩⟩
      · exact ⟨(default, []), fun h => absurd h hj⟩
    let G : Nat → α × List Value := fun j => Classical.choose (key j)
    have hG : ∀ j, j < len → CellsAt w (a.add (j * P.cellsOf E)) (G j).2 ∧ All2 (RepD P w (fun _ => True)) (e (G j).1) (G j).2 := fun j hj => Classical.choose_spec (key j) hj
    refine ⟨(List.range len).map fun j => (G j).1, .cons (RepD.sl_iff.2 ⟨some a, cap, by simp, by simpa using hle, by
      have := Nat.mul_le_mul_right (P.bytesOf E) (Nat.le_add_right len rest.length)
      simp; omega, fun j r hj => ?_⟩) .nil⟩
    rw [List.getElem?_map] at hj
    obtain ⟨y, hy, rfl⟩ := Option.map_eq_some_iff.1 hj
    rw [List.getElem?_map] at hy
    obtain ⟨i, hi, rfl⟩ := Option.map_eq_some_iff.1 hy
    obtain ⟨hlt, rfl⟩ := List.getElem?_eq_some_iff.1 hi
    simp only [List.length_range] at hlt
    simp only [List.getElem_range]
    refine ⟨hl _, fun _ => ⟨a, rfl, fun i d hd => ?_⟩⟩
    obtain ⟨hc, hr⟩ := hG j hlt
    obtain ⟨u, hu, hd'⟩ := hr.at hd
    exact ⟨u, trivial, hc i u hu, hd'⟩
theorem opens_val {n : Nat} : OpensAt enc w held Try.prog n 26 gvD := fun m _ cs x h hw => by
  obtain ⟨g, hg⟩ := open_val m cs x h hw
  exact ⟨g, repGV_rep hg⟩
/-- An argument of one cell. -/
theorem open_one {α : Type} {T : TypeId} {E : α → List D} {v : Value} {d : DataW H} {p : List MemPlace} (hd : DataW.Trod enc P w 0 (fun _ => true) held T v d p) (hw : Light (d.weights P T)) (h : ∀ n, OpensAt enc w held P n T E) (h1 : ∀ a, ∃ x, E a = [x]) (hv : ∀ cs, v ≠ .agg cs) :
    ∃ a x, E a = [x] ∧ RepA P (fun _ => True) noB noH w (.c (.d x)) v := by
  obtain ⟨fuel, hd⟩ := hd
  obtain ⟨a, ha⟩ := h fuel fuel (Nat.le_refl _) _ _ hd hw
  obtain ⟨x, hx⟩ := h1 a
  rw [hx] at ha
  refine ⟨a, x, hx, ?_⟩
  cases v with
  | agg cs =>
    exact absurd rfl (hv cs)
  | _ =>
    simp only [Value.cells] at ha
    cases ha with
    | cons h t => exact h
theorem cls_all2' {S : Nat → Prop} {β : Nat → Value} {h : Nat → Option Ow} {xs : List D} {us : List Value} (k : All2 (RepD P w S) xs us) : All2 (RepC P S β h w) (cls xs) us := by
  induction k with
  | nil => exact .nil
  | cons k t ih => exact .cons k ih
/-- An argument of several cells. -/
theorem open_agg {α : Type} {T : TypeId} {E : α → List D} {v : Value} {d : DataW H} {p : List MemPlace} (hd : DataW.Trod enc P w 0 (fun _ => true) held T v d p) (hw : Light (d.weights P T)) (h : ∀ n, OpensAt enc w held P n T E) (h2 : ∀ a, (E a).length ≠ 1) :
    ∃ a, RepA P (fun _ => True) noB noH w (.agg (cls (E a))) v := by
  obtain ⟨fuel, hd⟩ := hd
  obtain ⟨a, ha⟩ := h fuel fuel (Nat.le_refl _) _ _ hd hw
  have hl := ha.length
  refine ⟨a, v.cells.toList, ?_, cls_all2' ha⟩
  cases v with
  | agg cs => simp [Value.cells]
  | _ => simp [Value.cells] at hl; exact absurd hl (h2 a)
end
end Go.Smd
