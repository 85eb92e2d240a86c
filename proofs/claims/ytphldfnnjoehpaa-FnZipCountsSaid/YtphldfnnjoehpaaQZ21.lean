/- The law FnZipCounts holds of every two values: going over two maps together tells each key once, with the value of each map that has it. -/
import Derived.Test.YtphldfnnjoehpaaQZ01
import Derived.Deep.Slices
import Derived.ProofKit
import Derived.Test.YtphldfnnjoehpaaQZ14
import Derived.Test.YtphldfnnjoehpaaQZ20
set_option linter.unusedVariables false
section
set_option linter.unusedSimpArgs false
namespace Go.Smd
open Go.RowKit Go.Proofs Go.ChangeShapes Go.WideShapes Go.Deep
theorem cells_at {w : World} {base : Nat} {a : Addr} {n : Nat} {cs : List Value} (h : w.cells? base a n = some cs) : CellsAt w a cs := fun i u hu => by
  obtain ⟨_, hl, hc⟩ := World.cells?_some h
  rw [hc i (by rw [← hl]; exact (List.getElem?_eq_some_iff.1 hu).1)]; exact hu
def Light (l : List Nat) : Prop := ∀ x ∈ l, x ≤ 140737488351232
theorem Light.append {l m : List Nat} (h : Light (l ++ m)) : Light l ∧ Light m := ⟨fun x hx => h x (List.mem_append_left _ hx), fun x hx => h x (List.mem_append_right _ hx)⟩
theorem Light.all {H : Type} {P : Program} {e : TypeId} : ∀ {ds : List (DataW H)}, Light (DataW.weightsAll P e ds) → ∀ d ∈ ds, Light (d.weights P e)
  | [], _, d, hd => by simp at hd
  | d0 :: ds, h, d, hd => by
    simp only [DataW.weightsAll] at h
    rcases List.mem_cons.1 hd with rfl | hd
    · exact h.append.1
    · exact Light.all h.append.2 d hd
section
variable {H : Type} {enc : TypeId × Value → H} {w : World} {held : Bool}
theorem open_strs {P : Program} {t e : TypeId} (ht : P.underlying t = some (.slice e)) (he : P.underlying e = some .string) (hc : P.cellsOf e = 1) (hb : P.bytesOf e = 16) {fuel : Nat} {cs : List Value} {x : DataW H × List MemPlace}
    (h : DataW.trod enc P w 0 (fun _ => true) held fuel t cs = some x) (hw : Light (x.1.weights P t)) :
    ∃ A c ss, cs = [.slice A (List.length ss) c] ∧ ss.length ≤ c ∧ RepStrs (fun _ => True) w A ss ∧ ss.length * 16 ≤ 140737488351232 ∧ ∀ s ∈ ss, s.size ≤ 140737488351232 := by
  rcases open_slice1 ht hc h with ⟨rfl, rfl⟩ | ⟨a, len, cap, m, n, V, D, Pl, rfl, _, hl, _, hm, rfl, hx⟩
  · exact ⟨none, 0, [], rfl, Nat.zero_le _, RowOf.nil, by simp, by simp⟩
  · have hm' : m = cap := by simpa using hm
    subst hm'
    have key : ∀ i : Nat, ∃ s : ByteArray, i < m → V i = .string s ∧ D i = .lit (.string s.data.toList) := fun i => by
      by_cases hi : i < m
      · obtain ⟨s, h1, h2, _⟩ := DataW.trod_string he (hx i hi).2
        exact ⟨s, fun _ => ⟨by simpa using h1, congrArg Prod.fst h2⟩⟩
      · exact ⟨⟨#[]⟩, fun h => absurd h hi⟩
    let F : Nat → ByteArray := fun i => Classical.choose (key i)
    have hF : ∀ i, i < m → V i = .string (F i) ∧ D i = .lit (.string (F i).data.toList) := fun i hi => Classical.choose_spec (key i) hi
    have hlen : ((List.range len).map F).length = len := by simp
    simp only [DataW.weights, ht, hb, List.length_map, List.length_range] at hw
    have hw1 : (len + (m - len)) * 16 ≤ 140737488351232 := hw _ (List.mem_cons_self ..)
    have hw2 : Light (DataW.weightsAll P e ((List.range len).map D)) := fun x hx => hw x (List.mem_cons_of_mem _ (List.mem_append_left _ hx))
    refine ⟨some a, m, (List.range len).map F, by rw [hlen], by rw [hlen]; exact hl, fun j x hj => ?_, by rw [hlen]; omega, fun s hs => ?_⟩
    · rw [List.getElem?_map] at hj
      obtain ⟨i, hi, rfl⟩ := Option.map_eq_some_iff.1 hj
      obtain ⟨hlt, rfl⟩ := List.getElem?_eq_some_iff.1 hi
      simp only [List.length_range] at hlt
      simp only [List.getElem_range]
      refine ⟨a, [V j], rfl, trivial, by rw [(hF j (by omega)).1]; rfl, rfl, fun i u hu => ?_⟩
      match i, hu with
      | 0, hu =>
        simp at hu; subst hu
        have := (hx j (by omega)).1
        simpa [Addr.add] using this
    · obtain ⟨i, hi, rfl⟩ := List.mem_map.1 hs
      have hi' : i < len := by simpa using hi
      have := Light.all hw2 (D i) (List.mem_map.2 ⟨i, hi, rfl⟩)
      rw [(hF i (by omega)).2] at this
      simp only [DataW.weights] at this
      have := this _ (List.mem_singleton_self _)
      rw [ByteArray.size, Array.size_eq_length_toList]; exact this
theorem trod_float {P : Program} {t : TypeId} {k : FloatKind} {fuel : Nat} {cs : List Value} {x : DataW H × List MemPlace} (ht : P.underlying t = some (.float k)) (h : DataW.trod enc P w 0 (fun _ => true) held fuel t cs = some x) : ∃ n, cs = [.float k n] ∧ x = (.lit (.float k n), []) ∧ (Lit.float k n).wf = true := by
  cases fuel with
  | zero => simp [DataW.trod] at h
  | succ n =>
    unfold DataW.trod at h
    rw [ht] at h
    split at h <;> simp_all
set_option maxRecDepth 100000 in
theorem open_val : ∀ (fuel : Nat) (cs : List Value) (x : DataW H × List MemPlace), DataW.trod enc Try.prog w 0 (fun _ => true) held fuel 26 cs = some x → Light (x.1.weights Try.prog 26) →
    ∃ v, RepGV (fun _ => True) w v cs := by
  intro fuel
  induction fuel using Nat.strongRecOn with
  | _ fuel IH =>
  intro cs x h hw
  obtain ⟨xs, n, rfl, rfl, hlen, hxl, hf⟩ := DataW.trod_struct Try.underlying26 h
  have e6 : Try.prog.cellsOf 26 = 6 := by kernel_rfl
  have e1 : Try.prog.cellsOf 3 = 1 := by kernel_rfl
  have e2 : Try.prog.cellsOf 2 = 1 := by kernel_rfl
  have e3 : Try.prog.cellsOf 22 = 1 := by kernel_rfl
  have e4 : Try.prog.cellsOf 9 = 1 := by kernel_rfl
  have e5 : Try.prog.cellsOf 23 = 1 := by kernel_rfl
  have e7 : Try.prog.cellsOf 24 = 1 := by kernel_rfl
  rw [e6] at hlen
  match cs, hlen with
  | [c0, c1, c2, c3, c4, c5], _ =>
  match xs, hxl with
  | [x0, x1, x2, x3, x4, x5], _ =>
  have f0 : DataW.trod enc Try.prog w 0 (fun _ => true) held n 3 (([c0, c1, c2, c3, c4, c5].drop 0).take (Try.prog.cellsOf 3)) = some x0 := hf 0 _ rfl
  rw [e1] at f0
  change DataW.trod enc Try.prog w 0 (fun _ => true) held n 3 [c0] = some x0 at f0
  have f1 : DataW.trod enc Try.prog w 0 (fun _ => true) held n 2 (([c0, c1, c2, c3, c4, c5].drop 1).take (Try.prog.cellsOf 2)) = some x1 := hf 1 _ rfl
  rw [e2] at f1
  change DataW.trod enc Try.prog w 0 (fun _ => true) held n 2 [c1] = some x1 at f1
  have f2 : DataW.trod enc Try.prog w 0 (fun _ => true) held n 22 (([c0, c1, c2, c3, c4, c5].drop 2).take (Try.prog.cellsOf 22)) = some x2 := hf 2 _ rfl
  rw [e3] at f2
  change DataW.trod enc Try.prog w 0 (fun _ => true) held n 22 [c2] = some x2 at f2
  have f3 : DataW.trod enc Try.prog w 0 (fun _ => true) held n 9 (([c0, c1, c2, c3, c4, c5].drop 3).take (Try.prog.cellsOf 9)) = some x3 := hf 3 _ rfl
  rw [e4] at f3
  change DataW.trod enc Try.prog w 0 (fun _ => true) held n 9 [c3] = some x3 at f3
  have f4 : DataW.trod enc Try.prog w 0 (fun _ => true) held n 23 (([c0, c1, c2, c3, c4, c5].drop 4).take (Try.prog.cellsOf 23)) = some x4 := hf 4 _ rfl
  rw [e5] at f4
  change DataW.trod enc Try.prog w 0 (fun _ => true) held n 23 [c4] = some x4 at f4
  have f5 : DataW.trod enc Try.prog w 0 (fun _ => true) held n 24 (([c0, c1, c2, c3, c4, c5].drop 5).take (Try.prog.cellsOf 24)) = some x5 := hf 5 _ rfl
  rw [e7] at f5
  change DataW.trod enc Try.prog w 0 (fun _ => true) held n 24 [c5] = some x5 at f5
  obtain ⟨kind, h0, hx0, hr0⟩ := DataW.trod_int Try.underlying3 f0
  obtain ⟨N, h1, hx1, hr1⟩ := DataW.trod_int Try.underlying2 f1
  obtain ⟨F, h2, hx2, hr2⟩ := trod_float Try.underlying22 f2
  obtain ⟨s, h3, hx3, hr3⟩ := DataW.trod_string Try.underlying9 f3
  simp only [List.cons.injEq, and_true] at h0 h1 h2 h3
  subst h0; subst h1; subst h2; subst h3
  simp only [List.map_cons, List.map_nil, DataW.weights, Try.underlying26, DataW.weightsEach] at hw
  have hw : Light (DataW.weights Try.prog 3 x0.1 ++ (DataW.weights Try.prog 2 x1.1 ++ (DataW.weights Try.prog 22 x2.1 ++ (DataW.weights Try.prog 9 x3.1 ++ (DataW.weights Try.prog 23 x4.1 ++ (DataW.weights Try.prog 24 x5.1 ++ [])))))) := hw
  have w3 := hw.append.2.append.2.append.2.append.1
  have w4 := hw.append.2.append.2.append.2.append.2.append.1
  have w5 := hw.append.2.append.2.append.2.append.2.append.2.append.1
  obtain ⟨ka, kc, keys, hk, hkc, hkr, hk16, hks⟩ := open_strs Try.underlying23 Try.underlying9 e4 (by kernel_rfl) f4 w4
  simp only [List.cons.injEq, and_true] at hk
  subst hk
  have hss : s.size ≤ 140737488351232 := by
    rw [hx3] at w3
    simp only [DataW.weights] at w3
    have := w3 _ (List.mem_singleton_self _)
    rw [ByteArray.size, Array.size_eq_length_toList]; exact this
  have okk : ∀ {l : List GV}, l.length * 88 ≤ 140737488351232 → GVok kind N F s keys l := fun hl => by
    refine ⟨?_, ?_, ?_, hss, hk16, hks, hl⟩
    · have := hr0; simp [Lit.wf, IntKind.min, IntKind.max, IntKind.signed, IntKind.bits] at this; omega
    · have := hr1; simp [Lit.wf, IntKind.min, IntKind.max, IntKind.signed, IntKind.bits] at this; omega
    · have := hr2; simp [Lit.wf] at this; omega
  rcases DataW.trod_slice Try.underlying24 f5 with ⟨h5, rfl⟩ | ⟨a, len, cap, elems, rest, n', rfl, h5, rfl, _, hl, _, hlen5, hel, _, _⟩
  · simp only [List.cons.injEq, and_true] at h5
    subst h5
    exact ⟨.mk kind N F s keys [], RepGV.close (l := []) (okk (by simp)) hkc (Nat.zero_le _) hkr RowOf.nil⟩
  · simp only [List.cons.injEq, and_true] at h5
    subst h5
    have hb : Try.prog.bytesOf 26 = 88 := by kernel_rfl
    simp only [DataW.weights, Try.underlying24, List.length_map, hb, hlen5] at w5
    have hw1 : (len + rest.length) * 88 ≤ 140737488351232 := w5 _ (List.mem_cons_self ..)
    have hw2 : Light (DataW.weightsAll Try.prog 26 (elems.map (·.1))) := fun x hx => w5 x (List.mem_cons_of_mem _ (List.mem_append_left _ hx))
    have key : ∀ j : Nat, ∃ p : GV × List Value, j < len → CellsAt w (a.add (j * 6)) p.2 ∧ RepGV (fun _ => True) w p.1 p.2 := fun j => by
      by_cases hj : j < len
      · have he := hel j hj
        rw [e6] at he
        obtain ⟨y, hy⟩ : ∃ y, elems[j]? = some y := ⟨elems[j]'(by omega), List.getElem?_eq_getElem _⟩
        rw [hy] at he
        obtain ⟨cs', hc, ht⟩ := Option.bind_eq_some_iff.1 he
        obtain ⟨v, hv⟩ := IH n' (by omega) cs' y ht (Light.all hw2 y.1 (List.mem_map.2 ⟨y, List.mem_of_getElem? hy, rfl⟩))
        exact ⟨(v, cs'), fun _ => ⟨cells_at hc, hv⟩⟩
      · exact ⟨(.mk 0 0 0 ⟨#[]⟩ [] [], []), fun h => absurd h hj⟩
    let G : Nat → GV × List Value := fun j => Classical.choose (key j)
    have hG : ∀ j, j < len → CellsAt w (a.add (j * 6)) (G j).2 ∧ RepGV (fun _ => True) w (G j).1 (G j).2 := fun j hj => Classical.choose_spec (key j) hj
    have hlenl : ((List.range len).map fun j => (G j).1).length = len := by simp
    refine ⟨.mk kind N F s keys ((List.range len).map fun j => (G j).1), ?_⟩
    have := RepGV.close (S := fun _ => True) (w := w) (la := some a) (lc := cap) (okk (l := (List.range len).map fun j => (G j).1) (by rw [hlenl]; omega)) hkc (by rw [hlenl]; exact hl) hkr (fun j x hj => by
      rw [List.getElem?_map] at hj
      obtain ⟨i, hi, rfl⟩ := Option.map_eq_some_iff.1 hj
      obtain ⟨hlt, rfl⟩ := List.getElem?_eq_some_iff.1 hi
      simp only [List.length_range] at hlt
      simp only [List.getElem_range]
      exact ⟨a, (G j).2, rfl, trivial, (hG j hlt).2, (hG j hlt).2.length, (hG j hlt).1⟩)
    rw [hlenl] at this
    exact this
end
end Go.Smd
end
section
set_option linter.unusedSimpArgs false
namespace Go.Smd
open Go.RowKit Go.Proofs Go.ChangeShapes Go.WideShapes Go.Deep
section
variable {H : Type} {enc : TypeId × Value → H} {w : World} {held : Bool} {P : Program}
variable (enc w held P) in
def OpensAt {α : Type} (n : Nat) (T : TypeId) (E : α → List D) : Prop := ∀ (m : Nat), m ≤ n → ∀ (cs : List Value) (x : DataW H × List MemPlace), DataW.trod enc P w 0 (fun _ => true) held m T cs = some x → Light (x.1.weights P T) →
  ∃ a, All2 (RepD P w (fun _ => True)) (E a) cs
theorem opens_val {n : Nat} : OpensAt enc w held Try.prog n 26 gvD := fun m _ cs x h hw => by
  obtain ⟨g, hg⟩ := open_val m cs x h hw
  exact ⟨g, repGV_rep hg⟩
theorem cls_all2' {S : Nat → Prop} {β : Nat → Value} {h : Nat → Option Ow} {xs : List D} {us : List Value} (k : All2 (RepD P w S) xs us) : All2 (RepC P S β h w) (cls xs) us := by
  induction k with
  | nil => exact .nil
  | cons k t ih => exact .cons k ih
theorem open_agg {α : Type} {T : TypeId} {E : α → List D} {v : Value} {d : DataW H} {p : List MemPlace} (hd : DataW.Trod enc P w 0 (fun _ => true) held T v d p) (hw : Light (d.weights P T)) (h : ∀ n, OpensAt enc w held P n T E) (h2 : ∀ a, (E a).length ≠ 1) :
    ∃ a, RepA P (fun _ => True) noB noH w (.agg (cls (E a))) v := by
  obtain ⟨fuel, hd⟩ := hd
  obtain ⟨a, ha⟩ := h fuel fuel (Nat.le_refl _) _ _ hd hw
  have hl := ha.length
  refine ⟨a, v.cells.toList, ?_, cls_all2' ha⟩
  cases v with
  | agg cs => simp [Value.cells]
  | _ => simp [Value.cells] at hl; exact absurd hl (h2 a)
end
end Go.Smd
end
section
namespace Go.Proofs.Ytphldfnnjoehpaa
open Go.Smd Go.RowKit Go.Proofs Go.ChangeShapes Go.WideShapes Go.ChangeAt
set_option maxRecDepth 100000 in
theorem zipCounts_lifted (os : Os) (started : os.Started) (H : Type) (enc : TypeId × Value → H) :
    ReturnsInHanded {} Try.checked os 10 .any (Rows.fnZipCountsSpec.pre6 enc Try.prog Try.f10 Rows.fnZipCountsRow.domain false) (Rows.fnZipCountsSpec.post enc Try.prog Try.f10 false true false false) := by
  refine law_lift Try.func10 rfl rfl (by decide +kernel) (by kernel_rfl) started (fun ds h => ?_)
    (ChangeSpec.witness6 (enc := enc) (C := Try.checked) false ⟨#[], #[.agg #[.int .i64 0, .int .i64 0, .float .f64 0, .string ⟨#[]⟩, .slice none 0 0, .slice none 0 0], .agg #[.int .i64 0, .int .i64 0, .float .f64 0, .string ⟨#[]⟩, .slice none 0 0, .slice none 0 0]], []⟩ 8 (by kernel_rfl) (by kernel_rfl) (by kernel_rfl) (by kernel_rfl)) ?_
  · match ds, h with
    | [d1, d2], _ => rfl
  · intro W args ds p hA hw hval
    rw [Try.params10] at hA hw
    obtain ⟨v1, vs1, d1, ds1, p1, q1, e1, rfl, rfl, t1, hA⟩ := trodAll_cons hA
    obtain ⟨v2, vs2, d2, ds2, p2, q2, rfl, rfl, rfl, t2, hA⟩ := trodAll_cons hA
    obtain ⟨rfl, rfl, rfl⟩ := trodAll_nil hA
    have ea : args = #[v1, v2] := by rw [← Array.toArray_toList (xs := args), e1]
    subst ea
    simp only [DataW.weightsEach] at hw
    have hw : Light (DataW.weights Try.prog 26 d1 ++ (DataW.weights Try.prog 26 d2 ++ [])) := hw
    have w1 := hw.append.1
    have w2 := hw.append.2.append.1
    obtain ⟨a, ra⟩ := open_agg t1 w1 (fun n => opens_val) (fun g => by simp)
    obtain ⟨b, rb⟩ := open_agg t2 w2 (fun n => opens_val) (fun g => by simp)
    exact law_walk (fnZipCounts_a a b) (.cons ra (.cons rb .nil))
theorem zipCounts_holds : Rows.FnZipCountsSaid :=
  OpenClaim.holds_of_wide 10 Try.f10 rfl rfl rfl rfl rfl rfl rfl ⟨rfl, rfl, rfl, rfl, rfl⟩ rfl rfl rfl rfl rfl (by kernel_rfl) Try.func10 (by kernel_rfl)
    (of_decide_eq_true (by kernel_rfl)) (by unfold Func.isWrapper; first | (rw [if_pos (by decide +kernel)]; kernel_rfl) | (rw [if_neg (by decide +kernel)]; exact ⟨rfl, rfl⟩))
    (fun os started H enc _ => zipCounts_lifted os started H enc)
end Go.Proofs.Ytphldfnnjoehpaa
end
#print axioms Go.Proofs.Ytphldfnnjoehpaa.zipCounts_holds
