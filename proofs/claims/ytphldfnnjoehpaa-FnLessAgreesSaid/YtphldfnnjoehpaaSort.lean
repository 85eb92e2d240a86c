/- Strings put in order as they come: a slice that the call owns. -/
import Derived.Test.YtphldfnnjoehpaaTree
import Derived.Test.YtphldfnnjoehpaaStr
import Derived.Test.YtphldfnnjoehpaaRegion
set_option linter.unusedSimpArgs false
namespace Go.Smd
open Go.RowKit Go.Proofs

section
variable {P : Program} {ops : Array Oper} {B : List Nat} {Q : Exit → Act → World → Prop}
/-- An operation that looks at no memory, taken first, whatever else may come up. -/
theorem wpAnyE_pure {i : Nat} {oi : Oper} {v : Value} (hi : ops[i]? = some oi) (hsel : ∀ (j : Nat) (o : Oper) cs b, ops[j]? = some o → o.op ≠ .select cs b) (hQ : ∀ c a w, Q (.panic c) (a.put oi.dst v) w → Q (.panic c) a w) :
    ∀ (n : Nat) (listed : Array Bool) (a : Act) (w : World),
      (∀ j oj, ops[j]? = some oj → j ≠ i → listed.getD j true = false → (∀ e ∈ oj.after, Region.binds .any e = true → e.on ≠ i) → oi.apart ops oj = true) →
      i ∈ Region.ready .any ops listed → YieldsIf P ops (fun _ => True) oi v a →
      wpAnyE P ops B Q n (listed.setIfInBounds i true) (a.put oi.dst v) w → wpAnyE P ops B Q (n + 1) listed a w := by
  intro n
  induction n with
  | zero =>
    intro listed a w _ hr hy H
    refine ⟨fun h => (by rw [h] at hr; cases hr), fun j hj => ?_⟩
    by_cases hji : j = i
    · subst hji; exact hy.wpOp hi trivial ⟨fun _ => Ext.refl w, H⟩
    · have := ready_mono hj hji
      rw [H.1] at this
      cases this
  | succ n ih =>
    intro listed a w hfree hr hy H
    refine ⟨fun h => (by rw [h] at hr; cases hr), fun j hj => ?_⟩
    by_cases hji : j = i
    · subst hji; exact hy.wpOp hi trivial ⟨fun _ => Ext.refl w, H⟩
    · have h1 := H.2 j (ready_mono hj hji)
      obtain ⟨hjun, oj, hoj, hall⟩ := mem_ready.1 hj
      have hnot : ∀ e ∈ oj.after, Region.binds .any e = true → e.on ≠ i := fun e he hb heq => by
        have h1 := hall e he hb
        rw [heq] at h1
        exact not_both (mem_ready.1 hr).1 h1
      have hap := hfree j oj hoj hji hjun hnot
      have h2 := wpOp_putIf hoj hap (fun cs b => hsel i oi cs b hi) (fun cs b => hsel j oj cs b hoj) hQ hy h1
      have hfree' : ∀ k ok, ops[k]? = some ok → k ≠ i → (listed.setIfInBounds j true).getD k true = false → (∀ e ∈ ok.after, Region.binds .any e = true → e.on ≠ i) → oi.apart ops ok = true := fun k ok hk hki hun hno => by
        refine hfree k ok hk hki ?_ hno
        by_cases hjk : j = k
        · subst hjk; exact hjun
        · rw [getD_set_ne true hjk] at hun; exact hun
      refine wpOp_mono (fun a' w' h3 => ?_) h2
      refine ⟨h3.2.1, ih (listed.setIfInBounds j true) a' w' hfree' (ready_mono hr (Ne.symm hji)) h3.1 ?_⟩
      rw [Array.setIfInBounds_comm _ _ hji]
      exact h3.2.2
def pureOk (ops : Array Oper) (listed : Array Bool) (i : Nat) : Bool :=
  Region.free .any ops listed i && (Region.ready .any ops listed).contains i && ((ops[i]?).map fun o => valueOp o.op).getD false
def puresOk (ops : Array Oper) : Array Bool → List Nat → Bool
  | _, [] => true
  | listed, i :: is => pureOk ops listed i && puresOk ops (listed.setIfInBounds i true) is
theorem yieldsIf_of_pure {o : Oper} {a : Act} {v : Value} (hv : valueOp o.op = true) (hw : Region.wanted o (yielded ops a.tmps) = true) (h : ∀ w', True → o.quietAt P a (fun _ => True) w' v) : YieldsIf P ops (fun _ => True) o v a := by
  refine .inl ⟨hw, fun w' _ => ?_⟩
  have h1 := h w' trivial
  unfold Oper.quietAt at h1
  generalize hr : (execOp a.eval o).run P w' = r at h1
  cases r with
  | ok n w'' =>
    obtain ⟨x, rfl⟩ := valueOp_form hv hr
    simp only [Oper.quietUpon] at h1
    rw [h1.1, h1.2]
  | halt x w'' => simp only [Oper.quietUpon] at h1
theorem pures_go (hsel : Region.noSelect ops = true) (hQ : ∀ c (a : Act) t w, Q (.panic c) { a with tmps := t } w → Q (.panic c) a w) {w : World} : ∀ (is : List Nat) (n : Nat) (listed : Array Bool) (a : Act) (l : List Oper),
    is.map (ops[·]?) = l.map some → puresOk ops listed is = true →
    wpQuiet P ops (fun _ => True) (fun a' => wpAnyE P ops B Q n (listedBehind listed is) a' w) l a → wpAnyE P ops B Q (n + is.length) listed a w
  | [], n, listed, a, l, hl, _, h => by
    cases l with
    | nil => exact h
    | cons o l => simp at hl
  | i :: is, n, listed, a, l, hl, hok, h => by
    cases l with
    | nil => simp at hl
    | cons o l =>
      simp only [List.map_cons, List.cons.injEq] at hl
      simp only [puresOk, Bool.and_eq_true] at hok
      obtain ⟨hok, hok'⟩ := hok
      simp only [pureOk, Bool.and_eq_true] at hok
      obtain ⟨⟨hf, hr⟩, hvo⟩ := hok
      have hfree : ∀ j oj, ops[j]? = some oj → j ≠ i → listed.getD j true = false → (∀ e ∈ oj.after, Region.binds .any e = true → e.on ≠ i) → o.apart ops oj = true := fun j oj hj hne hun hno => Region.free_spec hl.1 hf j oj hj hne hun hno
      simp only [hl.1, Option.map_some, Option.getD_some] at hvo
      show wpAnyE P ops B Q (n + (is.length + 1)) listed a w
      rw [← Nat.add_assoc]
      unfold wpQuiet at h
      split at h
      · next hw =>
        obtain ⟨v, hv, h⟩ := h
        exact wpAnyE_pure hl.1 (Region.noSelect_spec hsel) (fun c a w => panic_put hQ c a _ _ w) _ _ _ _ hfree (by simpa using hr) (yieldsIf_of_pure hvo hw hv) (pures_go hsel hQ is n _ _ l hl.2 hok' h)
      · next hw =>
        exact wpAnyE_pure hl.1 (Region.noSelect_spec hsel) (fun c a w => panic_put hQ c a _ _ w) _ _ _ _ hfree (by simpa using hr) (.inr ⟨by simpa using hw, rfl⟩) (pures_go hsel hQ is n _ _ l hl.2 hok' h)
/-- The operations 'is', which look at no memory, are taken first. -/
theorem E_pures {w : World} {m : Nat} {listed listed' : Array Bool} {a : Act} (is : List Nat) (n : Nat) (hsel : Region.noSelect ops = true) (hQ : ∀ c (a : Act) t w, Q (.panic c) { a with tmps := t } w → Q (.panic c) a w)
    (hok : puresOk ops listed is = true) (hm : m = n + is.length) (hli : listedBehind listed is = listed')
    (h : qIdx P ops (fun _ => True) (fun a' => wpAnyE P ops B Q n listed' a' w) is a) : wpAnyE P ops B Q m listed a w := by
  subst hm; subst hli
  obtain ⟨l, hl, hq⟩ := qIdx_list is a h
  exact pures_go hsel hQ is n listed a l hl hok hq

/-- Two stores come up: either first. -/
theorem E_bars {w : World} {n m i j : Nat} {oi oj : Oper} {listed li lj : Array Bool} {a : Act} (hr : Region.ready .any ops listed = [i, j]) (hBi : B.contains i = true) (hBj : B.contains j = true) (hoi' : nth ops.toList i = some oi) (hoj' : nth ops.toList j = some oj) (hm : m = n + 1) (hli : listed.setIfInBounds i true = li) (hlj : listed.setIfInBounds j true = lj)
    (h1 : wpList P ops (Exit.then (fun a' w' => wpAnyE P ops B Q n li a' w') Q) [oi] a w)
    (h2 : wpList P ops (Exit.then (fun a' w' => wpAnyE P ops B Q n lj a' w') Q) [oj] a w) : wpAnyE P ops B Q m listed a w := by
  have hoi := op_of_nth hoi'; have hoj := op_of_nth hoj'
  subst hm; subst hli; subst hlj
  refine ⟨fun h0 => by rw [h0] at hr; simp at hr, fun k hk => ?_⟩
  rw [hr] at hk; simp at hk
  rcases hk with rfl | rfl
  · exact wpOp_mono (fun _ _ k => ⟨fun hb => (by rw [hBi] at hb; cases hb), k⟩) (wpOp_of_list hoi h1)
  · exact wpOp_mono (fun _ _ k => ⟨fun hb => (by rw [hBj] at hb; cases hb), k⟩) (wpOp_of_list hoj h2)
end

/-- The slice v, which the call owns above B, holds the strings ss. -/
def OwnS (w : World) (B : Nat) (v : Value) (ss : List ByteArray) : Prop := w.ownsRow B 9 1 v ss.length (ss.map Value.string)
theorem OwnS.nil (w : World) (B : Nat) : OwnS w B (.slice none 0 0) [] := ⟨rfl, .inl ⟨rfl, rfl⟩⟩
theorem OwnS.kept {w w' : World} {B : Nat} {v : Value} {ss : List ByteArray} {row : Option Nat} (h : OwnS w B v ss) (hg : w.grownBy w' row) (hne : v.ownBlock = none ∨ v.ownBlock ≠ row) : OwnS w' B v ss := World.ownsRow.kept h hg hne
theorem OwnS.ne {w : World} {B : Nat} {v : Value} {ss : List ByteArray} (h : OwnS w B v ss) {b : Nat} (hb : b < B) : v.ownBlock ≠ some b := fun e => by have := (World.ownsRow.lt h b e).1; omega
theorem OwnS.form {w : World} {B : Nat} {v : Value} {ss : List ByteArray} (h : OwnS w B v ss) : ∃ A c, v = .slice A ss.length c ∧ ss.length ≤ c := by
  rcases h.2 with ⟨h', hn⟩ | ⟨g', cap', cur, h', _, hg, hnc, _⟩
  · exact ⟨none, 0, by rw [h', hn], by omega⟩
  · exact ⟨_, _, h', hnc⟩
theorem OwnS.addr {w : World} {B : Nat} {v : Value} {ss : List ByteArray} (h : OwnS w B v ss) (hn : 0 < ss.length) : ∃ g c, v = .slice (some ⟨g, 0, none⟩) ss.length c ∧ B ≤ g ∧ g < w.heap.size := by
  rcases h.2 with ⟨h', h0⟩ | ⟨g', cap', cur, h', hb, hg, hnc, _⟩
  · omega
  · exact ⟨_, _, h', hb, (Array.getElem?_eq_some_iff.1 hg).1⟩
theorem OwnS.cell {w : World} {B g c : Nat} {n : Nat} {ss : List ByteArray} (h : OwnS w B (.slice (some ⟨g, 0, none⟩) n c) ss) (hn : n = ss.length) {j : Nat} {s : ByteArray} (hj : ss[j]? = some s) : w.cell? ⟨g, j, none⟩ = some (.string s) := by
  subst hn
  rw [World.ownsRow.cellAt h j (by have := (List.getElem?_eq_some_iff.1 hj).1; omega), List.getElem?_map, hj]; rfl
theorem OwnS.set {w : World} {B g c n : Nat} {ss : List ByteArray} (h : OwnS w B (.slice (some ⟨g, 0, none⟩) n c) ss) (hn : n = ss.length) (j : Nat) (s : ByteArray) :
    OwnS (w.setCell ⟨g, j, none⟩ (.string s)) B (.slice (some ⟨g, 0, none⟩) n c) (ss.set j s) ∧ w.grownBy (w.setCell ⟨g, j, none⟩ (.string s)) (some g) := by
  subst hn
  have := World.ownsRow.stored h j (.string s)
  unfold OwnS
  rw [List.length_set, List.map_set]; exact this
theorem OwnS.push {w : World} {B : Nat} {v : Value} {ss : List ByteArray} (h : OwnS w B v ss) (s : ByteArray) (ty : TypeId) (hB : B ≤ w.heap.size) (hn : (ss.length + 1) * 16 ≤ 140737488355328) :
    ∃ v' w', (Builtin.append_ #[23, 23] ty #[v, .slice (some ⟨w.heap.size, 0, none⟩) 1 1]).run Try.prog (w.alloc (.cells #[.string s] 9)) = .ok v' w' ∧ OwnS w' B v' (ss ++ [s]) ∧ w.grownBy w' v.ownBlock := by
  obtain ⟨i, hi, hz, hs, hb⟩ := info_parts info_str
  obtain ⟨v', w', hr, ho, hg, _⟩ := run_append_own (P := Try.prog) (w.alloc (.cells #[.string s] 9)) B 23 ty 9 i _ 1 16 Try.underlying23 hi hz hs hb rfl (by omega) v ss.length (ss.map .string) (World.ownsRow.alloc h _)
    ⟨w.heap.size, 0, none⟩ 1 1 [.string s] rfl (by simpa using World.news_of_block (cs := #[.string s]) (t := 9) (fr := (0, 0)) (heap_alloc_new w (.cells #[.string s] 9))) (by simp [Value.oneCell']) (by simp only [maxLen]; omega) hn (by rw [size_alloc]; omega)
  refine ⟨v', w', hr, ?_, World.grownBy.trans (World.grownBy_alloc w (.cells #[.string s] 9) v.ownBlock) hg⟩
  unfold OwnS
  rw [List.length_append, List.map_append]; exact ho
theorem OwnS.rep {w : World} {B : Nat} {v : Value} {ss : List ByteArray} (h : OwnS w B v ss) : ∃ A c, v = .slice A ss.length c ∧ ss.length ≤ c ∧ RepStrs (B ≤ ·) w A ss := by
  rcases h.2 with ⟨h', h0⟩ | ⟨g', cap', cur, h', hb, hg, hnc, _⟩
  · have : ss = [] := List.eq_nil_of_length_eq_zero h0
    subst this
    exact ⟨none, 0, h', Nat.zero_le _, RowOf.nil⟩
  · subst h'
    refine ⟨_, _, rfl, hnc, fun j s hj => ⟨_, [.string s], rfl, hb, rfl, rfl, fun i u hu => ?_⟩⟩
    match i, hu with
    | 0, hu =>
      simp at hu; subst hu
      have := OwnS.cell h rfl hj
      have e : ((⟨g', 0, none⟩ : Addr).add (j * 1)).add 0 = ⟨g', j, none⟩ := by unfold Addr.add; by_cases h0 : j = 0 <;> simp [h0]
      rw [e]; exact this

/-! ### Order -/
/-- k put before the place j of ss. -/
def putAt (k : ByteArray) (ss : List ByteArray) (j : Nat) : List ByteArray := ss.take j ++ k :: ss.drop j
theorem putAt_length (k : ByteArray) (ss : List ByteArray) (j : Nat) : (putAt k ss j).length = ss.length + 1 := by simp [putAt]; omega
theorem putAt_end (k : ByteArray) (ss : List ByteArray) : putAt k ss ss.length = ss ++ [k] := by simp [putAt]
theorem putAt_at (k : ByteArray) {ss : List ByteArray} {j : Nat} (h : j ≤ ss.length) : (putAt k ss j)[j]? = some k := by
  unfold putAt; rw [List.getElem?_append_right (by simp; omega)]; simp [Nat.min_eq_left h]
theorem putAt_prev (k : ByteArray) {ss : List ByteArray} {j : Nat} {s : ByteArray} (h : ss[j]? = some s) : (putAt k ss (j + 1))[j]? = some s := by
  have := (List.getElem?_eq_some_iff.1 h).1
  unfold putAt; rw [List.getElem?_append_left (by simp; omega), List.getElem?_take, if_pos (by omega), h]
theorem putAt_swap (k : ByteArray) {ss : List ByteArray} {j : Nat} {s : ByteArray} (h : ss[j]? = some s) : ((putAt k ss (j + 1)).set (j + 1) s).set j k = putAt k ss j := by
  have hlt := (List.getElem?_eq_some_iff.1 h).1
  apply List.ext_getElem?
  intro i
  have hl : (putAt k ss (j + 1)).length = ss.length + 1 := putAt_length _ _ _
  rw [List.getElem?_set, List.getElem?_set]
  simp only [List.length_set, hl]
  by_cases h1 : j = i
  · subst h1; rw [if_pos rfl, if_pos (by omega), putAt_at k (by omega)]
  · rw [if_neg h1]
    by_cases h2 : j + 1 = i
    · subst h2
      rw [if_pos rfl, if_pos (by omega)]
      unfold putAt
      rw [List.getElem?_append_right (by simp; omega)]
      simp only [List.length_take, Nat.min_eq_left (show j ≤ ss.length by omega), show j + 1 - j = 1 by omega, List.getElem?_cons_succ, List.getElem?_drop, Nat.add_zero]
      exact h.symm
    · rw [if_neg h2]
      unfold putAt
      rcases Nat.lt_or_ge i j with hi | hi
      · rw [List.getElem?_append_left (by simp; omega), List.getElem?_append_left (by simp; omega), List.getElem?_take, List.getElem?_take, if_pos (by omega), if_pos hi]
      · rw [List.getElem?_append_right (by simp; omega), List.getElem?_append_right (by simp; omega)]
        simp only [List.length_take, Nat.min_eq_left (show j ≤ ss.length by omega), Nat.min_eq_left (show j + 1 ≤ ss.length by omega)]
        obtain ⟨p, rfl⟩ : ∃ p, i = j + 2 + p := ⟨i - (j + 2), by omega⟩
        rw [show j + 2 + p - (j + 1) = p + 1 by omega, show j + 2 + p - j = p + 2 by omega]
        simp only [List.getElem?_cons_succ, List.getElem?_drop]
        congr 1; omega
theorem putAt_mem {k q : ByteArray} {ss : List ByteArray} {j : Nat} : q ∈ putAt k ss j ↔ q = k ∨ q ∈ ss := by
  unfold putAt
  have : q ∈ ss ↔ q ∈ ss.take j ∨ q ∈ ss.drop j := by rw [← List.mem_append, List.take_append_drop]
  rw [List.mem_append, List.mem_cons, this]
  constructor <;> rintro (h | h | h) <;> simp [h]
theorem putAt_sorted {k : ByteArray} {ss : List ByteArray} {j : Nat} (hs : ss.Pairwise fun a b => blt a b = true) (h1 : ∀ q ∈ ss.take j, blt q k = true) (h2 : ∀ q ∈ ss.drop j, blt k q = true) : (putAt k ss j).Pairwise fun a b => blt a b = true := by
  unfold putAt
  rw [List.pairwise_append]
  refine ⟨hs.sublist (List.take_sublist _ _), List.pairwise_cons.2 ⟨h2, hs.sublist (List.drop_sublist _ _)⟩, fun a ha b hb => ?_⟩
  rcases List.mem_cons.1 hb with rfl | hb
  · exact h1 a ha
  · exact blt_trans (h1 a ha) (h2 b hb)
theorem sorted_eq : ∀ {a b : List ByteArray}, a.Pairwise (fun a b => blt a b = true) → b.Pairwise (fun a b => blt a b = true) → (∀ q, q ∈ a ↔ q ∈ b) → a = b
  | [], [], _, _, _ => rfl
  | [], y :: b, _, _, h => by have := (h y).2 (List.mem_cons_self ..); cases this
  | x :: a, [], _, _, h => by have := (h x).1 (List.mem_cons_self ..); cases this
  | x :: a, y :: b, ha, hb, h => by
    rw [List.pairwise_cons] at ha hb
    have hxy : x = y := by
      rcases List.mem_cons.1 ((h x).1 (List.mem_cons_self ..)) with e | hx
      · exact e
      · rcases List.mem_cons.1 ((h y).2 (List.mem_cons_self ..)) with e | hy
        · exact e.symm
        · have h1 := hb.1 x hx
          have h2 := ha.1 y hy
          rw [blt_asymm h1] at h2; cases h2
    subst hxy
    rw [sorted_eq ha.2 hb.2 fun q => ?_]
    constructor
    · intro hq
      rcases List.mem_cons.1 ((h q).1 (List.mem_cons_of_mem _ hq)) with rfl | h'
      · have := ha.1 q hq; rw [blt_irrefl] at this; cases this
      · exact h'
    · intro hq
      rcases List.mem_cons.1 ((h q).2 (List.mem_cons_of_mem _ hq)) with rfl | h'
      · have := hb.1 q hq; rw [blt_irrefl] at this; cases this
      · exact h'
end Go.Smd
