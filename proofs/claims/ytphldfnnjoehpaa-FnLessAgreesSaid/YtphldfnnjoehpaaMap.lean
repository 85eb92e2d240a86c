/- Maps with string keys in memory: update, look-up, delete, length. -/
import Derived.Test.YtphldfnnjoehpaaBase
namespace Go.Smd
open Go.RowKit Go.Proofs

/-- w with object o in block r. -/
def put (w : World) (r : Nat) (o : Obj) : World := { w with heap := w.heap.setIfInBounds r o }
theorem put_size (w : World) (r : Nat) (o : Obj) : (put w r o).heap.size = w.heap.size := by simp [put]
theorem put_at {w : World} {r : Nat} (o : Obj) (h : r < w.heap.size) : (put w r o).heap[r]? = some o := by simp [put, h]
theorem put_other (w : World) {r b : Nat} (o : Obj) (h : b ≠ r) : (put w r o).heap[b]? = w.heap[b]? := by
  simp only [put, Array.getElem?_setIfInBounds]; rw [if_neg (Ne.symm h)]
theorem put_same (w : World) (r : Nat) (o : Obj) : Same (· ≠ r) w (put w r o) := fun _ h => put_other w o h
theorem Ext.put {a w : World} (h : Ext a w) {r : Nat} (hr : a.heap.size ≤ r) (o : Obj) : Ext a (put w r o) :=
  Below.trans h ⟨rfl, rfl, rfl, by rw [put_size]; exact Nat.le_refl _, fun k hk => put_other w o (by omega)⟩
theorem below_put {B : Nat} {a w : World} (h : Below B a w) {r : Nat} (hr : B ≤ r) (o : Obj) : Below B a (put w r o) :=
  Below.trans h ⟨rfl, rfl, rfl, by rw [put_size]; exact Nat.le_refl _, fun k hk => put_other w o (by omega)⟩

/-- Setting key k among entries. -/
def setE (k : ByteArray) (v : Value) (clock : Nat) : List ByteArray → List MapEntry → List MapEntry
  | q :: ks, e :: es => if q = k then { e with key := .string k, val := v } :: es else e :: setE k v clock ks es
  | _, es => es ++ [{ key := .string k, val := v, born := clock }]
def idxOf (k : ByteArray) : List ByteArray → Option Nat
  | [] => none
  | q :: ks => if q = k then some 0 else (idxOf k ks).map (· + 1)

theorem beq_str (a b : ByteArray) : (a == b) = decide (a = b) := by
  cases a with
  | mk a =>
    cases b with
    | mk b =>
      show (a == b) = _
      by_cases h : a = b
      · subst h; simp
      · rw [decide_eq_false (by simp [h])]; exact beq_eq_false_iff_ne.2 h

theorem findNow_str (k : ByteArray) : ∀ (ks : List ByteArray) (es : List MapEntry) (i : Nat), es.map (·.key) = ks.map Value.string →
    Instr.findNow .string (.string k) es i = some ((idxOf k ks).bind fun j => (es[j]?).map fun e => (i + j, e.val))
  | [], [], i, _ => by simp [Instr.findNow, idxOf]
  | [], e :: es, i, h => by simp at h
  | q :: ks, [], i, h => by simp at h
  | q :: ks, e :: es, i, h => by
    simp only [List.map_cons, List.cons.injEq] at h
    obtain ⟨h1, h2⟩ := h
    simp only [Instr.findNow, h1, Instr.sameNow, beq_str, idxOf]
    by_cases hq : q = k
    · simp [hq]
    · have hq' : ¬ k = q := fun e => hq e.symm
      simp only [hq', decide_false, hq, if_false]
      rw [findNow_str k ks es (i + 1) h2]
      cases idxOf k ks <;> simp [Nat.add_assoc, Nat.add_comm 1]

theorem checkKey_str {P : Program} {k : TypeId} (hk : P.underlying k = some .string) (b : Bool) (n : Nat) (s : ByteArray) (w : World) :
    (Instr.checkKey b (n + 1) k (.string s)).run P w = .ok () w := by
  simp [Instr.checkKey, run_underlying hk]

theorem idxOf_lt {k : ByteArray} : ∀ {ks : List ByteArray} {i : Nat}, idxOf k ks = some i → ks[i]? = some k
  | [], i, h => by simp [idxOf] at h
  | q :: ks, i, h => by
    simp only [idxOf] at h
    split at h
    · next e => cases h; simp [e]
    · cases hj : idxOf k ks with
      | none => simp [hj] at h
      | some j => simp [hj] at h; subst h; simpa using idxOf_lt hj

theorem setE_some {k : ByteArray} {v : Value} {clock : Nat} : ∀ {ks : List ByteArray} {es : List MapEntry} {i : Nat}, es.length = ks.length → idxOf k ks = some i →
    setE k v clock ks es = es.modify i fun e => { e with key := .string k, val := v }
  | [], es, i, _, h => by simp [idxOf] at h
  | q :: ks, [], i, hl, h => by simp at hl
  | q :: ks, e :: es, i, hl, h => by
    simp only [idxOf] at h
    split at h
    · next e' => cases h; simp [setE, e']
    · next hq =>
      cases hj : idxOf k ks with
      | none => simp [hj] at h
      | some j =>
        simp [hj] at h; subst h
        simp [setE, hq, setE_some (v := v) (clock := clock) (es := es) (by simpa using hl) hj]
theorem setE_none {k : ByteArray} {v : Value} {clock : Nat} : ∀ {ks : List ByteArray} {es : List MapEntry}, es.length = ks.length → idxOf k ks = none →
    setE k v clock ks es = es ++ [{ key := .string k, val := v, born := clock }]
  | [], es, _, h => by simp [setE]
  | q :: ks, [], hl, h => by simp at hl
  | q :: ks, e :: es, hl, h => by
    simp only [idxOf] at h
    split at h
    · cases h
    · next hq =>
      have hj : idxOf k ks = none := by cases hj : idxOf k ks <;> simp_all
      simp [setE, hq, setE_none (v := v) (clock := clock) (es := es) (by simpa using hl) hj]

theorem run_mapUpdate_str {P : Program} {t k e : TypeId} (ht : P.underlying t = some (.map k e)) (hk : P.underlying k = some .string) {w : World} {r : Nat} {es : List MapEntry} {clock : Nat} {ks : List ByteArray}
    (hr : w.heap[r]? = some (.map es.toArray clock)) (hks : es.map (·.key) = ks.map Value.string) (s : ByteArray) (v : Value) :
    (Instr.mapUpdate t (.map (some r)) (.string s) v).run P w = .ok () (put w r (.map (setE s v clock ks es).toArray (if (idxOf s ks).isSome then clock else clock + 1))) := by
  have hl : es.length = ks.length := by have := congrArg List.length hks; simpa using this
  have hf := findNow_str s ks es 0 hks
  unfold Instr.mapUpdate
  simp only [run_underlying ht, Sem.run_bind, Result.andThen_ok, getObj, Sem.run, hr, Instr.findKey, run_underlying hk, checkKey_str hk false 9999]
  rw [hf]
  cases hi : idxOf s ks with
  | none =>
    simp [setE_none hl hi, setObj, Sem.run, hr, put]
  | some i =>
    have h1 := idxOf_lt hi
    have h2 : i < es.length := by rw [hl]; exact (List.getElem?_eq_some_iff.1 h1).1
    have h3 : (es.map (·.key))[i]? = some (.string s) := by rw [hks]; simp [h1]
    have h4 : es[i].key = .string s := by simpa [List.getElem?_eq_getElem h2] using h3
    simp [setE_some hl hi, List.getElem?_eq_getElem h2, Instr.keyThatStays, h4, Instr.sameBits, beq_str, setObj, Sem.run, hr, put]

/-! ### Fields of a tree's map -/
abbrev Fields := List (ByteArray × Tree)
def ins (k : ByteArray) (t : Tree) : Fields → Fields
  | [] => [(k, t)]
  | p :: m => if p.1 = k then (k, t) :: m else p :: ins k t m
def getF (k : ByteArray) : Fields → Option Tree
  | [] => none
  | p :: m => if p.1 = k then some p.2 else getF k m
def delF (k : ByteArray) : Fields → Fields
  | [] => []
  | p :: m => if p.1 = k then m else p :: delF k m

theorem ins_keys_length (k : ByteArray) (t : Tree) : ∀ m : Fields, (ins k t m).length ≤ m.length + 1
  | [] => by simp [ins]
  | p :: m => by
    simp only [ins]; split
    · simp
    · have := ins_keys_length k t m; simp; omega

theorem setE_keys {k : ByteArray} {v : Value} {clock : Nat} (t : Tree) : ∀ {m : Fields} {es : List MapEntry}, es.map (·.key) = m.map (fun p => Value.string p.1) →
    (setE k v clock (m.map (·.1)) es).map (·.key) = (ins k t m).map fun p => Value.string p.1
  | [], [], _ => by simp [setE, ins]
  | [], e :: es, h => by simp at h
  | p :: m, [], h => by simp at h
  | p :: m, e :: es, h => by
    simp only [List.map_cons, List.cons.injEq] at h
    simp only [List.map_cons, setE, ins]
    split
    · next e' => simp [h.2]
    · simp [h.1, setE_keys (k := k) (v := v) (clock := clock) t h.2]

theorem setE_born {k : ByteArray} {v : Value} {clock : Nat} : ∀ {ks : List ByteArray} {es : List MapEntry}, es.length = ks.length →
    (setE k v clock ks es).map (·.born) = if (idxOf k ks).isSome then es.map (·.born) else es.map (·.born) ++ [clock]
  | [], [], _ => by simp [setE, idxOf]
  | [], e :: es, h => by simp at h
  | q :: ks, [], h => by simp at h
  | q :: ks, e :: es, h => by
    simp only [setE, idxOf]
    split
    · simp
    · simp only [List.map_cons, Option.isSome_map]
      rw [setE_born (k := k) (v := v) (clock := clock) (by simpa using h)]
      split <;> simp

theorem setE_vals {R : Tree → Value → Prop} {k : ByteArray} {v : Value} {clock : Nat} {t : Tree} (hv : R t v) : ∀ {m : Fields} {es : List MapEntry}, es.length = m.length →
    (∀ (j : Nat) (p : ByteArray × Tree) (e : MapEntry), m[j]? = some p → es[j]? = some e → R p.2 e.val) →
    ∀ (j : Nat) (p : ByteArray × Tree) (e : MapEntry), (ins k t m)[j]? = some p → (setE k v clock (m.map (·.1)) es)[j]? = some e → R p.2 e.val
  | [], [], _, h, j, p, e, hp, he => by
    cases j with
    | zero => simp [ins, setE] at hp he; subst hp; subst he; exact hv
    | succ j => simp [ins] at hp
  | [], e :: es, hl, _, _, _, _, _, _ => by simp at hl
  | p :: m, [], hl, _, _, _, _, _, _ => by simp at hl
  | q :: m, e0 :: es, hl, h, j, p, e, hp, he => by
    simp only [List.map_cons, setE, ins] at hp he
    split at hp
    · next hq =>
      rw [if_pos hq] at he
      cases j with
      | zero => simp at hp he; subst hp; subst he; exact hv
      | succ j => exact h (j + 1) p e (by simpa using hp) (by simpa using he)
    · next hq =>
      rw [if_neg hq] at he
      cases j with
      | zero => exact h 0 p e (by simpa using hp) (by simpa using he)
      | succ j => exact setE_vals hv (by simpa using hl) (fun j p e hp he => h (j + 1) p e (by simpa using hp) (by simpa using he)) j p e (by simpa using hp) (by simpa using he)

theorem setE_mem {k : ByteArray} {v : Value} {clock : Nat} : ∀ {ks : List ByteArray} {es : List MapEntry}, es.length = ks.length → ∀ e ∈ setE k v clock ks es, (∃ e' ∈ es, e.born = e'.born) ∨ (e.born = clock ∧ idxOf k ks = none)
  | [], [], _, e, he => by simp [setE] at he; subst he; exact .inr ⟨rfl, rfl⟩
  | [], e0 :: es, h, _, _ => by simp at h
  | q :: ks, [], h, _, _ => by simp at h
  | q :: ks, e0 :: es, hl, e, he => by
    simp only [setE] at he
    split at he
    · rcases List.mem_cons.1 he with rfl | he
      · exact .inl ⟨e0, by simp, rfl⟩
      · exact .inl ⟨e, by simp [he], rfl⟩
    · next hq =>
      rcases List.mem_cons.1 he with rfl | he
      · exact .inl ⟨e, by simp, rfl⟩
      · rcases setE_mem (k := k) (v := v) (clock := clock) (by simpa using hl) e he with ⟨e', he', hb⟩ | ⟨hb, hn⟩
        · exact .inl ⟨e', by simp [he'], hb⟩
        · exact .inr ⟨hb, by simp [idxOf, hq, hn]⟩

theorem mem_ins {k : ByteArray} {t : Tree} : ∀ {m : Fields} {p : ByteArray × Tree}, p ∈ ins k t m → p = (k, t) ∨ p ∈ m
  | [], p, h => by simp [ins] at h; exact .inl h
  | q :: m, p, h => by
    simp only [ins] at h
    split at h
    · rcases List.mem_cons.1 h with h | h
      · exact .inl h
      · exact .inr (by simp [h])
    · rcases List.mem_cons.1 h with h | h
      · exact .inr (by simp [h])
      · rcases mem_ins h with h | h
        · exact .inl h
        · exact .inr (by simp [h])

/-- m[k] = x in memory. -/
theorem mapSet {S : Nat → Prop} {w : World} {m : Fields} {r : Nat} (h : RepT w S (.map m) (.iface 154 (.map (some r)))) {k : ByteArray} {t : Tree} {x : Value}
    (hx : RepT w (fun b => S b ∧ b ≠ r) t x) (hk : k.size ≤ 140737488351232) (hm : m.length + 1 ≤ 140737488351232) :
    ∃ o, (Instr.mapUpdate 154 (.map (some r)) (.string k) x).run Try.prog w = .ok () (put w r o) ∧ RepT (put w r o) S (.map (ins k t m)) (.iface 154 (.map (some r))) := by
  cases h with
  | @map _ _ _ es clock hS hr _ hkeys hs hb hbc hval =>
    have hl : es.length = m.length := by have := congrArg List.length hkeys; simpa using this
    refine ⟨_, run_mapUpdate_str Try.underlying154 Try.underlying9 hr (ks := m.map (·.1)) (by rw [hkeys]; simp) k x, ?_⟩
    have hlt : r < w.heap.size := (Array.getElem?_eq_some_iff.1 hr).1
    refine .map hS (put_at _ hlt) ?_ (setE_keys t hkeys) ?_ ?_ ?_ ?_
    · have := ins_keys_length k t m; omega
    · intro p hp
      rcases mem_ins hp with rfl | hp
      · exact hk
      · exact hs p hp
    · rw [setE_born (by simpa using hl)]
      split
      · exact hb
      · rw [List.pairwise_append]
        refine ⟨hb, by simp, fun a ha b hb' => ?_⟩
        obtain ⟨e, he, rfl⟩ := List.mem_map.1 ha
        simp at hb'; subst hb'; exact hbc e he
    · intro e he
      rcases setE_mem (by simpa using hl) e he with ⟨e', he', hbe⟩ | ⟨hbe, hn⟩
      · have := hbc e' he'; rw [hbe]; split <;> omega
      · rw [hbe, hn]; simp
    · have e : Same (fun b => S b ∧ b ≠ r) w (put w r (.map (setE k x clock (m.map (·.1)) es).toArray (if (idxOf k (m.map (·.1))).isSome then clock else clock + 1))) := fun b hb => put_other w _ hb.2
      exact setE_vals (R := fun t v => RepT (put w r _) (fun b => S b ∧ b ≠ r) t v) (hx.frame e fun _ h => h) hl fun j p en hp he => (hval j p en hp he).frame e fun _ h => h
end Go.Smd
