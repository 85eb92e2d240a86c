/- A map's entries taken out; put in, and asked for, through the library's map type. -/
import Derived.Test.YtphldfnnjoehpaaRound
set_option linter.unusedSimpArgs false
namespace Go.Smd
open Go.RowKit Go.Proofs

theorem run_delete_str {P : Program} {t k e : TypeId} (ht : P.underlying t = some (.map k e)) (hk : P.underlying k = some .string) {w : World} {r : Nat} {es : List MapEntry} {clock : Nat} {ks : List ByteArray}
    (hr : w.heap[r]? = some (.map es.toArray clock)) (hks : es.map (·.key) = ks.map Value.string) (s : ByteArray) (kt ty : TypeId) :
    (Builtin.delete_ #[t, kt] ty #[.map (some r), .string s]).run P w = .ok (.tuple #[]) (put w r (.map ((idxOf s ks).elim es fun i => es.eraseIdx i).toArray clock)) := by
  have hl : es.length = ks.length := by have := congrArg List.length hks; simpa using this
  have hf := findNow_str s ks es 0 hks
  unfold Builtin.delete_
  simp only [List.getElem?_toArray, List.getElem?_cons_zero, List.getElem?_cons_succ, run_underlying ht, Sem.run_bind, Result.andThen_ok, getObj, Sem.run, hr, Instr.findKey, run_underlying hk, checkKey_str hk _ 9999]
  rw [hf]
  cases hi : idxOf s ks with
  | none => simp [setObj, Sem.run, hr, put]
  | some i =>
    have h1 := idxOf_lt hi
    have hlt : i < es.length := by have := (List.getElem?_eq_some_iff.1 h1).1; omega
    simp [setObj, Sem.run, hr, put, List.getElem?_eq_getElem hlt, Array.eraseIdxIfInBounds, hlt]
theorem map_erase {α β : Type} (f : α → β) : ∀ (l : List α) (i : Nat), (l.eraseIdx i).map f = (l.map f).eraseIdx i
  | [], i => by simp
  | x :: l, 0 => by simp
  | x :: l, i + 1 => by simp [map_erase f l i]
theorem delF_idx (k : ByteArray) : ∀ m : Fields, delF k m = (idxOf k (m.map (·.1))).elim m fun i => m.eraseIdx i
  | [] => by simp [delF, idxOf]
  | p :: m => by
    simp only [delF, List.map_cons, idxOf]
    by_cases h : p.1 = k
    · simp [h]
    · rw [if_neg h, if_neg h, delF_idx k m]
      cases idxOf k (m.map (·.1)) <;> simp
theorem RepT.del {S : Nat → Prop} {w : World} {m : Fields} {r : Nat} (h : RepT w S (.map m) (.iface 154 (.map (some r)))) {t k : TypeId} {e : TypeId} (ht : Try.prog.underlying t = some (.map k e)) (hk : Try.prog.underlying k = some .string) (s : ByteArray) (kt ty : TypeId) :
    ∃ o, (Builtin.delete_ #[t, kt] ty #[.map (some r), .string s]).run Try.prog w = .ok (.tuple #[]) (put w r o) ∧ RepT (put w r o) S (.map (delF s m)) (.iface 154 (.map (some r))) := by
  cases h with
  | @map _ _ _ es clock hS hr hm hkeys hs hb hbc hval =>
    have hl : es.length = m.length := by have := congrArg List.length hkeys; simpa using this
    refine ⟨_, run_delete_str ht hk hr (ks := m.map (·.1)) (by rw [hkeys]; simp) s kt ty, ?_⟩
    have hlt : r < w.heap.size := (Array.getElem?_eq_some_iff.1 hr).1
    have e : ∀ o, Same (fun b => S b ∧ b ≠ r) w (put w r o) := fun o b hb => put_other w _ hb.2
    rw [delF_idx]
    cases hi : idxOf s (m.map (·.1)) with
    | none =>
      simp only [Option.elim]
      exact .map hS (put_at _ hlt) hm hkeys hs hb hbc fun j p en hp he => (hval j p en hp he).frame (e _) fun _ h => h
    | some i =>
      simp only [Option.elim]
      refine .map hS (put_at _ hlt) ?_ ?_ ?_ ?_ ?_ fun j p en hp he => ?_
      · have := List.length_eraseIdx_le m i; omega
      · rw [map_erase, hkeys, map_erase]
      · exact fun p hp => hs p (List.mem_of_mem_eraseIdx hp)
      · rw [map_erase]; exact hb.sublist (List.eraseIdx_sublist _ _)
      · exact fun x hx => hbc x (List.mem_of_mem_eraseIdx hx)
      · rw [List.getElem?_eraseIdx] at hp he
        split at hp
        · next hji => rw [if_pos hji] at he; exact (hval j p en hp he).frame (e _) fun _ h => h
        · next hji => rw [if_neg hji] at he; exact (hval (j + 1) p en hp he).frame (e _) fun _ h => h
theorem RepT.set {S : Nat → Prop} {w : World} {m : Fields} {r : Nat} (h : RepT w S (.map m) (.iface 154 (.map (some r)))) {tt kk ee : TypeId} (ht : Try.prog.underlying tt = some (.map kk ee)) (hkk : Try.prog.underlying kk = some .string) {k : ByteArray} {t : Tree} {x : Value}
    (hx : RepT w (fun b => S b ∧ b ≠ r) t x) (hk : k.size ≤ 140737488351232) (hm : m.length + 1 ≤ 140737488351232) :
    ∃ o, (Instr.mapUpdate tt (.map (some r)) (.string k) x).run Try.prog w = .ok () (put w r o) ∧ RepT (put w r o) S (.map (ins k t m)) (.iface 154 (.map (some r))) := by
  obtain ⟨o, hrun, hrep⟩ := mapSet h hx hk hm
  refine ⟨o, ?_, hrep⟩
  rw [← hrun]
  cases h with
  | @map _ _ _ es clock hS hr _ hkeys hs hb hbc hval =>
    rw [run_mapUpdate_str ht hkk hr (ks := m.map (·.1)) (by rw [hkeys]; simp) k x, run_mapUpdate_str Try.underlying154 Try.underlying9 hr (ks := m.map (·.1)) (by rw [hkeys]; simp) k x]
theorem RepT.has {S : Nat → Prop} {w : World} {m : Fields} {r : Nat} (h : RepT w S (.map m) (.iface 154 (.map (some r)))) {tt kk : TypeId} (ht : Try.prog.underlying tt = some (.map kk 20)) (hkk : Try.prog.underlying kk = some .string) (k : ByteArray) :
    ∃ x, (Instr.lookup tt (.map (some r)) (.string k) true).run Try.prog w = .ok (.tuple #[x, .bool (idxOf k (m.map (·.1))).isSome]) w := by
  cases h with
  | @map _ _ _ es clock hS hr _ hkeys hs hb hbc hval =>
    have hl : es.length = m.length := by have := congrArg List.length hkeys; simpa using this
    have hf := findNow_str k (m.map (·.1)) es 0 (by rw [hkeys]; simp)
    obtain ⟨i, hi, hz, _⟩ := info_parts info_any
    unfold Instr.lookup
    simp only [run_underlying ht, Sem.run_bind, Result.andThen_ok, getObj, Sem.run, hr, Instr.findKey, run_underlying hkk, checkKey_str hkk _ 9999]
    rw [show (Sem.run Try.prog (pure es.toArray) w : Result (Array MapEntry)) = .ok es.toArray w from rfl]
    simp only [Result.andThen_ok]
    rw [hf]
    cases hx : idxOf k (m.map (·.1)) with
    | none => exact ⟨.nilIface, by simp [zeroValue, typeInfo, hi, hz]⟩
    | some j =>
      have h1 := idxOf_lt hx
      have hlt : j < es.length := by have := (List.getElem?_eq_some_iff.1 h1).1; simp at this; omega
      exact ⟨es[j].val, by simp [List.getElem?_eq_getElem hlt]⟩
end Go.Smd
