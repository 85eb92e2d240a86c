/- A map with string keys, ranged over: which keys come. -/
import Derived.Test.YtphldfnnjoehpaaSort
import Derived.Test.YtphldfnnjoehpaaMeth
import Derived.Maps.RangeWalk
import Derived.Maps.Keyed
set_option linter.unusedSimpArgs false
namespace Go.Smd
open Go.RowKit Go.Proofs Go.Maps Go.WideElems

/-- Every element reads as itself. -/
def HeldR (v : Value) : Option (DataW Value × List MemPlace) := some (.held v, [])
def litS (s : ByteArray) : Lit := .string s.data.toList
theorem litS_inj {a b : ByteArray} (h : litS a = litS b) : a = b := by
  have h' : a.data.toList = b.data.toList := by simpa [litS] using h
  cases a; cases b; congr 1; exact Array.toList_inj.1 h'
theorem litS_same (a b : ByteArray) : (litS a).sameKey (litS b) = decide (a = b) := by
  show (a.data.toList == b.data.toList) = _
  by_cases h : a = b
  · subst h; simp
  · rw [decide_eq_false h]
    exact beq_eq_false_iff_ne.2 fun e => h (litS_inj (by simp [litS, e]))
theorem keyOf_str {s : ByteArray} (h : s.size ≤ 140737488351232) : keyOf Try.prog 9 (.string s) = some (litS s) := by
  have h2 : s.size ≤ maxLen := by unfold maxLen; omega
  simp [keyOf, Try.underlying9, mapKey, litS, h2]
theorem keyOf_str_inv {v : Value} {kl : Lit} (h : keyOf Try.prog 9 v = some kl) : ∃ s, v = .string s ∧ kl = litS s := by
  cases v <;> simp [keyOf, Try.underlying9, mapKey] at h
  exact ⟨_, rfl, h.2.symm⟩

theorem owns_of_map {w : World} {r clock : Nat} {es : List MapEntry} {ks : List ByteArray} (hr : w.heap[r]? = some (.map es.toArray clock)) (hm : ks.length ≤ 140737488351232) (hk : es.map (·.key) = ks.map Value.string)
    (hs : ∀ k ∈ ks, k.size ≤ 140737488351232) (hb : (es.map (·.born)).Pairwise (· < ·)) (hbc : ∀ e ∈ es, e.born < clock) (hnd : ks.Nodup) :
    ∃ D : DataW Value, w.ownsMap Try.prog 9 HeldR r ks.length D ∧ (∀ s, Maps.has D (litS s) = true ↔ s ∈ ks) ∧ (∀ kl, Maps.has D kl = true → ∃ s, kl = litS s) ∧ ∀ (s : ByteArray) (v : Value), (∀ zd, D.atKey (litS s) zd = .held v) → ∃ e ∈ es, e.key = .string s ∧ e.val = v := by
  have hl : es.length = ks.length := by simpa using congrArg List.length hk
  have hrd : ∀ x ∈ es, ∃ s ∈ ks, x.key = .string s ∧ rd Try.prog 9 HeldR x = some (litS s, .held x.val) := fun x hx => by
    have : x.key ∈ ks.map Value.string := by rw [← hk]; exact List.mem_map_of_mem hx
    obtain ⟨s, hsm, he⟩ := List.mem_map.1 this
    exact ⟨s, hsm, he.symm, by simp [rd, ← he, keyOf_str (hs s hsm), HeldR]⟩
  have hrg : ∀ x ∈ es, ∃ s ∈ ks, x.key = .string s ∧ rg Try.prog 9 HeldR x = (litS s, .held x.val) := fun x hx => by
    obtain ⟨s, h1, h2, h3⟩ := hrd x hx
    exact ⟨s, h1, h2, by simp [rg, h3]⟩
  have hsz : es.toArray.size ≤ maxLen := by (unfold maxLen; simp; omega)
  have hfit : Fit Try.prog 9 HeldR es.toArray clock := by
    refine ⟨hsz, ⟨by simpa using hbc, ?_, ?_⟩, fun x hx => ?_⟩
    · exact hb.imp fun h => Nat.ne_of_lt h
    · simp only [hk]
      exact List.Pairwise.map _ (fun a b h e => h (by cases e; rfl)) hnd
    · obtain ⟨s, _, _, h3⟩ := hrd x (by simpa using hx)
      exact ⟨_, h3⟩
  refine ⟨_, ⟨es.toArray, clock, hr, hfit, by simp [hl], rfl⟩, fun s => ?_, fun kl h => ?_, fun s v h => ?_⟩
  · unfold Maps.has
    rw [List.any_eq_true]
    constructor
    · rintro ⟨p, hp, hpk⟩
      obtain ⟨x, hx, rfl⟩ := List.mem_map.1 (mem_sorted.1 hp)
      obtain ⟨s', h1, h2, h3⟩ := hrg x (by simpa using hx)
      rw [h3] at hpk
      rw [litS_same] at hpk
      have := of_decide_eq_true hpk
      subst this; exact h1
    · intro hsm
      have : Value.string s ∈ es.map (·.key) := by rw [hk]; exact List.mem_map_of_mem hsm
      obtain ⟨x, hx, he⟩ := List.mem_map.1 this
      obtain ⟨s', h1, h2, h3⟩ := hrg x hx
      have e : s' = s := by rw [he] at h2; cases h2; rfl
      subst e
      exact ⟨_, mem_sorted.2 (List.mem_map.2 ⟨x, by simpa using hx, rfl⟩), by rw [h3, litS_same]; simp⟩
  · unfold Maps.has at h
    rw [List.any_eq_true] at h
    obtain ⟨p, hp, hpk⟩ := h
    obtain ⟨x, hx, rfl⟩ := List.mem_map.1 (mem_sorted.1 hp)
    obtain ⟨s', h1, h2, h3⟩ := hrg x (by simpa using hx)
    rw [h3] at hpk
    refine ⟨s', ?_⟩
    cases kl <;> simp [litS, Lit.sameKey] at hpk ⊢
    exact hpk.symm
  · have h1 := h .nil
    unfold DataW.atKey at h1
    simp only at h1
    split at h1
    · next p hp =>
      have hm1 := List.mem_of_find?_eq_some hp
      have hq := List.find?_some hp
      obtain ⟨x, hx, rfl⟩ := List.mem_map.1 (mem_sorted.1 hm1)
      obtain ⟨s', h2, h3, h4⟩ := hrg x (by simpa using hx)
      rw [h4] at hq h1
      have hq : (litS s').sameKey (litS s) = true := hq
      rw [litS_same] at hq
      have := of_decide_eq_true hq
      subst this
      exact ⟨x, by simpa using hx, h3, by simpa using h1⟩
    · cases h1
end Go.Smd
