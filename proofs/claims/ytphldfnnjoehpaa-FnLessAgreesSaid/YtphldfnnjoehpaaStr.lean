/- The order of strings by their bytes; fields in increasing order. -/
import Derived.Test.YtphldfnnjoehpaaTree
namespace Go.Smd
open Go.RowKit Go.Proofs

theorem bl_irrefl : ∀ a : List UInt8, Op.bytesLess a a = false
  | [] => rfl
  | x :: a => by simp [Op.bytesLess, bl_irrefl a]
theorem bl_trans : ∀ {a b c : List UInt8}, Op.bytesLess a b = true → Op.bytesLess b c = true → Op.bytesLess a c = true
  | [], [], _, h, _ => by simp [Op.bytesLess] at h
  | [], y :: b, [], _, k => by simp [Op.bytesLess] at k
  | [], y :: b, z :: c, _, _ => by simp [Op.bytesLess]
  | x :: a, [], _, h, _ => by simp [Op.bytesLess] at h
  | x :: a, y :: b, [], _, k => by simp [Op.bytesLess] at k
  | x :: a, y :: b, z :: c, h, k => by
    simp only [Op.bytesLess, Bool.or_eq_true, decide_eq_true_eq, Bool.and_eq_true, beq_iff_eq] at *
    rcases h with h | ⟨rfl, h⟩
    · rcases k with k | ⟨rfl, k⟩
      · exact .inl (UInt8.lt_trans h k)
      · exact .inl h
    · rcases k with k | ⟨rfl, k⟩
      · exact .inl k
      · exact .inr ⟨rfl, bl_trans h k⟩
theorem bl_tri : ∀ (a b : List UInt8), Op.bytesLess a b = true ∨ a = b ∨ Op.bytesLess b a = true
  | [], [] => .inr (.inl rfl)
  | [], y :: b => .inl rfl
  | x :: a, [] => .inr (.inr rfl)
  | x :: a, y :: b => by
    simp only [Op.bytesLess, Bool.or_eq_true, decide_eq_true_eq, Bool.and_eq_true, beq_iff_eq, List.cons.injEq]
    by_cases h : x < y
    · exact .inl (.inl h)
    · by_cases h' : y < x
      · exact .inr (.inr (.inl h'))
      · have e : x = y := by
          apply UInt8.toNat_inj.1
          rw [UInt8.lt_iff_toNat_lt] at h h'; omega
        subst e
        rcases bl_tri a b with k | k | k
        · exact .inl (.inr ⟨rfl, k⟩)
        · exact .inr (.inl ⟨rfl, k⟩)
        · exact .inr (.inr (.inr ⟨rfl, k⟩))

theorem toList_go (s : ByteArray) : ∀ (n i : Nat) (r : List UInt8), s.size - i = n → ByteArray.toList.loop s i r = r.reverse ++ s.data.toList.drop i
  | 0, i, r, h => by
    unfold ByteArray.toList.loop
    have : ¬ i < s.size := by omega
    have hl : s.data.toList.length = s.size := by rw [Array.length_toList]; rfl
    rw [if_neg this, List.drop_of_length_le (by omega), List.append_nil]
  | n + 1, i, r, h => by
    unfold ByteArray.toList.loop
    have hi : i < s.size := by omega
    rw [if_pos hi, toList_go s n (i + 1) _ (by omega)]
    have hi' : i < s.data.toList.length := by rw [Array.length_toList]; exact hi
    rw [List.drop_eq_getElem_cons hi']
    have hg : s.get! i = s.data.toList[i] := by
      simp [ByteArray.get!, Array.getElem!_eq_getD, Array.getD]
      rw [dif_pos hi]
    simp [hg]
theorem toList_eq (s : ByteArray) : s.toList = s.data.toList := by
  unfold ByteArray.toList
  rw [toList_go s s.size 0 [] (by omega)]; simp
theorem toList_inj {a b : ByteArray} : a.toList = b.toList ↔ a = b := by
  rw [toList_eq, toList_eq]
  constructor
  · intro h
    cases a; cases b; congr
    exact Array.toList_inj.1 h
  · rintro rfl; rfl

/-- a comes before b. -/
def blt (a b : ByteArray) : Bool := Op.bytesLess a.toList b.toList
theorem blt_irrefl (a : ByteArray) : blt a a = false := bl_irrefl _
theorem blt_trans {a b c : ByteArray} (h : blt a b = true) (k : blt b c = true) : blt a c = true := bl_trans h k
theorem blt_tri (a b : ByteArray) : blt a b = true ∨ a = b ∨ blt b a = true := by
  rcases bl_tri a.toList b.toList with h | h | h
  · exact .inl h
  · exact .inr (.inl (toList_inj.1 h))
  · exact .inr (.inr h)
theorem blt_asymm {a b : ByteArray} (h : blt a b = true) : blt b a = false := by
  cases hb : blt b a with
  | false => rfl
  | true => have := blt_trans h hb; rw [blt_irrefl] at this; cases this
theorem blt_ne {a b : ByteArray} (h : blt a b = true) : a ≠ b := fun e => by rw [e, blt_irrefl] at h; cases h
theorem beq_list (a b : ByteArray) : (a.toList == b.toList) = decide (a = b) := by
  by_cases h : a = b
  · subst h; simp
  · rw [decide_eq_false h]; exact beq_eq_false_iff_ne.2 fun e => h (toList_inj.1 e)

/-! ### Lists of fields in increasing order -/
section
variable {α : Type}
def Sorted (m : List (ByteArray × α)) : Prop := (m.map (·.1)).Pairwise fun a b => blt a b = true
/-- The field k set to v. -/
def sIns (k : ByteArray) (v : α) : List (ByteArray × α) → List (ByteArray × α)
  | [] => [(k, v)]
  | p :: m => if blt p.1 k = true then p :: sIns k v m else if p.1 = k then (k, v) :: m else (k, v) :: p :: m
/-- How many keys come before k. -/
def lower (k : ByteArray) : List ByteArray → Nat
  | [] => 0
  | q :: ks => if blt q k = true then lower k ks + 1 else 0
theorem lower_le (k : ByteArray) : ∀ ks : List ByteArray, lower k ks ≤ ks.length
  | [] => Nat.le_refl _
  | q :: ks => by simp only [lower]; split <;> simp [lower_le k ks]
theorem lower_of {k : ByteArray} : ∀ {ks : List ByteArray} {i : Nat}, i ≤ ks.length → (∀ j q, j < i → ks[j]? = some q → blt q k = true) → (∀ q, ks[i]? = some q → blt q k = false) → lower k ks = i
  | [], i, h, _, _ => by simp at h; simp [lower, h]
  | q :: ks, 0, _, _, h => by simp [lower, h q rfl]
  | q :: ks, i + 1, hi, h1, h2 => by
    simp only [lower, h1 0 q (by omega) rfl, if_true]
    rw [lower_of (i := i) (by simpa using hi) (fun j p hj hp => h1 (j + 1) p (by omega) (by simpa using hp)) fun p hp => h2 p (by simpa using hp)]
theorem sIns_split {k : ByteArray} {v : α} : ∀ {m : List (ByteArray × α)}, sIns k v m = m.take (lower k (m.map (·.1))) ++ (k, v) :: (if (m.map (·.1))[lower k (m.map (·.1))]? = some k then m.drop (lower k (m.map (·.1)) + 1) else m.drop (lower k (m.map (·.1))))
  | [] => by simp [sIns, lower]
  | p :: m => by
    simp only [sIns, List.map_cons, lower]
    split
    · simp only [List.take_succ_cons, List.cons_append, List.getElem?_cons_succ, List.drop_succ_cons]
      rw [sIns_split (m := m)]
    · simp only [List.take_zero, List.nil_append, List.getElem?_cons_zero, Option.some.injEq, List.drop_zero, Nat.zero_add, List.drop_one, List.tail_cons]
      split <;> simp
theorem mem_sIns {k : ByteArray} {v : α} : ∀ {m : List (ByteArray × α)} {p : ByteArray × α}, p ∈ sIns k v m → p = (k, v) ∨ p ∈ m
  | [], p, h => by simp [sIns] at h; exact .inl h
  | q :: m, p, h => by
    simp only [sIns] at h
    split at h
    · rcases List.mem_cons.1 h with rfl | h
      · exact .inr (by simp)
      · rcases mem_sIns h with h | h
        · exact .inl h
        · exact .inr (by simp [h])
    · split at h
      · rcases List.mem_cons.1 h with h | h
        · exact .inl h
        · exact .inr (by simp [h])
      · rcases List.mem_cons.1 h with h | h
        · exact .inl h
        · exact .inr (by simpa using h)
theorem sIns_sorted {k : ByteArray} {v : α} : ∀ {m : List (ByteArray × α)}, Sorted m → Sorted (sIns k v m)
  | [], _ => by simp [sIns, Sorted]
  | p :: m, h => by
    simp only [Sorted, List.map_cons, List.pairwise_cons] at h
    simp only [sIns]
    split
    · next hb =>
      simp only [Sorted, List.map_cons, List.pairwise_cons]
      refine ⟨fun a ha => ?_, sIns_sorted h.2⟩
      obtain ⟨q, hq, rfl⟩ := List.mem_map.1 ha
      rcases mem_sIns hq with rfl | hq
      · exact hb
      · exact h.1 _ (List.mem_map_of_mem hq)
    · next hb =>
      split
      · next he =>
        simp only [Sorted, List.map_cons, List.pairwise_cons]
        exact ⟨fun a ha => by rw [← he]; exact h.1 a ha, h.2⟩
      · next he =>
        have hk : blt k p.1 = true := by
          rcases blt_tri p.1 k with h' | h' | h'
          · exact absurd h' hb
          · exact absurd h' he
          · exact h'
        simp only [Sorted, List.map_cons, List.pairwise_cons]
        refine ⟨fun a ha => ?_, h⟩
        rcases List.mem_cons.1 ha with rfl | ha
        · exact hk
        · exact blt_trans hk (h.1 a ha)
theorem sIns_length (k : ByteArray) (v : α) : ∀ m : List (ByteArray × α), (sIns k v m).length ≤ m.length + 1
  | [] => by simp [sIns]
  | p :: m => by
    simp only [sIns]
    split
    · have := sIns_length k v m; simp; omega
    · split <;> simp
end
end Go.Smd
