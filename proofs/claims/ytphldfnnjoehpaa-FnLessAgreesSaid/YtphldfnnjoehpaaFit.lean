/- Trees that fit in memory; the order of floating-point numbers. -/
import Derived.Test.YtphldfnnjoehpaaTree
import Derived.Laws.FloatBits
set_option linter.unusedSimpArgs false
namespace Go.Smd
open Go.RowKit Go.Proofs

/- The tree's lists and maps are not too long, and no key comes twice. -/
mutual
def Fits : Tree → Prop
  | .list l => l.length * 88 ≤ 140737488351232 ∧ FitsL l
  | .map m => m.length * 88 ≤ 140737488351232 ∧ (m.map (·.1)).Nodup ∧ FitsM m
  | _ => True
def FitsL : List Tree → Prop
  | [] => True
  | x :: l => Fits x ∧ FitsL l
def FitsM : List (ByteArray × Tree) → Prop
  | [] => True
  | p :: m => Fits p.2 ∧ FitsM m
end
theorem FitsL.mem : ∀ {l : List Tree}, FitsL l → ∀ x ∈ l, Fits x
  | [], _, x, h => by cases h
  | y :: l, hf, x, h => by
    simp only [FitsL] at hf
    rcases List.mem_cons.1 h with rfl | h
    · exact hf.1
    · exact FitsL.mem hf.2 x h
theorem FitsM.mem : ∀ {m : List (ByteArray × Tree)}, FitsM m → ∀ p ∈ m, Fits p.2
  | [], _, x, h => by cases h
  | y :: l, hf, x, h => by
    simp only [FitsM] at hf
    rcases List.mem_cons.1 h with rfl | h
    · exact hf.1
    · exact FitsM.mem hf.2 x h
theorem ins_mem (k q : ByteArray) (t : Tree) : ∀ m : Fields, q ∈ (ins k t m).map (·.1) ↔ q = k ∨ q ∈ m.map (·.1)
  | [] => by simp [ins]
  | p :: m => by
    simp only [ins]
    by_cases h : p.1 = k
    · rw [if_pos h]; simp [h]
    · rw [if_neg h]
      have := ins_mem k q t m
      simp only [List.map_cons, List.mem_cons, this]
      constructor <;> rintro (h | h | h) <;> simp [h]
theorem ins_in {k : ByteArray} {t : Tree} {p : ByteArray × Tree} : ∀ {m : Fields}, p ∈ ins k t m → p = (k, t) ∨ p ∈ m
  | [], h => by simp [ins] at h; exact .inl h
  | q :: m, h => by
    simp only [ins] at h
    split at h
    · rcases List.mem_cons.1 h with h | h
      · exact .inl h
      · exact .inr (List.mem_cons_of_mem _ h)
    · rcases List.mem_cons.1 h with h | h
      · exact .inr (h ▸ List.mem_cons_self ..)
      · rcases ins_in h with h | h
        · exact .inl h
        · exact .inr (List.mem_cons_of_mem _ h)
theorem ins_nodup {k : ByteArray} {t : Tree} : ∀ {m : Fields}, (m.map (·.1)).Nodup → ((ins k t m).map (·.1)).Nodup
  | [], _ => by simp [ins]
  | q :: m, h => by
    simp only [List.map_cons, List.nodup_cons] at h
    simp only [ins]
    split
    · next e => simp only [List.map_cons, List.nodup_cons]; rw [← e]; exact h
    · next e =>
      simp only [List.map_cons, List.nodup_cons]
      refine ⟨fun hm => ?_, ins_nodup h.2⟩
      rcases (ins_mem k q.1 t m).1 hm with h' | h'
      · exact e h'
      · exact h.1 h'
theorem ins_le (k : ByteArray) (t : Tree) : ∀ m : Fields, (ins k t m).length ≤ m.length + 1
  | [] => by simp [ins]
  | q :: m => by simp only [ins]; split <;> simp; exact ins_le k t m
theorem mapOf_fits : ∀ (ks : List ByteArray) (ts : List Tree) (m : Fields), (m.map (·.1)).Nodup → (∀ p ∈ m, Fits p.2) → (∀ t ∈ ts, Fits t) →
    ((mapOf ks ts m).map (·.1)).Nodup ∧ (∀ p ∈ mapOf ks ts m, Fits p.2) ∧ (mapOf ks ts m).length ≤ m.length + ts.length
  | [], ts, m, h1, h2, _ => by cases ts <;> exact ⟨by simpa [mapOf] using h1, by simpa [mapOf] using h2, by simp [mapOf]⟩
  | k :: ks, [], m, h1, h2, _ => ⟨by simpa [mapOf] using h1, by simpa [mapOf] using h2, by simp [mapOf]⟩
  | k :: ks, t :: ts, m, h1, h2, h3 => by
    simp only [mapOf]
    obtain ⟨a, b, c⟩ := mapOf_fits ks ts (ins k t m) (ins_nodup h1) (fun p hp => by
      rcases ins_in hp with rfl | hp
      · exact h3 t (List.mem_cons_self ..)
      · exact h2 p hp) fun t ht => h3 t (List.mem_cons_of_mem _ ht)
    exact ⟨a, b, by have := ins_le k t m; simp; omega⟩
theorem FitsL.of : ∀ {l : List Tree}, (∀ x ∈ l, Fits x) → FitsL l
  | [], _ => by simp [FitsL]
  | x :: l, h => by simp only [FitsL]; exact ⟨h x (List.mem_cons_self ..), FitsL.of fun y hy => h y (List.mem_cons_of_mem _ hy)⟩
theorem FitsM.of : ∀ {l : List (ByteArray × Tree)}, (∀ x ∈ l, Fits x.2) → FitsM l
  | [], _ => by simp [FitsM]
  | x :: l, h => by simp only [FitsM]; exact ⟨h x (List.mem_cons_self ..), FitsM.of fun y hy => h y (List.mem_cons_of_mem _ hy)⟩
theorem tree_fits {S : Nat → Prop} {w : World} {v : GV} {cs : List Value} (h : RepGV S w v cs) : Fits (treeOf v) := by
  induction h with
  | @mk kind n f s keys l ka la kc lc ok hkc hlc hk ll hl hc ih =>
    have hall : ∀ t ∈ treesOf l, Fits t := fun t ht => by
      rw [treesOf_eq] at ht
      obtain ⟨x, hx, rfl⟩ := List.mem_map.1 ht
      obtain ⟨j, hj, rfl⟩ := List.getElem_of_mem hx
      exact ih j l[j] (List.getElem?_eq_getElem hj)
    have hlen : (treesOf l).length = l.length := by rw [treesOf_eq, List.length_map]
    have hL := ok.okL
    simp only [treeOf]
    repeat' split
    all_goals (try trivial)
    all_goals (try simp only [Fits])
    · exact ⟨by rw [hlen]; exact hL, FitsL.of hall⟩
    · obtain ⟨a, b, c⟩ := mapOf_fits keys (treesOf l) [] (by simp) (by simp) hall
      refine ⟨?_, a, FitsM.of b⟩
      rw [hlen] at c
      simp at c
      omega

def ford (a b : Nat) : Option Ordering := FloatKind.f64.format.order a b
/-! ### The order of floats -/
theorem compare_swap_int (a b : Int) : compare b a = (compare a b).swap := Std.OrientedCmp.eq_swap
theorem compare_swap_nat (a b : Nat) : compare b a = (compare a b).swap := Std.OrientedCmp.eq_swap
theorem datum_swap (x y : Ieee.Datum) : y.order x = (x.order y).map Ordering.swap := by
  cases x <;> cases y <;> simp only [Ieee.Datum.order, Option.map_none, Option.map_some]
  · rw [Int.min_comm]; rw [compare_swap_int]
  · next s m i t => cases t <;> rfl
  · next s t n j => cases s <;> rfl
  · next s t => rw [compare_swap_nat]
theorem ford_swap (a b : Nat) : ford b a = (ford a b).map Ordering.swap := datum_swap _ _
theorem ford_some {a b : Nat} (ha : (FloatKind.f64.format.read a).isNaN = false) (hb : (FloatKind.f64.format.read b).isNaN = false) : ∃ o, ford a b = some o := by
  unfold ford Ieee.Format.order
  cases hx : FloatKind.f64.format.read a <;> cases hy : FloatKind.f64.format.read b <;> simp_all [Ieee.Datum.isNaN, Ieee.Datum.order]
theorem nan_self {a : Nat} (h : ford a a = some .eq) : (FloatKind.f64.format.read a).isNaN = false := by
  unfold ford Ieee.Format.order at h
  cases hx : FloatKind.f64.format.read a <;> simp_all [Ieee.Datum.isNaN, Ieee.Datum.order]
theorem read_word (neg : Bool) (r : Nat) (hr : r ≤ Ieee.double.infRung) : (Ieee.double.read (Ieee.double.word neg r)).isNaN = false := by
  have hinf : Ieee.double.infRung = 9218868437227405312 := by decide +kernel
  have hsw : Ieee.double.signWeight = 9223372036854775808 := by decide +kernel
  have hm : Ieee.double.word neg r % Ieee.double.signWeight = r := by
    rw [hsw]; unfold Ieee.Format.word; rw [hsw]; split <;> omega
  unfold Ieee.Format.read
  simp only [hm]
  split
  · rfl
  · split
    · rfl
    · split
      · rfl
      · omega
theorem nearest_num (n : Int) : (FloatKind.f64.format.read (FloatKind.f64.nearest n)).isNaN = false := by
  unfold FloatKind.nearest FloatKind.encode FloatKind.format
  simp only [Ieee.Format.write, Ieee.Format.nearest]
  split
  · exact read_word _ _ (Nat.zero_le _)
  · exact read_word _ _ (Nat.min_le_right _ _)

end Go.Smd
