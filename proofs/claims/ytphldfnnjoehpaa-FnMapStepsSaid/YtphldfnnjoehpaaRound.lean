/- A value to the library and back; the plain law. -/
import Derived.Test.YtphldfnnjoehpaaFromW
import Derived.Test.YtphldfnnjoehpaaVal
import Derived.Test.YtphldfnnjoehpaaCmp
import Derived.Test.YtphldfnnjoehpaaMSize
set_option linter.unusedSimpArgs false
namespace Go.Smd
open Go.RowKit Go.Proofs

/-! ### The plain law -/
theorem sIns_mem_iff {k : ByteArray} {v : GV} {p : ByteArray × GV} : ∀ {m : List (ByteArray × GV)}, Sorted m → (p ∈ sIns k v m ↔ p = (k, v) ∨ (p ∈ m ∧ p.1 ≠ k))
  | [], _ => by simp [sIns]
  | q :: m, hs => by
    have hs' := hs
    simp only [Sorted, List.map_cons, List.pairwise_cons] at hs
    have hq : ∀ x ∈ m, blt q.1 x.1 = true := fun x hx => hs.1 x.1 (List.mem_map_of_mem hx)
    simp only [sIns]
    split
    · next hb =>
      rw [List.mem_cons, sIns_mem_iff hs.2, List.mem_cons]
      constructor
      · rintro (h | h | h)
        · subst h; exact .inr ⟨.inl rfl, blt_ne hb⟩
        · exact .inl h
        · exact .inr ⟨.inr h.1, h.2⟩
      · rintro (h | ⟨h | h, h2⟩)
        · exact .inr (.inl h)
        · exact .inl h
        · exact .inr (.inr ⟨h, h2⟩)
    · next hb =>
      split
      · next he =>
        rw [List.mem_cons, List.mem_cons]
        constructor
        · rintro (h | h)
          · exact .inl h
          · exact .inr ⟨.inr h, fun e => blt_ne (hq p h) (he.trans e.symm)⟩
        · rintro (h | ⟨h | h, h2⟩)
          · exact .inl h
          · subst h; exact absurd he h2
          · exact .inr h
      · next he =>
        have hk : blt k q.1 = true := by
          rcases blt_tri q.1 k with h' | h' | h'
          · exact absurd h' hb
          · exact absurd h' he
          · exact h'
        rw [List.mem_cons]
        constructor
        · rintro (h | h)
          · exact .inl h
          · refine .inr ⟨h, fun e => ?_⟩
            rcases List.mem_cons.1 h with rfl | h
            · exact he e
            · have := blt_trans hk (hq p h); rw [e, blt_irrefl] at this; cases this
        · rintro (h | ⟨h, _⟩)
          · exact .inl h
          · exact .inr h
theorem sorted_ext : ∀ {a b : List (ByteArray × GV)}, Sorted a → Sorted b → (∀ p, p ∈ a ↔ p ∈ b) → a = b
  | [], [], _, _, _ => rfl
  | [], y :: b, _, _, h => by have := (h y).2 (List.mem_cons_self ..); cases this
  | x :: a, [], _, _, h => by have := (h x).1 (List.mem_cons_self ..); cases this
  | x :: a, y :: b, ha, hb, h => by
    simp only [Sorted, List.map_cons, List.pairwise_cons] at ha hb
    have hx1 : ∀ p ∈ a, blt x.1 p.1 = true := fun p hp => ha.1 p.1 (List.mem_map_of_mem hp)
    have hy1 : ∀ p ∈ b, blt y.1 p.1 = true := fun p hp => hb.1 p.1 (List.mem_map_of_mem hp)
    have hxy : x = y := by
      rcases List.mem_cons.1 ((h x).1 (List.mem_cons_self ..)) with e | hx
      · exact e
      · rcases List.mem_cons.1 ((h y).2 (List.mem_cons_self ..)) with e | hy
        · exact e.symm
        · have h1 := hy1 x hx
          have h2 := hx1 y hy
          rw [blt_asymm h1] at h2; cases h2
    subst hxy
    rw [sorted_ext ha.2 hb.2 fun p => ?_]
    constructor
    · intro hp
      rcases List.mem_cons.1 ((h p).1 (List.mem_cons_of_mem _ hp)) with rfl | h'
      · have := hx1 p hp; rw [blt_irrefl] at this; cases this
      · exact h'
    · intro hp
      rcases List.mem_cons.1 ((h p).2 (List.mem_cons_of_mem _ hp)) with rfl | h'
      · have := hy1 p hp; rw [blt_irrefl] at this; cases this
      · exact h'
theorem sIns_twice {k : ByteArray} {a b : GV} {m : List (ByteArray × GV)} (hs : Sorted m) : sIns k a (sIns k b m) = sIns k a m := by
  refine sorted_ext (sIns_sorted (sIns_sorted hs)) (sIns_sorted hs) fun p => ?_
  rw [sIns_mem_iff (sIns_sorted hs), sIns_mem_iff hs, sIns_mem_iff hs]
  constructor
  · rintro (h | ⟨h | h, h2⟩)
    · exact .inl h
    · subst h; exact absurd rfl h2
    · exact .inr h
  · rintro (h | h)
    · exact .inl h
    · exact .inr ⟨.inr h, h.2⟩
theorem sIns_comm {k q : ByteArray} (hkq : k ≠ q) {a b : GV} {m : List (ByteArray × GV)} (hs : Sorted m) : sIns k a (sIns q b m) = sIns q b (sIns k a m) := by
  refine sorted_ext (sIns_sorted (sIns_sorted hs)) (sIns_sorted (sIns_sorted hs)) fun p => ?_
  rw [sIns_mem_iff (sIns_sorted hs), sIns_mem_iff hs, sIns_mem_iff (sIns_sorted hs), sIns_mem_iff hs]
  constructor
  · rintro (h | ⟨h | h, h2⟩)
    · exact .inr ⟨.inl h, by rw [h]; exact hkq⟩
    · exact .inl h
    · exact .inr ⟨.inr ⟨h.1, h2⟩, h.2⟩
  · rintro (h | ⟨h | h, h2⟩)
    · exact .inr ⟨.inl h, by rw [h]; exact hkq.symm⟩
    · exact .inl h
    · exact .inr ⟨.inr ⟨h.1, h2⟩, h.2⟩
theorem fromMs_ins (k : ByteArray) (t : Tree) : ∀ m : Fields, fromMs (ins k t m) = sIns k (fromT t) (fromMs m)
  | [] => by simp [ins, fromMs]
  | p :: m => by
    simp only [ins]
    split
    · next h => simp only [fromMs, h]; exact (sIns_twice (fromMs_sorted m)).symm
    · next h =>
      simp only [fromMs]
      rw [fromMs_ins k t m, sIns_comm h (fromMs_sorted m)]
theorem from_mapOf : ∀ (ks : List ByteArray) (l : List GV) (m : Fields), (∀ x ∈ l, fromT (treeOf x) = clean x) → fromMs (mapOf ks (treesOf l) m) = insAll ks (cleans l) (fromMs m)
  | [], l, m, _ => by cases l <;> simp [mapOf, treesOf, cleans, insAll]
  | k :: ks, [], m, _ => by simp [mapOf, treesOf, cleans, insAll]
  | k :: ks, x :: l, m, h => by
    simp only [treesOf, cleans, mapOf, insAll]
    rw [from_mapOf ks l _ fun y hy => h y (List.mem_cons_of_mem _ hy), fromMs_ins, h x (List.mem_cons_self ..)]
theorem from_tree (v : GV) : fromT (treeOf v) = clean v := by
  induction v using GV.ind with
  | h kind n f s keys l IH =>
  simp only [treeOf, clean]
  repeat' split
  all_goals (try simp only [fromT])
  all_goals (try rfl)
  · next h => subst h; simp
  · next h => simp [h]
  · have : fromTs (treesOf l) = cleans l := by
      rw [fromTs_eq, treesOf_eq, cleans_eq, List.map_map]
      exact List.map_congr_left fun x hx => IH x hx
    rw [this]
  · rw [from_mapOf keys l [] IH]; rfl

theorem ins_in {k : ByteArray} {t : Tree} {p : ByteArray × Tree} : ∀ {m : Fields}, p ∈ ins k t m → p = (k, t) ∨ p ∈ m
  | [], h => by simp [ins] at h; exact .inl h
  | q :: m, h => by
    simp only [ins] at h
    split at h
    · rcases List.mem_cons.1 h with h | h
      · exact .inl h
      · exact .inr (List.mem_cons_of_mem _ h)
    · rcases List.mem_cons.1 h with h | h
      · exact .inr (h ▸ List.mem_cons_self ..)
      · rcases ins_in h with h | h
        · exact .inl h
        · exact .inr (List.mem_cons_of_mem _ h)
theorem ins_nodup {k : ByteArray} {t : Tree} : ∀ {m : Fields}, (m.map (·.1)).Nodup → ((ins k t m).map (·.1)).Nodup
  | [], _ => by simp [ins]
  | q :: m, h => by
    simp only [List.map_cons, List.nodup_cons] at h
    simp only [ins]
    split
    · next e => simp only [List.map_cons, List.nodup_cons]; rw [← e]; exact h
    · next e =>
      simp only [List.map_cons, List.nodup_cons]
      refine ⟨fun hm => ?_, ins_nodup h.2⟩
      rcases (ins_mem k q.1 t m).1 hm with h' | h'
      · exact e h'
      · exact h.1 h'
theorem ins_le (k : ByteArray) (t : Tree) : ∀ m : Fields, (ins k t m).length ≤ m.length + 1
  | [] => by simp [ins]
  | q :: m => by simp only [ins]; split <;> simp; exact ins_le k t m
theorem mapOf_fits : ∀ (ks : List ByteArray) (ts : List Tree) (m : Fields), (m.map (·.1)).Nodup → (∀ p ∈ m, Fits p.2) → (∀ t ∈ ts, Fits t) →
    ((mapOf ks ts m).map (·.1)).Nodup ∧ (∀ p ∈ mapOf ks ts m, Fits p.2) ∧ (mapOf ks ts m).length ≤ m.length + ts.length
  | [], ts, m, h1, h2, _ => by cases ts <;> exact ⟨by simpa [mapOf] using h1, by simpa [mapOf] using h2, by simp [mapOf]⟩
  | k :: ks, [], m, h1, h2, _ => ⟨by simpa [mapOf] using h1, by simpa [mapOf] using h2, by simp [mapOf]⟩
  | k :: ks, t :: ts, m, h1, h2, h3 => by
    simp only [mapOf]
    obtain ⟨a, b, c⟩ := mapOf_fits ks ts (ins k t m) (ins_nodup h1) (fun p hp => by
      rcases ins_in hp with rfl | hp
      · exact h3 t (List.mem_cons_self ..)
      · exact h2 p hp) fun t ht => h3 t (List.mem_cons_of_mem _ ht)
    exact ⟨a, b, by have := ins_le k t m; simp; omega⟩
theorem FitsL.of : ∀ {l : List Tree}, (∀ x ∈ l, Fits x) → FitsL l
  | [], _ => by simp [FitsL]
  | x :: l, h => by simp only [FitsL]; exact ⟨h x (List.mem_cons_self ..), FitsL.of fun y hy => h y (List.mem_cons_of_mem _ hy)⟩
theorem FitsM.of : ∀ {l : List (ByteArray × Tree)}, (∀ x ∈ l, Fits x.2) → FitsM l
  | [], _ => by simp [FitsM]
  | x :: l, h => by simp only [FitsM]; exact ⟨h x (List.mem_cons_self ..), FitsM.of fun y hy => h y (List.mem_cons_of_mem _ hy)⟩
theorem tree_fits {S : Nat → Prop} {w : World} {v : GV} {cs : List Value} (h : RepGV S w v cs) : Fits (treeOf v) := by
  induction h with
  | @mk kind n f s keys l ka la kc lc ok hkc hlc hk ll hl hc ih =>
    have hall : ∀ t ∈ treesOf l, Fits t := fun t ht => by
      rw [treesOf_eq] at ht
      obtain ⟨x, hx, rfl⟩ := List.mem_map.1 ht
      obtain ⟨j, hj, rfl⟩ := List.getElem_of_mem hx
      exact ih j l[j] (List.getElem?_eq_getElem hj)
    have hlen : (treesOf l).length = l.length := by rw [treesOf_eq, List.length_map]
    have hL := ok.okL
    simp only [treeOf]
    repeat' split
    all_goals (try trivial)
    all_goals (try simp only [Fits])
    · exact ⟨by rw [hlen]; exact hL, FitsL.of hall⟩
    · obtain ⟨a, b, c⟩ := mapOf_fits keys (treesOf l) [] (by simp) (by simp) hall
      refine ⟨?_, a, FitsM.of b⟩
      rw [hlen] at c
      simp at c
      omega

/-! ### The walks -/
set_option maxRecDepth 100000 in
theorem unstr_c {x : Value} {w : World} {S : Nat → Prop} {t : Tree} (hx : RepT w S t x) : Calls Try.prog 172 #[.agg #[x]] w (Makes (fun _ u => u = x) w) := by
  have HE : Hid (∀ o, Ext w (w.alloc o)) := fun o => (Ext.refl w).alloc o
  rcases hx.form with rfl | ⟨T, y, rfl⟩ <;>
    (go_enter Try.func172, Try.ntmps172; go_wp2; go_ret; exact ⟨_, rfl, rfl, HE.out _⟩)
end Go.Smd
