/- FnMapSize: the library counts a map's keys as the plain form does. -/
import Derived.Test.YtphldfnnjoehpaaSize
set_option linter.unusedSimpArgs false
namespace Go.Smd
open Go.RowKit Go.Proofs

open Classical in
theorem ins_count (k : ByteArray) (t : Tree) : ∀ m : Fields, (ins k t m).length = if k ∈ m.map (·.1) then m.length else m.length + 1
  | [] => by simp [ins]
  | p :: m => by
    simp only [ins]
    by_cases h : p.1 = k
    · rw [if_pos h]; simp [h]
    · rw [if_neg h, List.length_cons, ins_count k t m]
      have h' : ¬ k = p.1 := fun e => h e.symm
      simp only [List.map_cons, List.mem_cons, h', false_or]
      split <;> simp
theorem ins_mem (k q : ByteArray) (t : Tree) : ∀ m : Fields, q ∈ (ins k t m).map (·.1) ↔ q = k ∨ q ∈ m.map (·.1)
  | [] => by simp [ins]
  | p :: m => by
    simp only [ins]
    by_cases h : p.1 = k
    · rw [if_pos h]; simp [h]
    · rw [if_neg h]
      have := ins_mem k q t m
      simp only [List.map_cons, List.mem_cons, this]
      constructor <;> rintro (h | h | h) <;> simp [h]
theorem sIns_memk {α : Type} (k q : ByteArray) (v : α) : ∀ m : List (ByteArray × α), q ∈ (sIns k v m).map (·.1) ↔ q = k ∨ q ∈ m.map (·.1)
  | [] => by simp [sIns]
  | p :: m => by
    simp only [sIns]
    split
    · have := sIns_memk k q v m
      simp only [List.map_cons, List.mem_cons, this]
      constructor <;> rintro (h | h | h) <;> simp [h]
    · split
      · next h => simp [h]
      · simp
open Classical in
theorem sIns_count {α : Type} (k : ByteArray) (v : α) : ∀ m : List (ByteArray × α), Sorted m → (sIns k v m).length = if k ∈ m.map (·.1) then m.length else m.length + 1
  | [], _ => by simp [sIns]
  | p :: m, hs => by
    simp only [Sorted, List.map_cons, List.pairwise_cons] at hs
    simp only [sIns]
    split
    · next hb =>
      have hne : ¬ k = p.1 := fun e => by rw [e, blt_irrefl] at hb; cases hb
      rw [List.length_cons, sIns_count k v m hs.2]
      simp only [List.map_cons, List.mem_cons, hne, false_or]
      split <;> simp
    · next hb =>
      split
      · next h => simp [h]
      · next h =>
        have hk : ¬ k ∈ (p :: m).map (·.1) := fun hm => by
          rw [List.map_cons] at hm
          rcases List.mem_cons.1 hm with e | e
          · exact h e.symm
          · exact hb (hs.1 k e)
        rw [if_neg hk]; simp
open Classical in
theorem count_eq : ∀ (ks : List ByteArray) (l : List GV) (m : Fields) (m' : List (ByteArray × GV)), Sorted m' → (∀ q, q ∈ m.map (·.1) ↔ q ∈ m'.map (·.1)) → m.length = m'.length →
    (mapOf ks (treesOf l) m).length = (insAll ks (cleans l) m').length
  | [], l, m, m', _, _, hl => by cases l <;> simp [mapOf, insAll, treesOf, cleans, hl]
  | k :: ks, [], m, m', _, _, hl => by simp [mapOf, insAll, treesOf, cleans, hl]
  | k :: ks, x :: l, m, m', hs, hm, hl => by
    simp only [treesOf, cleans, mapOf, insAll]
    refine count_eq ks l _ _ (sIns_sorted hs) (fun q => ?_) ?_
    · rw [ins_mem, sIns_memk, hm q]
    · rw [ins_count, sIns_count k _ m' hs, hl]
      simp only [hm k]

set_option maxRecDepth 100000 in
set_option maxHeartbeats 1000000 in
theorem fnMapSize_c (v : GV) (cs : List Value) (w : World) (S : Nat → Prop) (hv : RepGV S w v cs) :
    Calls Try.prog 3 #[.agg cs.toArray] w (Makes (fun _ u => u = .bool true) w) := by
  obtain ⟨kind, n, f, s, keys, l⟩ := v
  have hfit := zzFits5_c (.mk kind n f s keys l) cs (w.alloc (.cells cs.toArray 26)) S (hv.ext ((Ext.refl _).alloc _))
  have hms := fun W (e : Ext w W) => mapSize_c keys l kind n f s cs W S (hv.ext e)
  have hwm := fun W (e : Ext w W) => wMap_c keys l kind n f s cs W S (hv.ext e)
  have hcount : (mapOf keys (treesOf l) []).length = (insAll keys (cleans l) []).length := count_eq keys l [] [] .nil (by simp) rfl
  have hlen := mapOf_length keys (treesOf l) []
  obtain ⟨ka, kc, la, lc, rfl, ok, hkc, hlc, hks, hls⟩ := hv.open
  have hk := ok.okKeys
  have hN : (mapOf keys (treesOf l) []).length ≤ 9223372036854775807 := by simp at hlen; omega
  obtain ⟨N, hNN⟩ : ∃ N, (mapOf keys (treesOf l) []).length = N := ⟨_, rfl⟩
  rw [hNN] at hcount hN
  have Hc := Lib.hid hcount
  have Hms := Lib.hid (hNN ▸ hms)
  have HF := Lib.hid hfit; have Hwm := Lib.hid hwm
  clear hfit hms hwm hNN hcount hlen ok hkc hlc hks hls hv hk
  go_enter Try.func3, Try.ntmps3
  go_wp2_with fail
  refine HF.out.mono ?_
  rintro e w1 ⟨u, rfl, rfl, hE⟩
  have HE := Lib.hid (((Ext.refl w).alloc (.cells #[.int .i64 kind, .int .i64 n, .float .f64 f, .string s, .slice ka keys.length kc, .slice la l.length lc] 26)).trans hE)
  have hbo := hE.heap (new_at (w := w) (.cells #[.int .i64 kind, .int .i64 n, .float .f64 f, .string s, .slice ka keys.length kc, .slice la l.length lc] 26) rfl)
  have g0 := cell_of hbo (i := 0) rfl; have g1 := cell_of hbo (i := 1) rfl; have g2 := cell_of hbo (i := 2) rfl
  have g3 := cell_of hbo (i := 3) rfl; have g4 := cell_of hbo (i := 4) rfl; have g5 := cell_of hbo (i := 5) rfl
  have HB := Lib.hid hbo
  clear hE hbo HF
  generalize fits5 (GV.mk kind n f s keys l) = b
  cases b with
  | false =>
    go_wp2
    go_ret
    exact ⟨_, rfl, rfl, HE.out⟩
  | true =>
    go_wp2_with fail
    refine (Hms.out w1 HE.out).mono ?_
    rintro e w2 ⟨u, rfl, rfl, hE2⟩
    have HE2 := Lib.hid (HE.out.trans hE2)
    have hbo := hE2.heap HB.out
    have g0 := cell_of hbo (i := 0) rfl; have g1 := cell_of hbo (i := 1) rfl; have g2 := cell_of hbo (i := 2) rfl
    have g3 := cell_of hbo (i := 3) rfl; have g4 := cell_of hbo (i := 4) rfl; have g5 := cell_of hbo (i := 5) rfl
    clear hE2 hbo
    go_wp2_with fail
    refine (Hwm.out w2 HE2.out).mono ?_
    rintro e w3 ⟨u, rfl, ⟨cu, rfl, hu⟩, hE3⟩
    have HE3 := Lib.hid (HE2.out.trans hE3)
    obtain ⟨ka', kc', la', lc', rfl, -, -, -, -, -⟩ := hu.open
    rw [List.length_map, ← Hc.out]
    clear hE3 hu
    have e0 : ((N : Int) == 0) = (N == 0) := by rw [Bool.eq_iff_iff]; simp
    generalize hb : (N == 0) = b at e0 ⊢
    go_wp2
    go_ret
    exact ⟨_, rfl, rfl, HE3.out⟩
end Go.Smd
