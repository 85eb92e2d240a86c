/- impl.fromTree: what the library holds, as a plain value. -/
import Derived.Test.YtphldfnnjoehpaaKeys
import Derived.Test.YtphldfnnjoehpaaSpecb
import Derived.Test.YtphldfnnjoehpaaAssert
set_option linter.unusedSimpArgs false
namespace Go.Smd
open Go.RowKit Go.Proofs

theorem Tree.ind {P : Tree → Prop} (hn : P .nil) (hb : ∀ b, P (.bool b)) (hi : ∀ n, P (.int n)) (hf : ∀ f, P (.float f)) (hs : ∀ s, P (.str s)) (hl : ∀ l, (∀ x ∈ l, P x) → P (.list l)) (hm : ∀ m, (∀ p ∈ m, P p.2) → P (.map m)) : ∀ t, P t
  | .nil => hn
  | .bool b => hb b
  | .int n => hi n
  | .float f => hf f
  | .str s => hs s
  | .list l => hl l fun x _hx => Tree.ind hn hb hi hf hs hl hm x
  | .map m => hm m fun p _hp => Tree.ind hn hb hi hf hs hl hm p.2
termination_by t => SizeOf.sizeOf t
decreasing_by
  · have := List.sizeOf_lt_of_mem _hx
    simp; omega
  · have h1 := List.sizeOf_lt_of_mem _hp
    have h2 : SizeOf.sizeOf p.2 < SizeOf.sizeOf p := by cases p; simp; omega
    simp; omega

mutual
def fromT : Tree → GV
  | .nil => .mk 0 0 0 ⟨#[]⟩ [] []
  | .bool b => .mk 1 (if b then 1 else 0) 0 ⟨#[]⟩ [] []
  | .int n => .mk 2 n 0 ⟨#[]⟩ [] []
  | .float f => .mk 3 0 f ⟨#[]⟩ [] []
  | .str s => .mk 4 0 0 s [] []
  | .list l => .mk 5 0 0 ⟨#[]⟩ [] (fromTs l)
  | .map m => mkMap (fromMs m)
def fromTs : List Tree → List GV
  | [] => []
  | x :: l => fromT x :: fromTs l
def fromMs : List (ByteArray × Tree) → List (ByteArray × GV)
  | [] => []
  | p :: m => sIns p.1 (fromT p.2) (fromMs m)
end
theorem fromTs_eq : ∀ l, fromTs l = l.map fromT
  | [] => by simp [fromTs]
  | x :: l => by simp [fromTs, fromTs_eq l]
/- The tree's lists and maps are not too long, and no key comes twice. -/
mutual
def Fits : Tree → Prop
  | .list l => l.length * 88 ≤ 140737488351232 ∧ FitsL l
  | .map m => m.length * 88 ≤ 140737488351232 ∧ (m.map (·.1)).Nodup ∧ FitsM m
  | _ => True
def FitsL : List Tree → Prop
  | [] => True
  | x :: l => Fits x ∧ FitsL l
def FitsM : List (ByteArray × Tree) → Prop
  | [] => True
  | p :: m => Fits p.2 ∧ FitsM m
end
theorem FitsL.mem : ∀ {l : List Tree}, FitsL l → ∀ x ∈ l, Fits x
  | [], _, x, h => by cases h
  | y :: l, hf, x, h => by
    simp only [FitsL] at hf
    rcases List.mem_cons.1 h with rfl | h
    · exact hf.1
    · exact FitsL.mem hf.2 x h
theorem FitsM.mem : ∀ {m : List (ByteArray × Tree)}, FitsM m → ∀ p ∈ m, Fits p.2
  | [], _, x, h => by cases h
  | y :: l, hf, x, h => by
    simp only [FitsM] at hf
    rcases List.mem_cons.1 h with rfl | h
    · exact hf.1
    · exact FitsM.mem hf.2 x h
theorem fromMs_sorted : ∀ m, Sorted (fromMs m)
  | [] => by simp [fromMs, Sorted]
  | p :: m => by simp only [fromMs]; exact sIns_sorted (fromMs_sorted m)
theorem fromMs_mem {k : ByteArray} {v : GV} : ∀ {m : List (ByteArray × Tree)}, (k, v) ∈ fromMs m → ∃ t, (k, t) ∈ m ∧ v = fromT t
  | [], h => by simp [fromMs] at h
  | p :: m, h => by
    simp only [fromMs] at h
    rcases mem_sIns h with h | h
    · cases h; exact ⟨p.2, List.mem_cons_self .., rfl⟩
    · obtain ⟨t, h1, h2⟩ := fromMs_mem h
      exact ⟨t, List.mem_cons_of_mem _ h1, h2⟩
theorem fromMs_keys (q : ByteArray) : ∀ m : List (ByteArray × Tree), q ∈ (fromMs m).map (·.1) ↔ q ∈ m.map (·.1)
  | [] => by simp [fromMs]
  | p :: m => by
    simp only [fromMs]
    have h : ∀ (k : ByteArray) (v : GV) (l : List (ByteArray × GV)), q ∈ (sIns k v l).map (·.1) ↔ q = k ∨ q ∈ l.map (·.1) := fun k v l => by
      induction l with
      | nil => simp [sIns]
      | cons y l ih =>
        simp only [sIns]
        split
        · simp only [List.map_cons, List.mem_cons, ih]
          constructor <;> rintro (h | h | h) <;> simp [h]
        · split
          · next h => simp [h]
          · simp
    rw [h, fromMs_keys q m]; simp

/-- A value that is being built in a variable of the call's own, its list item by item. -/
structure LSt (w wr : World) (kd : Int) (kv lv : Value) (ls : List GV) : Prop where
  ext : Ext w wr
  lt : w.heap.size < wr.heap.size
  out : wr.heap[w.heap.size]? = some (.cells #[.int .i64 kd, .int .i64 0, .float .f64 0, .string ⟨#[]⟩, kv, lv] 26 (0, 0))
  bl : Build RG 26 6 (w.heap.size < ·) (w.heap.size < ·) wr lv ls
theorem LSt.grow {w wr wr' : World} {kd : Int} {kv lv : Value} {ls : List GV} (h : LSt w wr kd kv lv ls) (e : Ext wr wr') : LSt w wr' kd kv lv ls :=
  ⟨h.ext.trans e, by have := e.size; have := h.lt; omega, e.heap h.out, h.bl.ext framedRG e⟩
theorem LSt.own {w wr : World} {kd : Int} {kv lv : Value} {ls : List GV} (h : LSt w wr kd kv lv ls) {b : Nat} (hb : lv.ownBlock = some b) : w.heap.size < b ∧ b < wr.heap.size := ⟨h.bl.row_in hb, h.bl.row_lt hb⟩
theorem LSt.push {w wr : World} {kd : Int} {kv lv : Value} {ls : List GV} (h : LSt w wr kd kv lv ls) {v : GV} {cs : List Value} (hv : RepGV (fun b => w.heap.size < b ∧ lv.ownBlock ≠ some b) wr v cs) {N : Nat} (hN : ls.length + 1 = N) (hn : N * 88 ≤ 140737488355328) :
    ∃ lv' w3, (Builtin.append_ #[24, 24] 24 #[lv, .slice (some ⟨wr.heap.size, 0, none⟩) 1 1]).run Try.prog (wr.alloc (.cells cs.toArray 26)) = .ok lv' w3 ∧ (∃ A' c', lv' = .slice A' N c') ∧ w3.cell? ⟨w.heap.size, 5, none⟩ = some lv ∧ w3.frozen? ⟨w.heap.size, 5, none⟩ = false ∧ LSt w (w3.setCell ⟨w.heap.size, 5, none⟩ lv') kd kv lv' (ls ++ [v]) := by
  subst hN
  obtain ⟨lv', w3, hrun, hB, hg, _, hsl⟩ := Build.push (P := Try.prog) (t := 24) (ty := 24) framedRG Try.underlying24 info_val rfl (by omega) (by omega) h.bl (y := v) (ys := cs) (RepGV.mono hv fun b hb => hb) hv.length hv.ones (by have := h.lt; omega) hn
  have hout : w3.heap[w.heap.size]? = _ := (hg.block w.heap.size h.lt fun hc => by have := (h.own hc.symm).1; omega).trans h.out
  refine ⟨lv', w3, hrun, hsl, cell_of hout (i := 5) rfl, by simp [World.frozen?, hout], ?_, ?_, ?_, ?_⟩
  · exact Ext.setCell (Below.grown h.ext hg h.ext.size fun b hb => by have := (h.own hb).1; omega) (Nat.le_refl _) _
  · have := hg.size; have := h.lt; simp [World.setCell]; omega
  · exact setCell_at lv' hout
  · obtain ⟨A, c, hs⟩ := hsl
    refine hB.frame framedRG (fun b hb => setCell_same w3 _ 5 _ b (by have := hb; omega)) (fun b hb => setCell_same w3 _ 5 _ b (by have := hb; omega)) (fun _ h => h) fun _ h => h
end Go.Smd
