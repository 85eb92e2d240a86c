/- Plain data of the package's values, how they lie in memory, and what extends a memory. No condition. -/
import Derived.Handy
import Derived.WalkSpells
import Derived.WalkLawsBesides
import Derived.Lib.Hide
import Derived.Deep.LoopGhost
import Derived.Deep.RegionHeld3
import Derived.Deep.QuietTactic
import Derived.BigQuiet
import Derived.Deep.DeepMust
import Derived.Deep.Cut
import Derived.Deep.DeepFit
import Derived.Test.YtphldfnnjoehpaaProg
namespace Go.Smd
open Go.RowKit

/-! ### Memory that only grows -/
/-- w' has all of w's blocks as they were (and perhaps more). -/
def Ext (w w' : World) : Prop := Below w.heap.size w w'
theorem Ext.refl (w : World) : Ext w w := Below.refl _ _
theorem Ext.trans {a b c : World} (h : Ext a b) (k : Ext b c) : Ext a c := Below.trans h (Below.mono k h.size)
theorem Ext.below {w w' : World} (h : Ext w w') {B : Nat} (hB : B ≤ w.heap.size) : Below B w w' := Below.mono h hB
theorem Ext.heap {w w' : World} (h : Ext w w') {b : Nat} {o : Obj} (hb : w.heap[b]? = some o) : w'.heap[b]? = some o :=
  (h.block b (Array.getElem?_eq_some_iff.1 hb).1).trans hb
theorem Ext.cell {w w' : World} (h : Ext w w') {a : Addr} {v : Value} (hc : w.cell? a = some v) : w'.cell? a = some v :=
  (Below.cell h (World.block_lt_of_cell? w a hc)).trans hc
theorem Ext.alloc {a w : World} (h : Ext a w) (o : Obj) : Ext a (w.alloc o) := Below.alloc h h.size o
theorem Ext.drew {a w : World} (h : Ext a w) : Ext a w.drew := Below.drew h
theorem Ext.drewN {a w : World} (h : Ext a w) (n : Nat) : Ext a (w.drewN n) := ⟨h.os, h.tape, h.output, h.size, h.block⟩
theorem Ext.setCell {a w : World} (h : Ext a w) {p : Addr} (hp : a.heap.size ≤ p.block) (u : Value) : Ext a (w.setCell p u) := Below.setCell h hp u
theorem Ext.size {w w' : World} (h : Ext w w') : w.heap.size ≤ w'.heap.size := Below.size h
/-- What the walk uses of an extension: the old cells and marks. -/
theorem Ext.cells {w w' : World} (h : Ext w w') : (∀ b o, b < w.heap.size → w'.cell? ⟨b, o, none⟩ = w.cell? ⟨b, o, none⟩) ∧ (∀ b o, b < w.heap.size → w'.frozen? ⟨b, o, none⟩ = w.frozen? ⟨b, o, none⟩) :=
  ⟨fun b o hb => Below.cell h (p := ⟨b, o, none⟩) hb, fun b o hb => Below.frozen h (p := ⟨b, o, none⟩) hb⟩

theorem size_alloc (w : World) (o : Obj) : (w.alloc o).heap.size = w.heap.size + 1 := by simp
theorem new_at {w : World} (o : Obj) {n : Nat} (h : w.heap.size = n) : (w.alloc o).heap[n]? = some o := by subst h; exact heap_alloc_new w o
theorem old_at {w : World} (o : Obj) {n : Nat} {p : Obj} (h : w.heap[n]? = some p) : (w.alloc o).heap[n]? = some p := ((Ext.refl w).alloc o).heap h

/-! ### Rows of cells -/
/-- The blocks of which S speaks are the same. -/
def Same (S : Nat → Prop) (w w' : World) : Prop := ∀ b, S b → w'.heap[b]? = w.heap[b]?
theorem Same.cell {S : Nat → Prop} {w w' : World} (h : Same S w w') {a : Addr} (ha : S a.block) {v : Value} (hc : w.cell? a = some v) : w'.cell? a = some v := (World.cell?_of_block (w := w) (h _ ha)).trans hc
theorem Same.mono {S S' : Nat → Prop} {w w' : World} (h : Same S w w') (hs : ∀ b, S' b → S b) : Same S' w w' := fun b hb => h b (hs b hb)

/-- From address a on the cells are cs. -/
def CellsAt (w : World) (a : Addr) (cs : List Value) : Prop := ∀ i u, cs[i]? = some u → w.cell? (a.add i) = some u
theorem CellsAt.ext {w w' : World} {a : Addr} {cs : List Value} (h : CellsAt w a cs) (e : Ext w w') : CellsAt w' a cs := fun i u hu => e.cell (h i u hu)
theorem add_block (a : Addr) (n : Nat) : (a.add n).block = a.block := by unfold Addr.add; split <;> rfl
theorem CellsAt.frame {S : Nat → Prop} {w w' : World} {a : Addr} {cs : List Value} (h : CellsAt w a cs) (e : Same S w w') (ha : S a.block) : CellsAt w' a cs := fun i u hu => e.cell (by rw [add_block]; exact ha) (h i u hu)

theorem CellsAt.six {w : World} {a : Addr} {c0 c1 c2 c3 c4 c5 : Value} (h : CellsAt w a [c0, c1, c2, c3, c4, c5]) :
    w.cell? a = some c0 ∧ w.cell? ⟨a.block, a.off + 1, none⟩ = some c1 ∧ w.cell? ⟨a.block, a.off + 2, none⟩ = some c2 ∧ w.cell? ⟨a.block, a.off + 3, none⟩ = some c3 ∧ w.cell? ⟨a.block, a.off + 4, none⟩ = some c4 ∧ w.cell? ⟨a.block, a.off + 5, none⟩ = some c5 :=
  ⟨by simpa [Addr.add] using h 0 c0 rfl, by simpa [Addr.add] using h 1 c1 rfl, by simpa [Addr.add] using h 2 c2 rfl, by simpa [Addr.add] using h 3 c3 rfl, by simpa [Addr.add] using h 4 c4 rfl, by simpa [Addr.add] using h 5 c5 rfl⟩

/-- A slice's memory, in blocks of S: item j of xs lies at place j * size as cells that R accepts. -/
def RowOf {α : Type} (R : α → List Value → Prop) (size : Nat) (S : Nat → Prop) (w : World) (A : Option Addr) (xs : List α) : Prop :=
  ∀ j x, xs[j]? = some x → ∃ ad cs, A = some ad ∧ S ad.block ∧ R x cs ∧ cs.length = size ∧ CellsAt w (ad.add (j * size)) cs
theorem RowOf.nil {α : Type} {R : α → List Value → Prop} {size : Nat} {S : Nat → Prop} {w : World} {A : Option Addr} : RowOf R size S w A [] := fun j x h => by simp at h
theorem RowOf.imp {α : Type} {R R' : α → List Value → Prop} {size : Nat} {S : Nat → Prop} {w w' : World} {A : Option Addr} {xs : List α} (h : RowOf R size S w A xs) (e : Ext w w') (hR : ∀ x ∈ xs, ∀ cs, R x cs → R' x cs) : RowOf R' size S w' A xs := fun j x hj => by
  obtain ⟨ad, cs, ha, hs, hr, hl, hc⟩ := h j x hj
  exact ⟨ad, cs, ha, hs, hR x (List.mem_of_getElem? hj) cs hr, hl, hc.ext e⟩
theorem RowOf.frame {α : Type} {R R' : α → List Value → Prop} {size : Nat} {S S' : Nat → Prop} {w w' : World} {A : Option Addr} {xs : List α} (h : RowOf R size S w A xs) (e : Same S w w') (hS : ∀ b, S b → S' b) (hR : ∀ x ∈ xs, ∀ cs, R x cs → R' x cs) : RowOf R' size S' w' A xs := fun j x hj => by
  obtain ⟨ad, cs, ha, hs, hr, hl, hc⟩ := h j x hj
  exact ⟨ad, cs, ha, hS _ hs, hR x (List.mem_of_getElem? hj) cs hr, hl, hc.frame e (by rw [add_block]; exact hs)⟩

/-- Strings in a row. -/
def RStr (s : ByteArray) (cs : List Value) : Prop := cs = [.string s]
def RepStrs (S : Nat → Prop) (w : World) (A : Option Addr) (ss : List ByteArray) : Prop := RowOf RStr 1 S w A ss
theorem RepStrs.ext {S : Nat → Prop} {w w' : World} {A : Option Addr} {ss : List ByteArray} (h : RepStrs S w A ss) (e : Ext w w') : RepStrs S w' A ss := RowOf.imp h e fun _ _ _ k => k
theorem RepStrs.frame {S S' : Nat → Prop} {w w' : World} {A : Option Addr} {ss : List ByteArray} (h : RepStrs S w A ss) (e : Same S w w') (hS : ∀ b, S b → S' b) : RepStrs S' w' A ss := RowOf.frame h e hS fun _ _ _ k => k
theorem RepStrs.at {S : Nat → Prop} {w : World} {A : Option Addr} {ss : List ByteArray} (h : RepStrs S w A ss) {j : Nat} {s : ByteArray} (hj : ss[j]? = some s) : ∃ ad, A = some ad ∧ w.cell? (ad.add j) = some (.string s) := by
  obtain ⟨ad, cs, ha, _, rfl, _, hc⟩ := h j s hj
  refine ⟨ad, ha, ?_⟩
  have := hc 0 _ rfl
  simpa [Addr.add] using this

/-! ### impl.Value -/
inductive GV where
  | mk (kind n : Int) (f : Nat) (s : ByteArray) (keys : List ByteArray) (l : List GV)

theorem GV.ind {P : GV → Prop} (h : ∀ kind n f s keys l, (∀ x ∈ l, P x) → P (.mk kind n f s keys l)) : ∀ v, P v
  | .mk kind n f s keys l => h kind n f s keys l fun x _hx => GV.ind h x
termination_by v => SizeOf.sizeOf v
decreasing_by
  have := List.sizeOf_lt_of_mem _hx
  simp; omega

/-- Sizes and ranges of the parts. -/
structure GVok (kind n : Int) (f : Nat) (s : ByteArray) (keys : List ByteArray) (l : List GV) : Prop where
  okKind : -9223372036854775808 ≤ kind ∧ kind ≤ 9223372036854775807
  okN : -9223372036854775808 ≤ n ∧ n ≤ 9223372036854775807
  okF : f < 18446744073709551616
  okS : s.size ≤ 140737488351232
  okKeys : keys.length * 16 ≤ 140737488351232
  okEach : ∀ k ∈ keys, k.size ≤ 140737488351232
  okL : l.length * 88 ≤ 140737488351232

inductive RepGV (S : Nat → Prop) (w : World) : GV → List Value → Prop
  | mk {kind n : Int} {f : Nat} {s : ByteArray} {keys : List ByteArray} {l : List GV} {ka la : Option Addr} {kc lc : Nat}
      (ok : GVok kind n f s keys l) (hkc : keys.length ≤ kc) (hlc : l.length ≤ lc) (hk : RepStrs S w ka keys)
      (ll : Nat → List Value) (hl : ∀ j x, l[j]? = some x → RepGV S w x (ll j))
      (hc : ∀ j x, l[j]? = some x → ∃ ad, la = some ad ∧ S ad.block ∧ CellsAt w (ad.add (j * 6)) (ll j)) :
      RepGV S w (.mk kind n f s keys l) [.int .i64 kind, .int .i64 n, .float .f64 f, .string s, .slice ka keys.length kc, .slice la l.length lc]

def RepGVs (S : Nat → Prop) (w : World) (A : Option Addr) (l : List GV) : Prop := RowOf (RepGV S w) 6 S w A l

theorem RepGV.ext {S : Nat → Prop} {w w' : World} (e : Ext w w') {v : GV} {cs : List Value} (h : RepGV S w v cs) : RepGV S w' v cs := by
  induction h with
  | mk ok hkc hlc hk ll hl hc ih =>
    exact .mk ok hkc hlc (hk.ext e) ll ih fun j x hj => by
      obtain ⟨ad, ha, hs, hcs⟩ := hc j x hj
      exact ⟨ad, ha, hs, hcs.ext e⟩
theorem RepGV.frame {S S' : Nat → Prop} {w w' : World} (e : Same S w w') (hS : ∀ b, S b → S' b) {v : GV} {cs : List Value} (h : RepGV S w v cs) : RepGV S' w' v cs := by
  induction h with
  | mk ok hkc hlc hk ll hl hc ih =>
    exact .mk ok hkc hlc (hk.frame e hS) ll ih fun j x hj => by
      obtain ⟨ad, ha, hs, hcs⟩ := hc j x hj
      exact ⟨ad, ha, hS _ hs, hcs.frame e (by rw [add_block]; exact hs)⟩
theorem RepGV.mono {S S' : Nat → Prop} {w : World} {v : GV} {cs : List Value} (h : RepGV S w v cs) (hS : ∀ b, S b → S' b) : RepGV S' w v cs := h.frame (fun _ _ => rfl) hS
theorem RepGV.length {S : Nat → Prop} {w : World} {v : GV} {cs : List Value} (h : RepGV S w v cs) : cs.length = 6 := by cases h; rfl
theorem RepGVs.ext {S : Nat → Prop} {w w' : World} {A : Option Addr} {l : List GV} (h : RepGVs S w A l) (e : Ext w w') : RepGVs S w' A l := RowOf.imp h e fun _ _ _ k => k.ext e
theorem RepGVs.frame {S S' : Nat → Prop} {w w' : World} {A : Option Addr} {l : List GV} (h : RepGVs S w A l) (e : Same S w w') (hS : ∀ b, S b → S' b) : RepGVs S' w' A l := RowOf.frame h e hS fun _ _ _ k => k.frame e hS

/-- A value laid open: its six cells, the rows of its keys and items. -/
theorem RepGV.open {S : Nat → Prop} {w : World} {kind n : Int} {f : Nat} {s : ByteArray} {keys : List ByteArray} {l : List GV} {cs : List Value} (h : RepGV S w (.mk kind n f s keys l) cs) :
    ∃ ka kc la lc, cs = [.int .i64 kind, .int .i64 n, .float .f64 f, .string s, .slice ka keys.length kc, .slice la l.length lc] ∧ GVok kind n f s keys l ∧ keys.length ≤ kc ∧ l.length ≤ lc ∧ RepStrs S w ka keys ∧ RepGVs S w la l := by
  cases h with
  | mk ok hkc hlc hk ll hl hc =>
    refine ⟨_, _, _, _, rfl, ok, hkc, hlc, hk, fun j x hj => ?_⟩
    obtain ⟨ad, ha, hs, hcs⟩ := hc j x hj
    exact ⟨ad, ll j, ha, hs, hl j x hj, (hl j x hj).length, hcs⟩
theorem RepGV.close {S : Nat → Prop} {w : World} {kind n : Int} {f : Nat} {s : ByteArray} {keys : List ByteArray} {l : List GV} {ka la : Option Addr} {kc lc : Nat} (ok : GVok kind n f s keys l) (hkc : keys.length ≤ kc) (hlc : l.length ≤ lc) (hk : RepStrs S w ka keys) (hl : RepGVs S w la l) :
    RepGV S w (.mk kind n f s keys l) [.int .i64 kind, .int .i64 n, .float .f64 f, .string s, .slice ka keys.length kc, .slice la l.length lc] := by
  have key : ∀ j : Nat, ∃ cs, ∀ x, l[j]? = some x → RepGV S w x cs ∧ ∃ ad, la = some ad ∧ S ad.block ∧ CellsAt w (ad.add (j * 6)) cs := fun j => by
    cases hj : l[j]? with
    | none => exact ⟨[], fun x hx => by cases hx⟩
    | some x =>
      obtain ⟨ad, cs, ha, hs, hr, _, hc⟩ := hl j x hj
      exact ⟨cs, fun y hy => by cases hy; exact ⟨hr, ad, ha, hs, hc⟩⟩
  exact .mk ok hkc hlc hk (fun j => Classical.choose (key j)) (fun j x hj => (Classical.choose_spec (key j) x hj).1) (fun j x hj => (Classical.choose_spec (key j) x hj).2)
/-- An item of a row, cell by cell. -/
theorem RepGVs.at {S : Nat → Prop} {w : World} {A : Option Addr} {l : List GV} (h : RepGVs S w A l) {j : Nat} {x : GV} (hj : l[j]? = some x) :
    ∃ ad c0 c1 c2 c3 c4 c5, A = some ad ∧ S ad.block ∧ RepGV S w x [c0, c1, c2, c3, c4, c5] ∧ CellsAt w (ad.add (j * 6)) [c0, c1, c2, c3, c4, c5] := by
  obtain ⟨ad, cs, ha, hs, hr, hl, hc⟩ := h j x hj
  match cs, hl with
  | [c0, c1, c2, c3, c4, c5], _ => exact ⟨ad, c0, c1, c2, c3, c4, c5, ha, hs, hr, hc⟩

theorem RepGV.ones {S : Nat → Prop} {w : World} {v : GV} {cs : List Value} (h : RepGV S w v cs) : ∀ u ∈ cs, u.oneCell' = true := by
  cases h; simp [Value.oneCell']
theorem RepGV.list6 {S : Nat → Prop} {w : World} {v : GV} {cs : List Value} (h : RepGV S w v cs) : ∃ c0 c1 c2 c3 c4 c5, cs = [c0, c1, c2, c3, c4, c5] := by
  cases h; exact ⟨_, _, _, _, _, _, rfl⟩
theorem RepGV.six {S : Nat → Prop} {w : World} {v : GV} {c0 c1 c2 c3 c4 c5 : Value} (h : RepGV S w v [c0, c1, c2, c3, c4, c5]) :
    c0.oneCell' = true ∧ c1.oneCell' = true ∧ c2.oneCell' = true ∧ c3.oneCell' = true ∧ c4.oneCell' = true ∧ c5.oneCell' = true := by
  have := h.ones; simpa using this
theorem cells_one {v : Value} (h : v.oneCell' = true) : v.cells = #[v] := by cases v <;> first | rfl | simp [Value.oneCell'] at h
@[go_sem] theorem run_store_float (P : Program) (w : World) (a : Addr) (k : FloatKind) (n : Nat) (m : Mode) : (store a (.float k n) m).run P w = stored P w a (.float k n) m := run_store P w a _ m rfl
@[go_sem] theorem run_store_map (P : Program) (w : World) (a : Addr) (r : Option Nat) (m : Mode) : (store a (.map r) m).run P w = stored P w a (.map r) m := run_store P w a _ m rfl
@[go_sem] theorem run_store_one (P : Program) (w : World) (a : Addr) (v : Value) (m : Mode) (hv : v.oneCell' = true) : (store a v m).run P w = stored P w a v m := run_store P w a v m hv

/-! ### The trees that the package takes for objects -/
inductive Tree where
  | nil
  | bool (b : Bool)
  | int (n : Int)
  | float (f : Nat)
  | str (s : ByteArray)
  | list (l : List Tree)
  | map (m : List (ByteArray × Tree))

/-- What an interface value says of a tree in memory w, in blocks of S; a map's fields in the order in which they came; no map lies within itself. -/
inductive RepT (w : World) : (Nat → Prop) → Tree → Value → Prop
  | nil {S : Nat → Prop} : RepT w S .nil .nilIface
  | bool {S : Nat → Prop} (b : Bool) : RepT w S (.bool b) (.iface 4 (.bool b))
  | int {S : Nat → Prop} {n : Int} (h : -9223372036854775808 ≤ n ∧ n ≤ 9223372036854775807) : RepT w S (.int n) (.iface 2 (.int .i64 n))
  | float {S : Nat → Prop} {f : Nat} (h : f < 18446744073709551616) : RepT w S (.float f) (.iface 22 (.float .f64 f))
  | str {S : Nat → Prop} {s : ByteArray} (h : s.size ≤ 140737488351232) : RepT w S (.str s) (.iface 9 (.string s))
  | list {S : Nat → Prop} {l : List Tree} {A : Option Addr} {c : Nat} (ll : Nat → Value) (hlen : l.length * 16 ≤ 140737488351232) (hcap : l.length ≤ c)
      (hl : ∀ j x, l[j]? = some x → RepT w S x (ll j)) (hc : ∀ j x, l[j]? = some x → ∃ ad, A = some ad ∧ S ad.block ∧ w.cell? (ad.add j) = some (ll j)) :
      RepT w S (.list l) (.iface 128 (.slice A l.length c))
  | map {S : Nat → Prop} {m : List (ByteArray × Tree)} {r : Nat} {es : List MapEntry} {clock : Nat} (hS : S r) (hr : w.heap[r]? = some (.map es.toArray clock))
      (hm : m.length ≤ 140737488351232) (hk : es.map (·.key) = m.map fun p => Value.string p.1) (hs : ∀ p ∈ m, p.1.size ≤ 140737488351232)
      (hb : (es.map (·.born)).Pairwise (· < ·)) (hbc : ∀ e ∈ es, e.born < clock)
      (hv : ∀ (j : Nat) (p : ByteArray × Tree) (e : MapEntry), m[j]? = some p → es[j]? = some e → RepT w (fun b => S b ∧ b ≠ r) p.2 e.val) :
      RepT w S (.map m) (.iface 154 (.map (some r)))

theorem RepT.ext {w w' : World} (e : Ext w w') {S : Nat → Prop} {t : Tree} {x : Value} (h : RepT w S t x) : RepT w' S t x := by
  induction h with
  | nil => exact .nil
  | bool b => exact .bool b
  | int h => exact .int h
  | float h => exact .float h
  | str h => exact .str h
  | list ll hlen hcap hl hc ih =>
    exact .list ll hlen hcap ih fun j x hj => by
      obtain ⟨ad, ha, hs, hcs⟩ := hc j x hj
      exact ⟨ad, ha, hs, e.cell hcs⟩
  | map hS hr hm hk hs hb hbc hv ih => exact .map hS (e.heap hr) hm hk hs hb hbc ih
theorem RepT.frame {w w' : World} {S : Nat → Prop} {t : Tree} {x : Value} (h : RepT w S t x) : ∀ {S' : Nat → Prop}, Same S w w' → (∀ b, S b → S' b) → RepT w' S' t x := by
  induction h with
  | nil => exact fun _ _ => .nil
  | bool b => exact fun _ _ => .bool b
  | int h => exact fun _ _ => .int h
  | float h => exact fun _ _ => .float h
  | str h => exact fun _ _ => .str h
  | list ll hlen hcap hl hc ih =>
    intro S' e hS'
    exact .list ll hlen hcap (fun j x hj => ih j x hj e hS') fun j x hj => by
      obtain ⟨ad, ha, hs, hcs⟩ := hc j x hj
      exact ⟨ad, ha, hS' _ hs, e.cell (by rw [add_block]; exact hs) hcs⟩
  | map hS hr hm hk hs hb hbc hv ih =>
    intro S' e hS'
    exact .map (hS' _ hS) ((e _ hS).trans hr) hm hk hs hb hbc fun j p en hp he => ih j p en hp he (e.mono fun _ h => h.1) fun b h => ⟨hS' _ h.1, h.2⟩
theorem RepT.mono {w : World} {S S' : Nat → Prop} {t : Tree} {x : Value} (h : RepT w S t x) (hS : ∀ b, S b → S' b) : RepT w S' t x := h.frame (fun _ _ => rfl) hS
theorem RepT.form {w : World} {S : Nat → Prop} {t : Tree} {x : Value} (h : RepT w S t x) : x = .nilIface ∨ ∃ T y, x = .iface T y := by
  cases h <;> simp

/-- A value.Value (an interface over *valueUnstructured) that holds a tree. -/
def RepV (w : World) (S : Nat → Prop) (t : Tree) (v : Value) : Prop := ∃ a x, v = .iface 193 (.pointer (some ⟨a, 0, none⟩)) ∧ S a ∧ w.cell? ⟨a, 0, none⟩ = some x ∧ RepT w S t x
theorem RepV.ext {w w' : World} (e : Ext w w') {S : Nat → Prop} {t : Tree} {v : Value} (h : RepV w S t v) : RepV w' S t v := by
  obtain ⟨a, x, rfl, hs, hc, hx⟩ := h
  exact ⟨a, x, rfl, hs, e.cell hc, hx.ext e⟩
theorem RepV.frame {w w' : World} {S S' : Nat → Prop} {t : Tree} {v : Value} (h : RepV w S t v) (e : Same S w w') (hS : ∀ b, S b → S' b) : RepV w' S' t v := by
  obtain ⟨a, x, rfl, hs, hc, hx⟩ := h
  exact ⟨a, x, rfl, hS _ hs, e.cell hs hc, hx.frame e hS⟩

/-! ### What calls come to -/
/-- The call only computes. -/
def Gives (v : Value) (w : World) (e : Ending) (w' : World) : Prop := e = .returned v ∧ w = w'
theorem Gives.bool {b b' : Bool} {w : World} (h : b = b') : Gives (.bool b') w (.returned (.bool b)) w := ⟨by rw [h], rfl⟩
theorem Gives.int {k : IntKind} {b b' : Int} {w : World} (h : b = b') : Gives (.int k b') w (.returned (.int k b)) w := ⟨by rw [h], rfl⟩
/-- The call returns a value of which Q holds in the memory behind it; all that was there is as it was. -/
def Makes (Q : World → Value → Prop) (w : World) (e : Ending) (w' : World) : Prop := ∃ v, e = .returned v ∧ Q w' v ∧ Ext w w'
theorem Makes.mk {Q : World → Value → Prop} {w w' : World} {v : Value} (h : Q w' v) (e : Ext w w') : Makes Q w (.returned v) w' := ⟨v, rfl, h, e⟩
end Go.Smd
