/- Slices that a call builds, item by item. -/
import Derived.Test.YtphldfnnjoehpaaMap
import Derived.Deep.AppendLies
import Derived.Maps.AppendAt
namespace Go.Smd
open Go.RowKit Go.Proofs

theorem cell_lt {w : World} {a : Addr} {v : Value} (h : w.cell? a = some v) : a.block < w.heap.size := World.block_lt_of_cell? w a h
theorem CellsAt.lt {w : World} {a : Addr} {cs : List Value} (h : CellsAt w a cs) (hc : 0 < cs.length) : a.block < w.heap.size := by
  have := cell_lt (h 0 cs[0] (List.getElem?_eq_getElem hc))
  rwa [add_block] at this
theorem RowOf.lt {α : Type} {R R' : α → List Value → Prop} {size : Nat} (hz : 0 < size) {S : Nat → Prop} {w : World} {A : Option Addr} {xs : List α} (h : RowOf R size S w A xs) (hR : ∀ x ∈ xs, ∀ cs, R x cs → R' x cs) : RowOf R' size (fun b => S b ∧ b < w.heap.size) w A xs := fun j x hj => by
  obtain ⟨ad, cs, ha, hs, hr, hl, hc⟩ := h j x hj
  have := hc.lt (by omega)
  rw [add_block] at this
  exact ⟨ad, cs, ha, ⟨hs, this⟩, hR x (List.mem_of_getElem? hj) cs hr, hl, hc⟩
theorem RepStrs.lt {S : Nat → Prop} {w : World} {A : Option Addr} {ss : List ByteArray} (h : RepStrs S w A ss) : RepStrs (fun b => S b ∧ b < w.heap.size) w A ss := RowOf.lt (by omega) h fun _ _ _ k => k
theorem RepGV.lt {S : Nat → Prop} {w : World} {v : GV} {cs : List Value} (h : RepGV S w v cs) : RepGV (fun b => S b ∧ b < w.heap.size) w v cs := by
  induction h with
  | mk ok hkc hlc hk ll hl hc ih =>
    refine .mk ok hkc hlc hk.lt ll ih fun j x hj => ?_
    obtain ⟨ad, ha, hs, hcs⟩ := hc j x hj
    have := hcs.lt (by rw [(hl j x hj).length]; omega)
    rw [add_block] at this
    exact ⟨ad, ha, ⟨hs, this⟩, hcs⟩
theorem RepGVs.lt {S : Nat → Prop} {w : World} {A : Option Addr} {l : List GV} (h : RepGVs S w A l) : RepGVs (fun b => S b ∧ b < w.heap.size) w A l := RowOf.lt (by omega) h fun _ _ _ k => k.lt
theorem RepT.lt {w : World} {S : Nat → Prop} {t : Tree} {x : Value} (h : RepT w S t x) : RepT w (fun b => S b ∧ b < w.heap.size) t x := by
  induction h with
  | nil => exact .nil
  | bool b => exact .bool b
  | int h => exact .int h
  | float h => exact .float h
  | str h => exact .str h
  | list ll hlen hcap hl hc ih =>
    refine .list ll hlen hcap ih fun j x hj => ?_
    obtain ⟨ad, ha, hs, hcs⟩ := hc j x hj
    have := cell_lt hcs
    rw [add_block] at this
    exact ⟨ad, ha, ⟨hs, this⟩, hcs⟩
  | map hS hr hm hk hs hb hbc hv ih =>
    exact .map ⟨hS, (Array.getElem?_eq_some_iff.1 hr).1⟩ hr hm hk hs hb hbc fun j p en hp he => (ih j p en hp he).mono fun b h => ⟨⟨h.1.1, h.2⟩, h.1.2⟩

theorem RowOf.take {α : Type} {R : α → List Value → Prop} {size : Nat} {S : Nat → Prop} {w : World} {A : Option Addr} {xs : List α} (h : RowOf R size S w A xs) (n : Nat) : RowOf R size S w A (xs.take n) := fun j x hj => by
  rw [List.getElem?_take] at hj
  split at hj
  · exact h j x hj
  · cases hj
theorem add_add (a : Addr) (n m : Nat) : (a.add n).add m = a.add (n + m) := by
  unfold Addr.add
  by_cases h1 : n = 0 <;> by_cases h2 : m = 0 <;> simp [h1, h2, Nat.add_assoc]
theorem RowOf.drop {α : Type} {R : α → List Value → Prop} {size : Nat} {S : Nat → Prop} {w : World} {A : Option Addr} {xs : List α} (h : RowOf R size S w A xs) {n c : Nat} (hc : xs.length ≤ c) : RowOf R size S w (if c = n then A else A.map (·.add (n * size))) (xs.drop n) := fun j x hj => by
  rw [List.getElem?_drop] at hj
  have hlt := (List.getElem?_eq_some_iff.1 hj).1
  obtain ⟨ad, cs, rfl, hs, hr, hl, hcs⟩ := h (n + j) x hj
  rw [if_neg (by omega)]
  refine ⟨ad.add (n * size), cs, rfl, by rw [add_block]; exact hs, hr, hl, ?_⟩
  rw [add_add, ← Nat.add_mul]; exact hcs
/-- xs[m:] as the walk may take it, whatever the capacity. -/
theorem slice_from {P : Program} (t e : TypeId) {size : Nat} (ht : P.underlying t = some (.slice e)) (hi : (P.info? e).map (·.size) = some size) (A : Option Addr) (n c m : Nat) (k : Int) (hk : k = (m : Int)) (hm : m ≤ n) :
    ∃ A' : Option Addr, (∀ W : World, (Instr.slice t (.slice A n c) (some (.int .i64 k)) none none).run P W = .ok (.slice A' (n - m) (c - m)) W) ∧
      ∀ {α : Type} {R : α → List Value → Prop} {S : Nat → Prop} {w : World} {xs : List α}, xs.length ≤ c → RowOf R size S w A xs → RowOf R size S w A' (xs.drop m) := by
  subst hk
  obtain ⟨i, hi', rfl⟩ := Option.map_eq_some_iff.1 hi
  refine ⟨if c = m then A else A.map (·.add (m * i.size)), fun W => ?_, fun hc h => h.drop hc⟩
  have hel : P.elem t = e := by simp [Program.elem, ht]
  have hu : P.underlying t = some (.slice (P.elem t)) := by rw [hel]; exact ht
  rw [run_slice_l W t A n c hu .i64 (m : Int) (Int.natCast_nonneg _) (by omega), hel]
  simp [sizeOf, typeInfo, hi', sliced, Result.andThen]

/-- What is said of cells in blocks of S stays true where these blocks stay. -/
structure Framed {α : Type} (R : World → (Nat → Prop) → α → List Value → Prop) : Prop where
  frame : ∀ {w w' : World} {S S' : Nat → Prop} {x : α} {c : List Value}, R w S x c → Same S w w' → (∀ b, S b → S' b) → R w' S' x c
  lt : ∀ {w : World} {S : Nat → Prop} {x : α} {c : List Value}, R w S x c → R w (fun b => S b ∧ b < w.heap.size) x c
theorem Framed.ext {α : Type} {R : World → (Nat → Prop) → α → List Value → Prop} (F : Framed R) {w w' : World} {S : Nat → Prop} {x : α} {c : List Value} (h : R w S x c) (e : Ext w w') : R w' S x c :=
  F.frame (F.lt h) (fun b hb => Below.block e b hb.2) fun _ hb => hb.1

def RT (w : World) (S : Nat → Prop) (t : Tree) (cs : List Value) : Prop := ∃ x, cs = [x] ∧ RepT w S t x
def RG (w : World) (S : Nat → Prop) (v : GV) (cs : List Value) : Prop := RepGV S w v cs
def RS (_w : World) (_S : Nat → Prop) (s : ByteArray) (cs : List Value) : Prop := RStr s cs
theorem framedRT : Framed RT := ⟨fun ⟨x, hx, h⟩ e hs => ⟨x, hx, h.frame e hs⟩, fun ⟨x, hx, h⟩ => ⟨x, hx, h.lt⟩⟩
theorem framedRG : Framed RG := ⟨fun h e hs => RepGV.frame e hs h, fun h => RepGV.lt h⟩
theorem framedRS : Framed RS := ⟨fun h _ _ => h, fun h => h⟩

theorem List.reverseRecOn' {α : Type} {motive : List α → Prop} (xs : List α) (nil : motive []) (snoc : ∀ ys y, motive ys → motive (ys ++ [y])) : motive xs := by
  have : ∀ ys : List α, motive ys.reverse := fun ys => by
    induction ys with
    | nil => exact nil
    | cons y ys ih => rw [List.reverse_cons]; exact snoc _ _ ih
  have h := this xs.reverse
  rwa [List.reverse_reverse] at h

def Elems {α : Type} (R : α → List Value → Prop) (size : Nat) (xs : List α) (cs : List Value) : Prop :=
  cs.length = xs.length * size ∧ ∀ j x, xs[j]? = some x → R x ((cs.drop (j * size)).take size)
theorem Elems.nil {α : Type} (R : α → List Value → Prop) (size : Nat) : Elems R size [] [] := ⟨by simp, fun j p h => by simp at h⟩
theorem Elems.imp {α : Type} {R R' : α → List Value → Prop} {size : Nat} {xs : List α} {cs : List Value} (h : Elems R size xs cs) (hR : ∀ x c, R x c → R' x c) : Elems R' size xs cs := ⟨h.1, fun j x hj => hR _ _ (h.2 j x hj)⟩
theorem Elems.app {α : Type} {R : α → List Value → Prop} {size : Nat} {xs ys : List α} {cs ds : List Value} (h : Elems R size xs cs) (k : Elems R size ys ds) : Elems R size (xs ++ ys) (cs ++ ds) := by
  refine ⟨by rw [List.length_append, h.1, k.1, List.length_append, Nat.add_mul], fun j q hq => ?_⟩
  rcases Nat.lt_or_ge j xs.length with hj | hj
  · rw [List.getElem?_append_left hj] at hq
    have h1 : j * size + size ≤ cs.length := by rw [h.1, ← Nat.succ_mul]; exact Nat.mul_le_mul_right _ hj
    rw [List.drop_append_of_le_length (by omega), List.take_append_of_le_length (by rw [List.length_drop]; omega)]
    exact h.2 j q hq
  · rw [List.getElem?_append_right hj] at hq
    have e : j * size = cs.length + (j - xs.length) * size := by rw [h.1, ← Nat.add_mul]; congr 1; omega
    rw [e, ← List.drop_drop, List.drop_left]
    exact k.2 _ q hq
theorem Elems.one {α : Type} {R : α → List Value → Prop} {size : Nat} {y : α} {c : List Value} (h : R y c) (hc : c.length = size) : Elems R size [y] c := by
  refine ⟨by simp [hc], fun j q hq => ?_⟩
  cases j with
  | zero => simp at hq; subst hq; simpa [← hc] using h
  | succ j => simp at hq

/-- v is a slice that the call is building: its items are xs; its row lies in S, what the items say in T, and no item lies in the row. -/
def Build {α : Type} (R : World → (Nat → Prop) → α → List Value → Prop) (e size : Nat) (S T : Nat → Prop) (w : World) (v : Value) (xs : List α) : Prop :=
  ∃ cs, w.ownsRow 0 e size v xs.length cs ∧ (∀ k, v.ownBlock = some k → S k) ∧ Elems (R w fun b => T b ∧ v.ownBlock ≠ some b) size xs cs
section
variable {α : Type} {R : World → (Nat → Prop) → α → List Value → Prop} {e size : Nat} {S T : Nat → Prop} {w : World} {v : Value} {xs : List α}
theorem Build.nil : Build R e size S T w (.slice none 0 0) [] := ⟨[], World.ownsRow_nil w 0 e size, fun k hk => by simp [Value.ownBlock] at hk, Elems.nil _ _⟩
theorem Build.row_lt (h : Build R e size S T w v xs) {k : Nat} (hk : v.ownBlock = some k) : k < w.heap.size := by
  obtain ⟨cs, ho, _⟩ := h
  exact (ho.lt k hk).2
theorem Build.row_in (h : Build R e size S T w v xs) {k : Nat} (hk : v.ownBlock = some k) : S k := by
  obtain ⟨cs, _, hb, _⟩ := h
  exact hb k hk
/-- Rows of items of two types are two rows. -/
theorem Build.row_ne {β : Type} {R' : World → (Nat → Prop) → β → List Value → Prop} {e' size' : Nat} {S' T' : Nat → Prop} {v' : Value} {ys : List β} (h : Build R e size S T w v xs) (h' : Build R' e' size' S' T' w v' ys) (hne : e ≠ e') : v.ownBlock = none ∨ v.ownBlock ≠ v'.ownBlock := by
  obtain ⟨cs, ho, _⟩ := h
  obtain ⟨cs', ho', _⟩ := h'
  rcases ho.2 with ⟨rfl, _⟩ | ⟨g, cap, cur, rfl, _, hh, _⟩
  · exact .inl rfl
  · refine .inr fun hk => ?_
    rcases ho'.2 with ⟨rfl, _⟩ | ⟨g', cap', cur', rfl, _, hh', _⟩
    · simp [Value.ownBlock] at hk
    · have : g = g' := by simpa [Value.ownBlock] using hk
      subst this
      rw [hh] at hh'
      injection hh' with hh'
      injection hh' with _ ht
      exact hne ht
theorem Build.frame (F : Framed R) {w' : World} {S' T' : Nat → Prop} (h : Build R e size S T w v xs) (hs : Same S w w') (ht : Same (fun b => T b ∧ v.ownBlock ≠ some b) w w') (hS : ∀ b, S b → S' b) (hT : ∀ b, T b → T' b) : Build R e size S' T' w' v xs := by
  obtain ⟨cs, ho, hb, he⟩ := h
  refine ⟨cs, ⟨ho.1, ?_⟩, fun k hk => hS k (hb k hk), he.imp fun x c hx => F.frame hx ht fun b h => ⟨hT b h.1, h.2⟩⟩
  rcases ho.2 with h0 | ⟨g, cap, cur, rfl, h1, h2, h3⟩
  · exact .inl h0
  · exact .inr ⟨g, cap, cur, rfl, h1, (hs g (hb g rfl)).trans h2, h3⟩
theorem Build.lt (F : Framed R) (h : Build R e size S T w v xs) : Build R e size (fun b => S b ∧ b < w.heap.size) (fun b => T b ∧ b < w.heap.size) w v xs := by
  have hr := fun k hk => h.row_lt (k := k) hk
  obtain ⟨cs, ho, hb, he⟩ := h
  exact ⟨cs, ho, fun k hk => ⟨hb k hk, hr k hk⟩, he.imp fun x c hx => F.frame (F.lt hx) (fun _ _ => rfl) fun b h => ⟨⟨h.1.1, h.2⟩, h.1.2⟩⟩
theorem Build.ext (F : Framed R) {w' : World} (h : Build R e size S T w v xs) (x : Ext w w') : Build R e size S T w' v xs :=
  (h.lt F).frame F (fun b hb => Below.block x b hb.2) (fun b hb => Below.block x b hb.1.2) (fun _ hb => hb.1) fun _ hb => hb.1
/-- Another row of the call's own is written. -/
theorem Build.other (F : Framed R) {w' : World} {row : Option Nat} (h : Build R e size S T w v xs) (hg : w.grownBy w' row) (hr : v.ownBlock = none ∨ v.ownBlock ≠ row) (hT : ∀ k, row = some k → ¬ T k) : Build R e size S T w' v xs := by
  have h' := h.lt F
  obtain ⟨cs, ho, hb, he⟩ := h'
  refine ⟨cs, ho.kept hg hr, fun k hk => (hb k hk).1, he.imp fun x c hx => F.frame hx (fun b hb => hg.block b hb.1.2 fun hc => hT b hc.symm hb.1.1) fun b h => ⟨h.1.1, h.2⟩⟩
theorem Build.slice (h : Build R e size S T w v xs) : ∃ A c, v = .slice A xs.length c := by
  obtain ⟨cs, ho, _⟩ := h
  rcases ho.2 with ⟨rfl, h0⟩ | ⟨g, cap, cur, rfl, _⟩
  · exact ⟨none, 0, by rw [h0]⟩
  · exact ⟨_, cap, rfl⟩
theorem Build.one (h : Build R e size S T w v xs) : v.oneCell' = true := by
  obtain ⟨A, c, rfl⟩ := h.slice; rfl

/-- The slice as it may be read. -/
theorem Build.done (F : Framed R) (hz : 0 < size) (h : Build R e size S T w v xs) : ∃ A c, v = .slice A xs.length c ∧ xs.length ≤ c ∧ RowOf (R w T) size S w A xs := by
  obtain ⟨cs, ho, hb, he⟩ := h
  have hc := ho
  rcases ho.2 with ⟨rfl, h0⟩ | ⟨g, cap, cur, rfl, _, hg, hn, _⟩
  · obtain rfl := List.eq_nil_of_length_eq_zero h0
    exact ⟨none, 0, rfl, Nat.le_refl _, RowOf.nil⟩
  · refine ⟨_, cap, rfl, hn, fun j x hj => ⟨⟨g, 0, none⟩, _, rfl, hb g rfl, F.frame (he.2 j x hj) (fun _ _ => rfl) fun _ h => h.1, ?_, fun i u hu => ?_⟩⟩
    · have hjl := (List.getElem?_eq_some_iff.1 hj).1
      have h1 : j * size + size ≤ cs.length := by rw [he.1, ← Nat.succ_mul]; exact Nat.mul_le_mul_right _ hjl
      rw [List.length_take, List.length_drop]; omega
    · rw [List.getElem?_take] at hu
      split at hu
      · rw [List.getElem?_drop] at hu
        have := hc.cells (g := g) rfl (j * size + i) u hu
        have ea : ((⟨g, 0, none⟩ : Addr).add (j * size)).add i = (⟨g, 0, none⟩ : Addr).add (j * size + i) := by
          unfold Addr.add
          by_cases h1 : j * size = 0 <;> by_cases h2 : i = 0 <;> simp [h1, h2]
        rwa [ea]
      · cases hu

/-- append(v, ys..): behind it the row is where it was or new. -/
theorem Build.app {P : Program} (F : Framed R) {t ty : TypeId} {z : Value} {bytes : Nat} (ht : P.underlying t = some (.slice e)) (hinfo : (P.info? e).map (fun i => (i.zero, i.size, i.bytes)) = some (some z, size, bytes)) (hzs : z.cells.size = size) (hsz : 0 < size) (hb0 : 0 < bytes)
    (h : Build R e size S T w v xs) {ys : List α} {ds : List Value} {ad : Addr} {c : Nat} (hy : Elems (R w fun b => T b ∧ v.ownBlock ≠ some b) size ys ds) (hc : ∀ j u, ds[j]? = some u → w.cell? (ad.add j) = some u) (h1 : ∀ u ∈ ds, u.oneCell' = true)
    (hS : S w.heap.size) (hn : (xs.length + ys.length) * bytes ≤ 140737488355328) :
    ∃ v' w', (Builtin.append_ #[t, t] ty #[v, .slice (some ad) ys.length c]).run P w = .ok v' w' ∧ Build R e size S T w' v' (xs ++ ys) ∧ w.grownBy w' v.ownBlock ∧ (v'.ownBlock = v.ownBlock ∨ v'.ownBlock = some w.heap.size) ∧ (∃ A c, v' = .slice A (xs.length + ys.length) c) := by
  obtain ⟨i0, hi, hzz⟩ := Option.map_eq_some_iff.1 hinfo
  simp only [Prod.mk.injEq] at hzz
  obtain ⟨hz0, hz1, hz2⟩ := hzz
  have hrl := fun k hk => h.row_lt (k := k) hk
  obtain ⟨cs, ho, hb, he⟩ := h
  have hlen : xs.length + ys.length ≤ 140737488355328 := Nat.le_trans (Nat.le_mul_of_pos_right _ hb0) hn
  obtain ⟨v', w', hr, hown, hg, hnil, hat⟩ := run_append_own_at (P := P) w 0 t ty e i0 z size bytes ht hi hz0 hz1 hz2 hzs hsz v xs.length cs ho ad ys.length c ds hy.1 hc h1 (by simp only [maxLen]; omega) hn (by simp)
  have hsame : Same (fun b => (T b ∧ v.ownBlock ≠ some b) ∧ b < w.heap.size) w w' := fun b hbb => hg.block b hbb.2 (Ne.symm hbb.1.2)
  have himp : ∀ b, (T b ∧ v.ownBlock ≠ some b) ∧ b < w.heap.size → T b ∧ v'.ownBlock ≠ some b := fun b hbb => ⟨hbb.1.1, by
    rcases hat with hat | hat
    · rw [hat]; exact hbb.1.2
    · rw [hat]; intro hc; injection hc with hc; omega⟩
  refine ⟨v', w', hr, ⟨cs ++ ds, by simpa using hown, fun k hk => ?_, ?_⟩, hg, hat, ?_⟩
  · rcases hat with hat | hat
    · exact hb k (by rw [← hat]; exact hk)
    · rw [hat] at hk; injection hk with hk; subst hk; exact hS
  · exact Elems.app (he.imp fun x c hx => F.frame (F.lt hx) hsame himp) (hy.imp fun x c hx => F.frame (F.lt hx) hsame himp)
  · rcases hown.2 with ⟨h0, h1⟩ | ⟨g, cap, cur, rfl, _⟩
    · exact ⟨none, 0, by rw [h0, h1]⟩
    · exact ⟨_, cap, rfl⟩

/-- append(v, y): the new item's cells are ys, in a block of their own. -/
theorem Build.push {P : Program} (F : Framed R) {t ty : TypeId} {z : Value} {bytes : Nat} (ht : P.underlying t = some (.slice e)) (hinfo : (P.info? e).map (fun i => (i.zero, i.size, i.bytes)) = some (some z, size, bytes)) (hzs : z.cells.size = size) (hsz : 0 < size) (hb0 : 0 < bytes)
    (h : Build R e size S T w v xs) {y : α} {ys : List Value} (hy : R w (fun b => T b ∧ v.ownBlock ≠ some b) y ys) (hl : ys.length = size) (h1 : ∀ u ∈ ys, u.oneCell' = true)
    (hS : S (w.heap.size + 1)) (hn : (xs.length + 1) * bytes ≤ 140737488355328) :
    ∃ v' w', (Builtin.append_ #[t, t] ty #[v, .slice (some ⟨w.heap.size, 0, none⟩) 1 1]).run P (w.alloc (.cells ys.toArray e)) = .ok v' w' ∧ Build R e size S T w' v' (xs ++ [y]) ∧ w.grownBy w' v.ownBlock ∧ (v'.ownBlock = v.ownBlock ∨ v'.ownBlock = some (w.heap.size + 1)) ∧ (∃ A c, v' = .slice A (xs.length + 1) c) := by
  have hE : Ext w (w.alloc (.cells ys.toArray e)) := (Ext.refl w).alloc _
  obtain ⟨v', w', hr, hB, hg, hat, hv⟩ := Build.app (P := P) (ty := ty) (w := w.alloc (.cells ys.toArray e)) (ad := ⟨w.heap.size, 0, none⟩) (c := 1) F ht hinfo hzs hsz hb0 (h.ext F hE) (ys := [y]) (Elems.one (F.ext hy hE) hl)
    (by simpa using World.news_of_block (cs := ys.toArray) (t := e) (fr := (0, 0)) (heap_alloc_new w (.cells ys.toArray e))) h1 (by rw [size_alloc]; exact hS) hn
  exact ⟨v', w', hr, hB, World.grownBy.trans (World.grownBy_alloc w (.cells ys.toArray e) v.ownBlock) hg, by rw [size_alloc] at hat; exact hat, hv⟩

/-- A row's cells, item by item. -/
theorem RowOf.cells {R' : α → List Value → Prop} {S' : Nat → Prop} {ad : Addr} {ys : List α} (h : RowOf R' size S' w (some ad) ys) : ∃ ds, Elems R' size ys ds ∧ ∀ j u, ds[j]? = some u → w.cell? (ad.add j) = some u := by
  induction ys using List.reverseRecOn' with
  | nil => exact ⟨[], Elems.nil _ _, fun j u hu => by simp at hu⟩
  | snoc ys y ih =>
    obtain ⟨ds, he, hc⟩ := ih fun j x hj => h j x (by rw [List.getElem?_append_left (List.getElem?_eq_some_iff.1 hj).1]; exact hj)
    obtain ⟨ad', cs, ha, _, hr, hl, hcs⟩ := h ys.length y (by simp)
    cases ha
    refine ⟨ds ++ cs, Elems.app he (Elems.one hr hl), fun j u hu => ?_⟩
    rcases Nat.lt_or_ge j ds.length with hj | hj
    · rw [List.getElem?_append_left hj] at hu; exact hc j u hu
    · rw [List.getElem?_append_right hj] at hu
      have := hcs _ u hu
      have ea : (ad.add (ys.length * size)).add (j - ds.length) = ad.add j := by
        rw [he.1] at hj ⊢
        unfold Addr.add
        by_cases h1 : ys.length * size = 0 <;> by_cases h2 : j - ys.length * size = 0
        · have : j = 0 := by omega
          simp [h1, this]
        · simp [h1, show ¬ j = 0 by omega]
        · have : j = ys.length * size := by omega
          subst this; simp [h1]
        · simp [h1, h2, show ¬ j = 0 by omega, Nat.add_assoc, show ys.length * size + (j - ys.length * size) = j by omega]
      rwa [ea] at this

/-- append(v, ys...), ys a slice that is read, perhaps nil. -/
theorem Build.appRow {P : Program} (F : Framed R) {t ty : TypeId} {z : Value} {bytes : Nat} (ht : P.underlying t = some (.slice e)) (hinfo : (P.info? e).map (fun i => (i.zero, i.size, i.bytes)) = some (some z, size, bytes)) (hzs : z.cells.size = size) (hsz : 0 < size) (hb0 : 0 < bytes)
    (h : Build R e size S T w v xs) {ys : List α} {A : Option Addr} {n c : Nat} {S' : Nat → Prop} (hl : ys.length = n) (hy : RowOf (R w fun b => T b ∧ v.ownBlock ≠ some b) size S' w A ys) (h1 : ∀ y cs, R w (fun b => T b ∧ v.ownBlock ≠ some b) y cs → ∀ u ∈ cs, u.oneCell' = true)
    (hS : S w.heap.size) (hn : (xs.length + n) * bytes ≤ 140737488355328) :
    ∃ v' w', (Builtin.append_ #[t, t] ty #[v, .slice A n c]).run P w = .ok v' w' ∧ Build R e size S T w' v' (xs ++ ys) ∧ w.grownBy w' v.ownBlock ∧ (v'.ownBlock = v.ownBlock ∨ v'.ownBlock = some w.heap.size) ∧ (∃ A c, v' = .slice A (xs.length + n) c) := by
  subst hl
  rcases A with _ | ad
  · have h0 : ys = [] := by
      cases ys with
      | nil => rfl
      | cons y ys =>
        obtain ⟨ad, cs, ha, _⟩ := hy 0 y rfl
        cases ha
    subst h0
    obtain ⟨A', c', hv⟩ := h.slice
    obtain ⟨i0, hi, hzz⟩ := Option.map_eq_some_iff.1 hinfo
    refine ⟨v, w, ?_, by simpa using h, World.grownBy.refl w _, .inl rfl, ⟨A', c', by simpa using hv⟩⟩
    obtain ⟨cs, ho, _⟩ := h
    rcases ho.2 with ⟨rfl, hn⟩ | ⟨g, cap, cur, rfl, _, _, hnc, _⟩
    · simp [Builtin.append_, run_underlying ht, sizeOf, typeInfo, hi, Builtin.lenOf, Builtin.firstCells]
    · simp [Builtin.append_, run_underlying ht, sizeOf, typeInfo, hi, Builtin.lenOf, Builtin.firstCells, hnc, storeCells]
  · obtain ⟨ds, he, hc⟩ := hy.cells
    refine Build.app F ht hinfo hzs hsz hb0 h he hc (fun u hu => ?_) hS hn
    obtain ⟨i, hi, rfl⟩ := List.getElem_of_mem hu
    have hi' : i < ys.length * size := by rw [← he.1]; exact hi
    have hq : i / size < ys.length := (Nat.div_lt_iff_lt_mul hsz).2 hi'
    refine h1 _ _ (he.2 (i / size) ys[i / size] (List.getElem?_eq_getElem hq)) _ (List.mem_of_getElem? (i := i % size) ?_)
    rw [List.getElem?_take, if_pos (Nat.mod_lt _ hsz), List.getElem?_drop]
    have : i / size * size + i % size = i := by rw [Nat.mul_comm]; exact Nat.div_add_mod i size
    rw [this]; exact List.getElem?_eq_getElem hi

/-- make([]T, 0, n). -/
theorem Build.make {P : Program} {t : TypeId} {z : Value} {bytes : Nat} (ht : P.underlying t = some (.slice e)) (hinfo : (P.info? e).map (fun i => (i.zero, i.size, i.bytes)) = some (some z, size, bytes)) (hb0 : 0 < bytes) (w : World) (c : Nat) (hbytes : bytes * c ≤ 281474976710656) (hS : S w.heap.size) :
    ∃ cur, (Instr.makeSlice t (.int .i64 0) (.int .i64 (c : Int))).run P w = .ok (.slice (some ⟨w.heap.size, 0, none⟩) 0 c) (w.alloc (.cells cur e)) ∧ Build R e size S T (w.alloc (.cells cur e)) (.slice (some ⟨w.heap.size, 0, none⟩) 0 c) [] := by
  obtain ⟨i0, hi, hzz⟩ := Option.map_eq_some_iff.1 hinfo
  simp only [Prod.mk.injEq] at hzz
  obtain ⟨hz0, hz1, hz2⟩ := hzz
  subst hz2; subst hz1
  have h63 : c ≤ 281474976710656 := Nat.le_trans (Nat.le_mul_of_pos_left _ hb0) hbytes
  have hb' : (i0.bytes : Int) * (c : Int) ≤ 281474976710656 := by
    have h : ((i0.bytes * c : Nat) : Int) ≤ 281474976710656 := by omega
    rwa [Int.natCast_mul] at h
  have hr := run_make (P := P) w t e i0 z ht hi hz0 .i64 .i64 0 c (Int.le_refl _) (by omega) hb' (by omega)
  simp only [Int.toNat_zero, Int.toNat_natCast] at hr
  refine ⟨_, hr, [], World.ownsRow_made w _ c (Nat.zero_le _) (by simp only [maxLen]; omega) (size_madeCells _ _), fun k hk => ?_, Elems.nil _ _⟩
  simp [Value.ownBlock] at hk; subst hk; exact hS
end

/-- append by its run, at the operation. -/
theorem wpList_append_run {P : Program} {ops : Array Oper} {rest : List Oper} {o : Oper} {a : Act} {Q : Exit → Act → World → Prop} {w w' : World} {s x : Operand} {t : TypeId} {v xv v' : Value}
    (hrun : (Builtin.append_ #[t, t] o.type #[v, xv]).run P w = .ok v' w') (hgd : o.guard = none) (ho : o.op = .call { callee := .builtin .append, args := #[s, x], argTypes := #[t, t] })
    (hs : a.eval s = v) (hx : a.eval x = xv) (h : wpList P ops Q rest (a.put o.dst v') w') : wpList P ops Q (o :: rest) a w := by
  refine wpList_plain hgd fun K hK => ?_
  unfold Oper.wp execOp
  simp only [ho, resolve, invoke, builtin, Sem.run_bind, Sem.run_pure, Result.andThen_ok, List.map_toArray, List.map_cons, List.map_nil, hs, hx, hrun]
  exact hK _ _ h

theorem cell_of {w : World} {b : Nat} {cs : Array Value} {T : TypeId} {fr : Nat × Nat} (h : w.heap[b]? = some (.cells cs T fr)) {i : Nat} {v : Value} (hi : cs[i]? = some v) : w.cell? ⟨b, i, none⟩ = some v := by
  simp [World.cell?, h, hi]
theorem setCell_same (w : World) (b i : Nat) (v : Value) : Same (· ≠ b) w (w.setCell ⟨b, i, none⟩ v) := fun k hk => Below.heap_setCell w ⟨b, i, none⟩ v k hk
theorem Same.trans {S : Nat → Prop} {a b c : World} (h : Same S a b) (k : Same S b c) : Same S a c := fun i hi => (k i hi).trans (h i hi)
/-- A value of six cells is laid into a variable. -/
def six (w : World) (b : Nat) (v0 v1 v2 v3 v4 v5 : Value) : World := (((((w.setCell ⟨b, 0, none⟩ v0).setCell ⟨b, 1, none⟩ v1).setCell ⟨b, 2, none⟩ v2).setCell ⟨b, 3, none⟩ v3).setCell ⟨b, 4, none⟩ v4).setCell ⟨b, 5, none⟩ v5
theorem six_same (w : World) (b : Nat) (v0 v1 v2 v3 v4 v5 : Value) : Same (· ≠ b) w (six w b v0 v1 v2 v3 v4 v5) :=
  (((((setCell_same w b 0 v0).trans (setCell_same _ b 1 v1)).trans (setCell_same _ b 2 v2)).trans (setCell_same _ b 3 v3)).trans (setCell_same _ b 4 v4)).trans (setCell_same _ b 5 v5)
theorem six_ext {a w : World} (h : Ext a w) {b : Nat} (hb : a.heap.size ≤ b) (v0 v1 v2 v3 v4 v5 : Value) : Ext a (six w b v0 v1 v2 v3 v4 v5) :=
  (((((h.setCell hb v0).setCell hb v1).setCell hb v2).setCell hb v3).setCell hb v4).setCell hb v5

theorem setCell_at {w : World} {b i : Nat} {c : Array Value} {T : TypeId} {fr : Nat × Nat} (v : Value) (h : w.heap[b]? = some (.cells c T fr)) : (w.setCell ⟨b, i, none⟩ v).heap[b]? = some (.cells (c.setIfInBounds i v) T fr) := by
  simp [World.setCell, Array.getElem?_modify, h]
theorem six_at {w : World} {b : Nat} {c0 c1 c2 c3 c4 c5 : Value} {T : TypeId} {fr : Nat × Nat} (h : w.heap[b]? = some (.cells #[c0, c1, c2, c3, c4, c5] T fr)) (v0 v1 v2 v3 v4 v5 : Value) : (six w b v0 v1 v2 v3 v4 v5).heap[b]? = some (.cells #[v0, v1, v2, v3, v4, v5] T fr) :=
  setCell_at v5 (setCell_at v4 (setCell_at v3 (setCell_at v2 (setCell_at v1 (setCell_at v0 h)))))
theorem six_size (w : World) (b : Nat) (v0 v1 v2 v3 v4 v5 : Value) : (six w b v0 v1 v2 v3 v4 v5).heap.size = w.heap.size := by simp [six, World.setCell]
theorem RepT.ofRow {w : World} {S : Nat → Prop} {A : Option Addr} {c : Nat} {l : List Tree} (h : RowOf (RT w S) 1 S w A l) (hlen : l.length * 16 ≤ 140737488351232) (hc : l.length ≤ c) : RepT w S (.list l) (.iface 128 (.slice A l.length c)) := by
  have key : ∀ j : Nat, ∃ y, ∀ x, l[j]? = some x → RepT w S x y ∧ ∃ ad, A = some ad ∧ S ad.block ∧ w.cell? (ad.add j) = some y := fun j => by
    cases hj : l[j]? with
    | none => exact ⟨.nilIface, fun x hx => by cases hx⟩
    | some x =>
      obtain ⟨ad, cs, ha, hs, ⟨y, rfl, hy⟩, _, hcc⟩ := h j x hj
      exact ⟨y, fun z hz => by cases hz; exact ⟨hy, ad, ha, hs, by simpa [Addr.add] using hcc 0 y rfl⟩⟩
  exact .list (fun j => Classical.choose (key j)) hlen hc (fun j x hj => (Classical.choose_spec (key j) x hj).1) (fun j x hj => (Classical.choose_spec (key j) x hj).2)
theorem RepT.one {w : World} {S : Nat → Prop} {t : Tree} {x : Value} (h : RepT w S t x) : ∀ u ∈ [x], u.oneCell' = true := by
  rcases h.form with rfl | ⟨T, y, rfl⟩ <;> simp [Value.oneCell']
theorem info_any : (Try.prog.info? 20).map (fun i => (i.zero, i.size, i.bytes)) = some (some .nilIface, 1, 16) := by kernel_rfl
theorem info_str : (Try.prog.info? 9).map (fun i => (i.zero, i.size, i.bytes)) = some (some (.string ⟨#[]⟩), 1, 16) := by kernel_rfl
theorem info_val : (Try.prog.info? 26).map (fun i => (i.zero, i.size, i.bytes)) = some (some (.agg #[.int .i64 0, .int .i64 0, .float .f64 0, .string ⟨#[]⟩, .slice none 0 0, .slice none 0 0]), 6, 88) := by kernel_rfl
end Go.Smd
