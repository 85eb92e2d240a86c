/- Data by value, and how it lies in memory. Over any program, but for trees. -/
import Derived.Test.YtphldfnnjoehpaaBuild
set_option linter.unusedSimpArgs false
namespace Go.Smd
open Go.RowKit

/-- What one cell holds, by value: a plain value, a slice (its rows), a pointer (the cells from there on), an interface value, a tree, a library value, a map of trees. -/
inductive D where
  | v (x : Value)
  | sl (E : TypeId) (xs : List (List D))
  | pt (xs : List D)
  | ifc (T : TypeId) (x : D)
  | ifa (T : TypeId) (xs : List D)
  | tr (t : Tree)
  | vv (t : Tree)
  | mp (m : List (ByteArray × Tree))

def okInt : IntKind → Int → Bool
  | .i8, n => decide (-128 ≤ n) && decide (n ≤ 127)
  | .i16, n => decide (-32768 ≤ n) && decide (n ≤ 32767)
  | .i32, n => decide (-2147483648 ≤ n) && decide (n ≤ 2147483647)
  | .i64, n => decide (-9223372036854775808 ≤ n) && decide (n ≤ 9223372036854775807)
  | .u8, n => decide (0 ≤ n) && decide (n ≤ 255)
  | .u16, n => decide (0 ≤ n) && decide (n ≤ 65535)
  | .u32, n => decide (0 ≤ n) && decide (n ≤ 4294967295)
  | .u64, n => decide (0 ≤ n) && decide (n ≤ 18446744073709551615)
theorem okInt_wrap (k : IntKind) (n : Int) : okInt k (k.wrap n) = true := by
  cases k <;> simp [okInt, IntKind.wrap, IntKind.bits, IntKind.signed] <;> (try split) <;> omega
theorem wrap_i64 {n : Int} (h1 : -9223372036854775808 ≤ n) (h2 : n ≤ 9223372036854775807) : IntKind.wrap .i64 n = n := by
  simp [IntKind.wrap, IntKind.bits, IntKind.signed]; split <;> omega
def okVb : Value → Bool
  | .int k n => okInt k n
  | .string s => decide (s.size ≤ 140737488351232)
  | .float .f64 f => decide (f < 18446744073709551616)
  | .float .f32 f => decide (f < 4294967296)
  | .bool _ | .pointer none | .nilFunc | .nilIface | .map none | .slice none 0 0 => true
  | .func (.func _) a b => a.isEmpty && b.isEmpty
  | _ => false

inductive RepD (P : Program) (w : World) (S : Nat → Prop) : D → Value → Prop
  | v {x : Value} (h : okVb x = true) : RepD P w S (.v x) x
  | sl {E : TypeId} {xs : List (List D)} {A : Option Addr} {c : Nat} (U : Nat → Nat → Value) (hb : xs.length * P.bytesOf E ≤ 140737488351232) (hc : xs.length ≤ c)
      (hk : ∀ (j : Nat) (x : List D), xs[j]? = some x → x.length = P.cellsOf E)
      (hr : ∀ (j : Nat) (x : List D) (i : Nat) (d : D), xs[j]? = some x → x[i]? = some d → RepD P w S d (U j i))
      (hm : ∀ (j : Nat) (x : List D) (i : Nat) (d : D), xs[j]? = some x → x[i]? = some d → ∃ ad, A = some ad ∧ S ad.block ∧ w.cell? ((ad.add (j * P.cellsOf E)).add i) = some (U j i)) :
      RepD P w S (.sl E xs) (.slice A xs.length c)
  | pt {xs : List D} {a : Addr} (U : Nat → Value) (hr : ∀ (i : Nat) (d : D), xs[i]? = some d → RepD P w S d (U i))
      (hm : ∀ (i : Nat) (d : D), xs[i]? = some d → S a.block ∧ w.cell? (a.add i) = some (U i)) : RepD P w S (.pt xs) (.pointer (some a))
  | ifc {T : TypeId} {x : D} {u : Value} (h : RepD P w S x u) : RepD P w S (.ifc T x) (.iface T u)
  | ifa {T : TypeId} {xs : List D} {us : List Value} (hl : us.length = xs.length) (h : ∀ (i : Nat) (d : D) (u : Value), xs[i]? = some d → us[i]? = some u → RepD P w S d u) : RepD P w S (.ifa T xs) (.iface T (.agg us.toArray))
  | tr {t : Tree} {x : Value} (h : RepT w S t x) : RepD P w S (.tr t) x
  | vv {t : Tree} {x : Value} (h : RepV w S t x) : RepD P w S (.vv t) x
  | mp {m : List (ByteArray × Tree)} {x : Value} (h : RepT w S (.map m) (.iface 154 x)) : RepD P w S (.mp m) x

section
variable {P : Program}
theorem RepD.frame {w w' : World} {S : Nat → Prop} {d : D} {x : Value} (h : RepD P w S d x) : ∀ {S' : Nat → Prop}, Same S w w' → (∀ b, S b → S' b) → RepD P w' S' d x := by
  induction h with
  | v h => exact fun _ _ => .v h
  | sl U hb hc hk hr hm ih =>
    intro S' e hS
    exact .sl U hb hc hk (fun j x i d hj hi => ih j x i d hj hi e hS) fun j x i d hj hi => by
      obtain ⟨ad, ha, hs, hcs⟩ := hm j x i d hj hi
      exact ⟨ad, ha, hS _ hs, e.cell (by rw [add_block, add_block]; exact hs) hcs⟩
  | pt U hr hm ih =>
    intro S' e hS
    exact .pt U (fun i d hi => ih i d hi e hS) fun i d hi => ⟨hS _ (hm i d hi).1, e.cell (by rw [add_block]; exact (hm i d hi).1) (hm i d hi).2⟩
  | ifc h ih => exact fun e hS => .ifc (ih e hS)
  | ifa hl h ih => exact fun e hS => .ifa hl fun i d u hi hu => ih i d u hi hu e hS
  | tr h => exact fun e hS => .tr (h.frame e hS)
  | vv h => exact fun e hS => .vv (h.frame e hS)
  | mp h => exact fun e hS => .mp (h.frame e hS)
theorem RepD.mono {w : World} {S S' : Nat → Prop} {d : D} {x : Value} (h : RepD P w S d x) (hS : ∀ b, S b → S' b) : RepD P w S' d x := h.frame (fun _ _ => rfl) hS
theorem RepV.lt {w : World} {S : Nat → Prop} {t : Tree} {v : Value} (h : RepV w S t v) : RepV w (fun b => S b ∧ b < w.heap.size) t v := by
  obtain ⟨a, x, rfl, hs, hc, hx⟩ := h
  exact ⟨a, x, rfl, ⟨hs, cell_lt hc⟩, hc, hx.lt⟩
theorem RepD.lt {w : World} {S : Nat → Prop} {d : D} {x : Value} (h : RepD P w S d x) : RepD P w (fun b => S b ∧ b < w.heap.size) d x := by
  induction h with
  | v h => exact .v h
  | sl U hb hc hk hr hm ih =>
    exact .sl U hb hc hk ih fun j x i d hj hi => by
      obtain ⟨ad, ha, hs, hcs⟩ := hm j x i d hj hi
      have := cell_lt hcs
      rw [add_block, add_block] at this
      exact ⟨ad, ha, ⟨hs, this⟩, hcs⟩
  | pt U hr hm ih =>
    exact .pt U ih fun i d hi => by
      have := cell_lt (hm i d hi).2
      rw [add_block] at this
      exact ⟨⟨(hm i d hi).1, this⟩, (hm i d hi).2⟩
  | ifc h ih => exact .ifc ih
  | ifa hl h ih => exact .ifa hl ih
  | tr h => exact .tr h.lt
  | vv h => exact .vv h.lt
  | mp h => exact .mp h.lt
theorem RepD.ext {w w' : World} {S : Nat → Prop} {d : D} {x : Value} (h : RepD P w S d x) (e : Ext w w') : RepD P w' S d x :=
  (h.lt.frame (fun b hb => e.block b hb.2) fun _ h => h).mono fun _ h => h.1
theorem okVb_one {x : Value} (h : okVb x = true) : x.oneCell' = true := by cases x <;> first | rfl | simp [okVb] at h
theorem RepD.one {w : World} {S : Nat → Prop} {d : D} {x : Value} (h : RepD P w S d x) : x.oneCell' = true := by
  cases h with
  | v h => exact okVb_one h
  | tr h => exact h.one _ (by simp)
  | vv h => obtain ⟨a, x, rfl, _⟩ := h; rfl
  | mp h => cases h; rfl
  | _ => rfl

/-- A row of cells from address a on. -/
def RepRow (P : Program) (w : World) (S : Nat → Prop) (xs : List D) (a : Addr) : Prop := ∀ (i : Nat) (d : D), xs[i]? = some d → ∃ u, S a.block ∧ w.cell? (a.add i) = some u ∧ RepD P w S d u
theorem RepD.pt_iff {w : World} {S : Nat → Prop} {xs : List D} {x : Value} : RepD P w S (.pt xs) x ↔ ∃ a, x = .pointer (some a) ∧ RepRow P w S xs a := by
  constructor
  · intro h
    cases h with
    | pt U hr hm => exact ⟨_, rfl, fun i d hi => ⟨_, (hm i d hi).1, (hm i d hi).2, hr i d hi⟩⟩
  · rintro ⟨a, rfl, h⟩
    have key : ∀ i : Nat, ∃ u, ∀ d : D, xs[i]? = some d → S a.block ∧ w.cell? (a.add i) = some u ∧ RepD P w S d u := fun i => by
      cases hi : xs[i]? with
      | none => exact ⟨.bool false, fun d hd => by cases hd⟩
      | some d => obtain ⟨u, hu⟩ := h i d hi; exact ⟨u, fun d' hd' => by cases hd'; exact hu⟩
    exact .pt (fun i => Classical.choose (key i)) (fun i d hi => (Classical.choose_spec (key i) d hi).2.2) fun i d hi => ⟨(Classical.choose_spec (key i) d hi).1, (Classical.choose_spec (key i) d hi).2.1⟩
theorem RepRow.drop {w : World} {S : Nat → Prop} {xs : List D} {a : Addr} (h : RepRow P w S xs a) (n : Nat) : RepRow P w S (xs.drop n) (a.add n) := fun i d hi => by
  rw [List.getElem?_drop] at hi
  obtain ⟨u, hs, hc, hr⟩ := h _ d hi
  exact ⟨u, by rw [add_block]; exact hs, by rw [add_add]; exact hc, hr⟩
/-- A slice: its rows. -/
theorem RepD.sl_iff {w : World} {S : Nat → Prop} {E : TypeId} {xs : List (List D)} {x : Value} : RepD P w S (.sl E xs) x ↔ ∃ A c, x = .slice A xs.length c ∧ xs.length ≤ c ∧ xs.length * P.bytesOf E ≤ 140737488351232 ∧
    ∀ (j : Nat) (r : List D), xs[j]? = some r → r.length = P.cellsOf E ∧ (0 < P.cellsOf E → ∃ ad, A = some ad ∧ RepRow P w S r (ad.add (j * P.cellsOf E))) := by
  constructor
  · intro h
    cases h with
    | sl U hb hc hk hr hm =>
      refine ⟨_, _, rfl, hc, hb, fun j r hj => ⟨hk j r hj, fun hp => ?_⟩⟩
      have hl := hk j r hj
      obtain ⟨ad, ha, _, _⟩ := hm j r 0 _ hj (List.getElem?_eq_getElem (by omega))
      refine ⟨ad, ha, fun i d hi => ?_⟩
      obtain ⟨ad', ha', hs, hc⟩ := hm j r i d hj hi
      rw [ha] at ha'; cases ha'
      exact ⟨_, by rw [add_block]; exact hs, hc, hr j r i d hj hi⟩
  · rintro ⟨A, c, rfl, hc, hb, h⟩
    have key : ∀ j i : Nat, ∃ u, ∀ (r : List D) (d : D), xs[j]? = some r → r[i]? = some d → ∃ ad, A = some ad ∧ S ad.block ∧ w.cell? ((ad.add (j * P.cellsOf E)).add i) = some u ∧ RepD P w S d u := fun j i => by
      cases hj : xs[j]? with
      | none => exact ⟨.bool false, fun r d hd => by cases hd⟩
      | some r =>
        cases hi : r[i]? with
        | none => exact ⟨.bool false, fun r' d hd hd' => by cases hd; rw [hi] at hd'; cases hd'⟩
        | some d =>
          have hl := (h j r hj).1
          obtain ⟨ad, ha, hrow⟩ := (h j r hj).2 (by have := (List.getElem?_eq_some_iff.1 hi).1; omega)
          obtain ⟨u, hs, hc, hr⟩ := hrow i d hi
          rw [add_block] at hs
          exact ⟨u, fun r' d' hd hd' => by cases hd; rw [hi] at hd'; cases hd'; exact ⟨ad, ha, hs, hc, hr⟩⟩
    refine .sl (fun j i => Classical.choose (key j i)) hb hc (fun j r hj => (h j r hj).1) (fun j r i d hj hi => ?_) fun j r i d hj hi => ?_
    · obtain ⟨_, _, _, _, hr⟩ := Classical.choose_spec (key j i) r d hj hi; exact hr
    · obtain ⟨ad, ha, hs, hc, _⟩ := Classical.choose_spec (key j i) r d hj hi; exact ⟨ad, ha, hs, hc⟩
theorem RepD.nil {w : World} {S : Nat → Prop} (E : TypeId) : RepD P w S (.sl E []) (.slice none 0 0) := RepD.sl_iff.2 ⟨none, 0, rfl, Nat.le_refl _, by simp, fun j r h => by simp at h⟩

/-- A tree as an interface value. -/
def trD : Tree → D
  | .nil => .v .nilIface
  | .bool b => .ifc 4 (.v (.bool b))
  | .int n => .ifc 2 (.v (.int .i64 n))
  | .float f => .ifc 22 (.v (.float .f64 f))
  | .str s => .ifc 9 (.v (.string s))
  | .list l => .ifc 128 (.sl 20 (l.map fun t => [.tr t]))
  | .map m => .ifc 154 (.mp m)
theorem trD_iff {w : World} {S : Nat → Prop} {t : Tree} {v : Value} (h1 : P.cellsOf 20 = 1) (h2 : P.bytesOf 20 = 16) : RepD P w S (.tr t) v ↔ RepD P w S (trD t) v := by
  constructor
  · intro h
    cases h with
    | tr h =>
      cases h with
      | nil => exact .v rfl
      | bool b => exact .ifc (.v rfl)
      | int h => exact .ifc (.v (by simpa [okVb, okInt] using h))
      | float h => exact .ifc (.v (by simpa [okVb] using h))
      | str h => exact .ifc (.v (by simpa [okVb] using h))
      | @list _ l A c U hlen hcap hl hc =>
        refine .ifc (RepD.sl_iff.2 ⟨A, c, by simp, by simpa using hcap, by simpa [h2] using hlen, fun j r hj => ?_⟩)
        rw [List.getElem?_map] at hj
        obtain ⟨x, hx, rfl⟩ := Option.map_eq_some_iff.1 hj
        obtain ⟨ad, ha, hs, hcs⟩ := hc j x hx
        refine ⟨by simp [h1], fun _ => ⟨ad, ha, fun i d hi => ?_⟩⟩
        match i, hi with
        | 0, hi =>
          simp at hi; subst hi
          exact ⟨U j, by rw [add_block]; exact hs, by simpa [h1, add_add] using hcs, .tr (hl j x hx)⟩
      | map hS hr hm hk hs hb hbc hv => exact .ifc (.mp (.map hS hr hm hk hs hb hbc hv))
  · intro h
    cases t with
    | nil => cases h; exact .tr .nil
    | bool b => cases h with | ifc h => cases h; exact .tr (.bool b)
    | int n => cases h with | ifc h => cases h with | v h => exact .tr (.int (by simpa [okVb, okInt] using h))
    | float n => cases h with | ifc h => cases h with | v h => exact .tr (.float (by simpa [okVb] using h))
    | str s => cases h with | ifc h => cases h with | v h => exact .tr (.str (by simpa [okVb] using h))
    | list l =>
      cases h with
      | ifc h =>
        obtain ⟨A, c, rfl, hc, hb, hr⟩ := RepD.sl_iff.1 h
        simp only [List.length_map, h2] at hc hb ⊢
        have key : ∀ j : Nat, ∃ u, ∀ x, l[j]? = some x → RepT w S x u ∧ ∃ ad, A = some ad ∧ S ad.block ∧ w.cell? (ad.add j) = some u := fun j => by
          cases hj : l[j]? with
          | none => exact ⟨.bool false, fun x h => by cases h⟩
          | some t =>
            obtain ⟨_, hq⟩ := hr j [.tr t] (by simp [hj])
            obtain ⟨ad, ha, hrow⟩ := hq (by omega)
            obtain ⟨u, hs, hcs, hd⟩ := hrow 0 (.tr t) rfl
            refine ⟨u, fun x hx => ?_⟩
            cases hx
            cases hd with
            | tr hd => rw [add_block] at hs; exact ⟨hd, ad, ha, hs, by simpa [h1, add_add] using hcs⟩
        refine .tr (.list (fun j => Classical.choose (key j)) hb hc (fun j x hj => (Classical.choose_spec (key j) x hj).1) fun j x hj => (Classical.choose_spec (key j) x hj).2)
    | map m => cases h with | ifc h => cases h with | mp h => cases h with | map hS hr hm hk hs hb hbc hv => exact .tr (.map hS hr hm hk hs hb hbc hv)
theorem vv_iff {w : World} {S : Nat → Prop} {t : Tree} {v : Value} : RepD P w S (.vv t) v → RepD P w S (.ifc 193 (.pt [.tr t])) v := fun h => by
  cases h with
  | vv h =>
    obtain ⟨a, x, rfl, hs, hc, hx⟩ := h
    refine .ifc (RepD.pt_iff.2 ⟨_, rfl, fun i d hi => ?_⟩)
    match i, hi with
    | 0, hi => simp at hi; subst hi; exact ⟨x, hs, by simpa [Addr.add] using hc, .tr hx⟩
theorem vv_of {w : World} {S : Nat → Prop} {t : Tree} {v : Value} (hz : ∀ ad, v = .iface 193 (.pointer (some ad)) → ad = ⟨ad.block, 0, none⟩) : RepD P w S (.ifc 193 (.pt [.tr t])) v → RepD P w S (.vv t) v := fun h => by
  cases h with
  | ifc h =>
    obtain ⟨ad, rfl, hr⟩ := RepD.pt_iff.1 h
    obtain ⟨u, hs, hc, hd⟩ := hr 0 (.tr t) rfl
    cases hd with
    | tr hd =>
      have := hz ad rfl
      rw [this] at hs hc ⊢
      exact .vv ⟨ad.block, u, rfl, by simpa [add_block] using hs, by simpa [Addr.add] using hc, hd⟩

/-- Two lists, item by item. -/
inductive All2 {α β : Type} (R : α → β → Prop) : List α → List β → Prop
  | nil : All2 R [] []
  | cons {x y xs ys} (h : R x y) (t : All2 R xs ys) : All2 R (x :: xs) (y :: ys)
theorem All2.length {α β : Type} {R : α → β → Prop} {xs : List α} {ys : List β} (h : All2 R xs ys) : xs.length = ys.length := by induction h <;> simp_all
theorem All2.imp {α β : Type} {R R' : α → β → Prop} {xs : List α} {ys : List β} (h : All2 R xs ys) (hR : ∀ (x : α) (y : β), x ∈ xs → R x y → R' x y) : All2 R' xs ys := by
  induction h with
  | nil => exact .nil
  | cons h t ih => exact .cons (hR _ _ (List.mem_cons_self ..) h) (ih fun x y hx => hR x y (List.mem_cons_of_mem _ hx))
theorem All2.at {α β : Type} {R : α → β → Prop} {xs : List α} {ys : List β} (h : All2 R xs ys) : ∀ {i : Nat} {x : α}, xs[i]? = some x → ∃ y, ys[i]? = some y ∧ R x y := by
  induction h with
  | nil => intro i x hx; simp at hx
  | cons h t ih =>
    intro i x hx
    cases i with
    | zero => simp at hx; subst hx; exact ⟨_, rfl, h⟩
    | succ i => simp at hx; simpa using ih hx
theorem All2.at' {α β : Type} {R : α → β → Prop} {xs : List α} {ys : List β} (h : All2 R xs ys) : ∀ {i : Nat} {y : β}, ys[i]? = some y → ∃ x, xs[i]? = some x ∧ R x y := by
  induction h with
  | nil => intro i x hx; simp at hx
  | cons h t ih =>
    intro i x hx
    cases i with
    | zero => simp at hx; subst hx; exact ⟨_, rfl, h⟩
    | succ i => simp at hx; simpa using ih hx
theorem All2.of {α β : Type} {R : α → β → Prop} : ∀ {xs : List α} {ys : List β}, xs.length = ys.length → (∀ (i : Nat) (x : α) (y : β), xs[i]? = some x → ys[i]? = some y → R x y) → All2 R xs ys
  | [], [], _, _ => .nil
  | x :: xs, y :: ys, hl, h => .cons (h 0 x y rfl rfl) (All2.of (by simpa using hl) fun i a b ha hb => h (i + 1) a b (by simpa using ha) (by simpa using hb))
  | [], _ :: _, hl, _ => by simp at hl
  | _ :: _, [], hl, _ => by simp at hl
theorem All2.append {α β : Type} {R : α → β → Prop} {xs xs' : List α} {ys ys' : List β} (h : All2 R xs ys) (k : All2 R xs' ys') : All2 R (xs ++ xs') (ys ++ ys') := by
  induction h with
  | nil => exact k
  | cons h t ih => exact .cons h ih
theorem All2.drop {α β : Type} {R : α → β → Prop} {xs : List α} {ys : List β} (h : All2 R xs ys) (n : Nat) : All2 R (xs.drop n) (ys.drop n) := by
  induction h generalizing n with
  | nil => simp; exact .nil
  | cons h t ih => cases n with
    | zero => exact .cons h t
    | succ n => simpa using ih n
theorem All2.take {α β : Type} {R : α → β → Prop} {xs : List α} {ys : List β} (h : All2 R xs ys) (n : Nat) : All2 R (xs.take n) (ys.take n) := by
  induction h generalizing n with
  | nil => simp; exact .nil
  | cons h t ih => cases n with
    | zero => exact .nil
    | succ n => exact .cons h (ih n)
theorem All2.set {α β : Type} {R : α → β → Prop} {xs : List α} {ys : List β} (h : All2 R xs ys) {n : Nat} {x : α} {y : β} (hxy : R x y) : All2 R (xs.set n x) (ys.set n y) := by
  induction h generalizing n with
  | nil => simp; exact .nil
  | cons h t ih => cases n with
    | zero => exact .cons hxy t
    | succ n => exact .cons h ih
theorem All2.inv {α β : Type} {R : α → β → Prop} {x : α} {xs : List α} {ys : List β} (h : All2 R (x :: xs) ys) : ∃ y ys', ys = y :: ys' ∧ R x y ∧ All2 R xs ys' := by
  cases h with | cons h t => exact ⟨_, _, rfl, h, t⟩
theorem All2.inv0 {α β : Type} {R : α → β → Prop} {ys : List β} (h : All2 R ([] : List α) ys) : ys = [] := by cases h; rfl
theorem All2.mem {α β : Type} {R : α → β → Prop} {xs : List α} {ys : List β} (h : All2 R xs ys) : ∀ y ∈ ys, ∃ x ∈ xs, R x y := by
  induction h with
  | nil => simp
  | cons h t ih =>
    intro y hy
    rcases List.mem_cons.1 hy with rfl | hy
    · exact ⟨_, List.mem_cons_self .., h⟩
    · obtain ⟨x, hx, hr⟩ := ih y hy; exact ⟨x, List.mem_cons_of_mem _ hx, hr⟩
end
end Go.Smd
