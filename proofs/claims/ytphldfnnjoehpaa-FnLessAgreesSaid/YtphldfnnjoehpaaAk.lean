/- impl.Value by value. -/
import Derived.Test.YtphldfnnjoehpaaAi
import Derived.Test.YtphldfnnjoehpaaAh
import Derived.Test.YtphldfnnjoehpaaAj
import Derived.Test.YtphldfnnjoehpaaTy
import Derived.Test.YtphldfnnjoehpaaSpec
set_option linter.unusedSimpArgs false
namespace Go.Smd
open Go.RowKit Go.Proofs

theorem follows_any : Try.prog.follows .mixedOrders = true := by kernel_rfl
abbrev dI (n : Int) : D := .v (.int .i64 n)
abbrev dS (s : ByteArray) : D := .v (.string s)
abbrev dB (b : Bool) : D := .v (.bool b)
abbrev dF (n : Nat) : D := .v (.float .f64 n)
/-- Strings in a row. -/
def rowS (l : List ByteArray) : List (List D) := l.map fun s => [dS s]
abbrev dStrs (l : List ByteArray) : D := .sl 9 (rowS l)
mutual
def gvD : GV → List D
  | .mk kind n f s keys l => [dI kind, dI n, dF f, dS s, dStrs keys, .sl 26 (gvDs l)]
def gvDs : List GV → List (List D)
  | [] => []
  | x :: l => gvD x :: gvDs l
end
theorem gvDs_eq : ∀ l, gvDs l = l.map gvD
  | [] => by simp [gvDs]
  | x :: l => by simp [gvDs, gvDs_eq l]
/-- Cells that hold data. -/
def cls (xs : List D) : List Cl := xs.map .d
abbrev gvA (g : GV) : Av := .agg (cls (gvD g))
abbrev dGVs (l : List GV) : D := .sl 26 (l.map gvD)
theorem gvD_mk (kind n : Int) (f : Nat) (s : ByteArray) (keys : List ByteArray) (l : List GV) : gvD (.mk kind n f s keys l) = [dI kind, dI n, dF f, dS s, dStrs keys, dGVs l] := by
  rw [gvD, gvDs_eq]
@[simp] theorem gvD_length (g : GV) : (gvD g).length = 6 := by cases g; rw [gvD_mk]; rfl
@[simp] theorem gvD_take (g : GV) : (gvD g).take 6 = gvD g := List.take_of_length_le (by simp)
@[simp] theorem cls_cons (x : D) (xs : List D) : cls (x :: xs) = .d x :: cls xs := rfl
@[simp] theorem cls_nil : cls [] = [] := rfl
@[simp] theorem cls_length (xs : List D) : (cls xs).length = xs.length := by simp [cls]
@[simp] theorem cls_take (g : GV) : (cls (gvD g)).take 6 = cls (gvD g) := List.take_of_length_le (by simp)
theorem cls_fold (xs : List D) : List.map Cl.d xs = cls xs := rfl
@[simp] theorem cls_all (xs : List D) : (cls xs).all Cl.isD = true := by simp [cls, Cl.isD]
@[simp] theorem toDs_cls : ∀ xs : List D, toDs (cls xs) = some xs
  | [] => rfl
  | x :: xs => by
    have := toDs_cls xs
    show (toDs (cls xs)).map (x :: ·) = _
    rw [this]; rfl
@[simp] theorem splice_all {α : Type} (xs ys : List α) (h : ys.length = xs.length) : splice xs 0 ys = ys := by simp [splice, h]
@[simp] theorem splice_c0 {α : Type} (x y : α) (xs ys : List α) : splice (x :: xs) 0 (y :: ys) = y :: splice xs 0 ys := by simp [splice]
@[simp] theorem splice_n0 {α : Type} (xs : List α) : splice xs 0 [] = xs := by simp [splice]
@[simp] theorem splice_cs {α : Type} (x : α) (xs ys : List α) (n : Nat) : splice (x :: xs) (n + 1) ys = x :: splice xs n ys := by
  simp only [splice, List.take_succ_cons, List.cons_append]
  rw [show n + 1 + ys.length = (n + ys.length) + 1 by omega, List.drop_succ_cons]
@[simp] theorem ids_cls (xs : List D) : (cls xs).flatMap Cl.ids = [] := by
  induction xs with
  | nil => rfl
  | cons x xs ih => simp only [cls_cons, List.flatMap_cons, ih, Cl.ids, List.append_nil]
@[simp] theorem rowS_at' (l : List ByteArray) (i : Nat) (h : i < (rowS l).length) : (rowS l)[i] = [dS (l[i]'(by simpa [rowS] using h))] := by simp [rowS]
@[simp] theorem rowS_length (l : List ByteArray) : (rowS l).length = l.length := by simp [rowS]
theorem rowS_at {l : List ByteArray} {i : Nat} {s : ByteArray} (h : l[i]? = some s) : (rowS l)[i]? = some [dS s] := by simp [rowS, h]

@[simp] theorem frz_cls (F : List Nat) (h : Nat → Option Ow) (xs : List D) : (cls xs).map (frzC Try.prog F h) = cls xs := by
  induction xs with
  | nil => rfl
  | cons x xs ih => simp only [cls_cons, List.map_cons, ih, frzC, frzN, frzG]
@[simp] theorem deep_cls (h : Nat → Option Ow) (xs : List D) : (cls xs).flatMap (Cl.deep h) = [] := by
  induction xs with
  | nil => rfl
  | cons x xs ih => simp only [cls_cons, List.flatMap_cons, ih, Cl.deep, Cl.deepN, List.append_nil]
@[simp] theorem coL_gv (g : GV) : coL [none, none, none, none, some 9, some 26] (cls (gvD g)) = cls (gvD g) := by cases g; rw [gvD_mk]; rfl
/-- What is known of a value that some memory holds. -/
structure GVk (kind n : Int) (f : Nat) (s : ByteArray) (keys : List ByteArray) (l : List GV) : Prop where
  hkind : -9223372036854775808 ≤ kind ∧ kind ≤ 9223372036854775807
  hn : -9223372036854775808 ≤ n ∧ n ≤ 9223372036854775807
  hf : f < 18446744073709551616
  hs : s.size ≤ 140737488351232
  hkeys : keys.length * 16 ≤ 140737488351232
  hkey : ∀ k ∈ keys, k.size ≤ 140737488351232
  hl : l.length * 88 ≤ 140737488351232
  hitem : ∀ x ∈ l, okA Try.prog (gvA x)
theorem okA_of {xs : List D} (h : ∀ d ∈ xs, okD Try.prog d) (w : World) (S : Nat → Prop) (k : ∃ us, All2 (RepD Try.prog w S) xs us) : okA Try.prog (.agg (cls xs)) := by
  obtain ⟨us, ha⟩ := k
  refine ⟨w, S, .agg us.toArray, us, rfl, ?_⟩
  clear h
  induction ha with
  | nil => exact .nil
  | cons h t ih => exact .cons h ih
theorem okA_pt {xs : List D} (h : okD Try.prog (.pt xs)) : okA Try.prog (.agg (cls xs)) := by
  obtain ⟨w, S, v, h⟩ := h
  obtain ⟨ad, rfl, hr⟩ := RepD.pt_iff.1 h
  refine okA_of (fun d hd => okD_pt ⟨w, S, _, h⟩ d hd) w S ⟨(List.range xs.length).map fun i => (w.cell? (ad.add i)).getD undef, All2.of (by simp) fun i d u hi hu => ?_⟩
  obtain ⟨u', _, hc, hr⟩ := hr i d hi
  rw [List.getElem?_map] at hu
  obtain ⟨i', hi', rfl⟩ := Option.map_eq_some_iff.1 hu
  obtain ⟨hlt, rfl⟩ := List.getElem?_eq_some_iff.1 hi'
  simp only [List.getElem_range, hc, Option.getD_some]; exact hr
theorem okD_row {E : TypeId} {xs : List (List D)} (h : okD Try.prog (.sl E xs)) {r : List D} (hr : r ∈ xs) : okA Try.prog (.agg (cls r)) := by
  obtain ⟨w, S, v, h⟩ := h
  obtain ⟨A, c, rfl, _, hb, hrow⟩ := RepD.sl_iff.1 h
  obtain ⟨j, hj⟩ := List.getElem?_of_mem hr
  by_cases h0 : 0 < Try.prog.cellsOf E
  · obtain ⟨ad, _, hq⟩ := (hrow j r hj).2 h0
    exact okA_pt ⟨w, S, _, RepD.pt_iff.2 ⟨_, rfl, hq⟩⟩
  · have h1 := (hrow j r hj).1
    have : r = [] := List.eq_nil_of_length_eq_zero (by omega)
    subst this
    exact ⟨w, S, .agg #[], [], rfl, .nil⟩
theorem strs_ok {l : List ByteArray} (h : okD Try.prog (dStrs l)) : l.length * 16 ≤ 140737488351232 ∧ ∀ k ∈ l, k.size ≤ 140737488351232 := by
  obtain ⟨h1, h2⟩ := okD_sl h
  simp at h1
  exact ⟨h1, fun k hk => okD_str ((h2 [dS k] (List.mem_map.2 ⟨k, hk, rfl⟩)).2 _ (List.mem_singleton_self _))⟩
theorem gvs_ok {l : List GV} (h : okD Try.prog (dGVs l)) : l.length * 88 ≤ 140737488351232 ∧ ∀ x ∈ l, okA Try.prog (gvA x) := by
  obtain ⟨h1, h2⟩ := okD_sl h
  simp at h1
  exact ⟨h1, fun x hx => okD_row h (List.mem_map.2 ⟨x, hx, rfl⟩)⟩
theorem gv_ok {kind n : Int} {f : Nat} {s : ByteArray} {keys : List ByteArray} {l : List GV} (h : okA Try.prog (gvA (.mk kind n f s keys l))) : GVk kind n f s keys l := by
  have h1 := okA_agg h
  rw [gvD_mk] at h1
  have h2 : ∀ d ∈ [dI kind, dI n, dF f, dS s, dStrs keys, dGVs l], okD Try.prog d := fun d hd => h1 (.d d) (List.mem_map.2 ⟨d, hd, rfl⟩) d rfl
  have a1 := strs_ok (h2 (dStrs keys) (by simp))
  have a2 := gvs_ok (h2 (dGVs l) (by simp))
  refine ⟨okD_i64 (h2 _ (by simp)), okD_i64 (h2 (dI n) (by simp)), ?_, okD_str (h2 (dS s) (by simp)), a1.1, a1.2, a2.1, a2.2⟩
  have := okD_v (h2 (dF f) (by simp))
  simpa [okVb] using this
end Go.Smd
