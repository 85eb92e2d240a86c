/- Part 28 of the proof: Ov Or Op Eu. -/
import Derived.Test.YtannholebjdckaaGreatQZ24
import Derived.Test.YtannholebjdckaaGreatQZ27
import Derived.Test.YtannholebjdckaaGreatQZ25
set_option linter.unusedVariables false
section
set_option linter.unusedSimpArgs false
set_option maxRecDepth 100000
set_option maxHeartbeats 8000000
namespace Go.Smd
open Go.RowKit Go.Proofs
theorem orderlyValues_v (l : List GV) (hl : l.length * 88 ≤ 140737488351232) : ACalls Tryz.prog 60 [.c (.d (dGVs l))] (fun r => r = aV (.bool (l.all orderly))) := by
  refine acalls_ex [] Tryz.func60 (by kernel_rfl) rfl Tryz.ntmps60 Tryz.results60 (Nat.le_of_ble_eq_true (by kernel_rfl)) ?_; intro hok w0 S0
  clear hok
  have b1 : l.length ≤ 9223372036854775807 := by omega
  (repeat' (first | (with_reducible refine br_d (fun _ => ?_) (fun _ => ?_)) | (with_reducible refine br_i (fun _ => ?_) (fun _ => ?_)) | (with_reducible refine dn_i follows_any (by kernel_rfl) ?_) | (with_reducible exact done_eq rfl) | (simp -dsimp [b1]))); (all_goals try with_reducible refine done_eq ?_)
  refine ex_loop (fun i : Nat => ⟨[(5, .c (.d (dGVs l))), (6, aI l.length), (7, aI i)], []⟩) (fun i => i ≤ l.length ∧ (l.take i).all orderly = true) (fun i => l.length - i) 0 ?_ ⟨Nat.zero_le _, rfl⟩ ?_
  · exact Weak.same (by simp -dsimp) (by simp -dsimp) (by first | rfl | (simp [closedSt, Av.ids, Ow.ids, Cl.ids, Go.Smd.keys]; done))
  · rintro i ⟨hi, hall⟩ K hK
    by_cases hlt : i < l.length
    · have hw : IntKind.wrap .i64 ((i : Int) + 1) = ((i + 1 : Nat) : Int) := by rw [wrap_i64] <;> omega
      have ho := orderly_a l[i]
      by_cases hz : orderly l[i] = true
      · rw [hz] at ho
        (repeat' (first | (with_reducible refine br_d (fun _ => ?_) (fun _ => ?_)) | (with_reducible refine br_i (fun _ => ?_) (fun _ => ?_)) | (with_reducible refine nd_v (ho) (by first | rfl | (simp -dsimp [b1, hlt, hw]; done)) ?_) | (with_reducible refine nw_v (ho) rfl (by first | rfl | (simp -dsimp [b1, hlt, hw]; done)) (by first | rfl | (simp -dsimp [b1, hlt, hw]; done)) ?_) | (with_reducible refine dn_i follows_any (by kernel_rfl) ?_) | (with_reducible exact done_eq rfl) | (simp -dsimp [b1, hlt, hw]))); (all_goals try with_reducible refine done_eq ?_)
        refine hK _ (i + 1) ?_ ⟨by omega, by rw [List.take_succ_eq_append_getElem hlt, List.all_append, hall]; simp [hz]⟩ (by omega)
        exact Weak.same (by simp -dsimp) (by simp -dsimp) (by first | rfl | (simp [closedSt, Av.ids, Ow.ids, Cl.ids, Go.Smd.keys]; done))
      · have hz : orderly l[i] = false := by simpa using hz
        rw [hz] at ho
        (repeat' (first | (with_reducible refine br_d (fun _ => ?_) (fun _ => ?_)) | (with_reducible refine br_i (fun _ => ?_) (fun _ => ?_)) | (with_reducible refine nd_v (ho) (by first | rfl | (simp -dsimp [b1, hlt, hw]; done)) ?_) | (with_reducible refine nw_v (ho) rfl (by first | rfl | (simp -dsimp [b1, hlt, hw]; done)) (by first | rfl | (simp -dsimp [b1, hlt, hw]; done)) ?_) | (with_reducible refine dn_i follows_any (by kernel_rfl) ?_) | (with_reducible exact done_eq rfl) | (simp -dsimp [b1, hlt, hw]))); (all_goals try with_reducible refine done_eq ?_)
        have : l.all orderly = false := by
          rw [Bool.eq_false_iff]
          intro h
          have := List.all_eq_true.1 h _ (List.getElem_mem hlt)
          rw [hz] at this; cases this
        rw [this]
    · have e : l.take i = l := List.take_of_length_le (by omega)
      rw [e] at hall
      rw [hall]
      (repeat' (first | (with_reducible refine br_d (fun _ => ?_) (fun _ => ?_)) | (with_reducible refine br_i (fun _ => ?_) (fun _ => ?_)) | (with_reducible refine dn_i follows_any (by kernel_rfl) ?_) | (with_reducible exact done_eq rfl) | (simp -dsimp [hlt]))); (all_goals try with_reducible refine done_eq ?_)
end Go.Smd
end
section
set_option linter.unusedSimpArgs false
set_option maxRecDepth 100000
namespace Go.Smd
open Go.RowKit Go.Proofs
structure Ord3 {α : Type} (O : α → Prop) (c : α → α → Int) : Prop where
  anti : ∀ x y, O x → O y → c y x = - c x y
  trans : ∀ x y z, O x → O y → O z → c x y ≤ 0 → c y z ≤ 0 → c x z ≤ 0
section
variable {α : Type} {O : α → Prop} {c d : α → α → Int}
theorem Ord3.refl (h : Ord3 O c) {x : α} (hx : O x) : c x x = 0 := by have := h.anti x x hx hx; omega
theorem Ord3.lt_le (h : Ord3 O c) {x y z : α} (hx : O x) (hy : O y) (hz : O z) (h1 : c x y < 0) (h2 : c y z ≤ 0) : c x z < 0 := by
  apply Classical.byContradiction
  intro hn
  have h3 := h.anti x z hx hz
  have h4 := h.trans y z x hy hz hx h2 (by omega)
  have h5 := h.anti x y hx hy
  omega
theorem Ord3.le_lt (h : Ord3 O c) {x y z : α} (hx : O x) (hy : O y) (hz : O z) (h1 : c x y ≤ 0) (h2 : c y z < 0) : c x z < 0 := by
  apply Classical.byContradiction
  intro hn
  have h3 := h.anti x z hx hz
  have h4 := h.trans z x y hz hx hy (by omega) h1
  have h5 := h.anti y z hy hz
  omega
theorem Ord3.eq_trans (h : Ord3 O c) {x y z : α} (hx : O x) (hy : O y) (hz : O z) (h1 : c x y = 0) (h2 : c y z = 0) : c x z = 0 := by
  have h3 := h.trans x y z hx hy hz (by omega) (by omega)
  have a1 := h.anti x y hx hy
  have a2 := h.anti y z hy hz
  have h4 := h.trans z y x hz hy hx (by omega) (by omega)
  have a3 := h.anti x z hx hz
  omega
theorem Ord3.mono {O' : α → Prop} (h : Ord3 O c) (k : ∀ x, O' x → O x) : Ord3 O' c := ⟨fun x y hx hy => h.anti x y (k x hx) (k y hy), fun x y z hx hy hz => h.trans x y z (k x hx) (k y hy) (k z hz)⟩
theorem Ord3.congr (h : Ord3 O c) (k : ∀ x y, O x → O y → d x y = c x y) : Ord3 O d :=
  ⟨fun x y hx hy => by rw [k x y hx hy, k y x hy hx]; exact h.anti x y hx hy, fun x y z hx hy hz => by rw [k x y hx hy, k y z hy hz, k x z hx hz]; exact h.trans x y z hx hy hz⟩
theorem Ord3.comap {β : Type} (h : Ord3 O c) (f : β → α) : Ord3 (fun x => O (f x)) (fun x y => c (f x) (f y)) := ⟨fun x y hx hy => h.anti _ _ hx hy, fun x y z hx hy hz => h.trans _ _ _ hx hy hz⟩
theorem Ord3.lex (h : Ord3 O c) (ha : ∀ x y, O x → O y → c x y = 0 → d y x = - d x y) (ht : ∀ x y z, O x → O y → O z → c x y = 0 → c y z = 0 → d x y ≤ 0 → d y z ≤ 0 → d x z ≤ 0) : Ord3 O (fun x y => if c x y ≠ 0 then c x y else d x y) := by
  refine ⟨fun x y hx hy => ?_, fun x y z hx hy hz h1 h2 => ?_⟩
  · have a := h.anti x y hx hy
    by_cases e : c x y = 0
    · rw [if_neg (by omega), if_neg (by omega)]; exact ha x y hx hy e
    · rw [if_pos (by omega), if_pos e]; exact a
  · try dsimp only at h1 h2 ⊢
    by_cases e1 : c x y = 0
    · rw [if_neg (by omega)] at h1
      by_cases e2 : c y z = 0
      · rw [if_neg (by omega)] at h2
        have e3 := h.eq_trans hx hy hz e1 e2
        rw [if_neg (by omega)]
        exact ht x y z hx hy hz e1 e2 h1 h2
      · rw [if_pos e2] at h2
        have := h.le_lt hx hy hz (by omega) (show c y z < 0 by omega)
        rw [if_pos (by omega)]; omega
    · rw [if_pos e1] at h1
      have h2' : c y z ≤ 0 := by
        by_cases e2 : c y z = 0
        · omega
        · rw [if_pos e2] at h2; exact h2
      have := h.lt_le hx hy hz (show c x y < 0 by omega) h2'
      rw [if_pos (by omega)]; omega
theorem Ord3.row (h : Ord3 O c) : Ord3 (fun l : List α => ∀ x ∈ l, O x) (cmpRow c) := by
  have anti : ∀ l m : List α, (∀ x ∈ l, O x) → (∀ x ∈ m, O x) → cmpRow c m l = - cmpRow c l m := by
    intro l
    induction l with
    | nil => intro m _ _; cases m <;> simp [cmpRow]
    | cons x l ih =>
      intro m hl hm
      cases m with
      | nil => simp [cmpRow]
      | cons y m =>
        have a := h.anti x y (hl x (List.mem_cons_self ..)) (hm y (List.mem_cons_self ..))
        have i := ih m (fun a ha => hl a (List.mem_cons_of_mem _ ha)) fun a ha => hm a (List.mem_cons_of_mem _ ha)
        simp only [cmpRow]
        by_cases e : c x y = 0
        · rw [if_neg (by omega), if_neg (by omega)]; exact i
        · rw [if_pos (by omega), if_pos e]; exact a
  refine ⟨anti, fun l => ?_⟩
  induction l with
  | nil => intro m n _ _ _ _ h2; cases n <;> simp [cmpRow]
  | cons x l ih =>
    intro m n hl hm hn h1 h2
    cases m with
    | nil => simp [cmpRow] at h1
    | cons y m => cases n with
      | nil => simp [cmpRow] at h2
      | cons z n =>
        have hx := hl x (List.mem_cons_self ..)
        have hy := hm y (List.mem_cons_self ..)
        have hz := hn z (List.mem_cons_self ..)
        have i := ih m n (fun a ha => hl a (List.mem_cons_of_mem _ ha)) (fun a ha => hm a (List.mem_cons_of_mem _ ha)) (fun a ha => hn a (List.mem_cons_of_mem _ ha))
        simp only [cmpRow] at h1 h2 ⊢
        by_cases e1 : c x y = 0
        · rw [if_neg (by omega)] at h1
          by_cases e2 : c y z = 0
          · rw [if_neg (by omega)] at h2
            have e3 := h.eq_trans hx hy hz e1 e2
            rw [if_neg (by omega)]
            exact i h1 h2
          · rw [if_pos e2] at h2
            have := h.le_lt hx hy hz (by omega) (show c y z < 0 by omega)
            rw [if_pos (by omega)]; omega
        · rw [if_pos e1] at h1
          have h2' : c y z ≤ 0 := by
            by_cases e2 : c y z = 0
            · omega
            · rw [if_pos e2] at h2; exact h2
          have := h.lt_le hx hy hz (show c x y < 0 by omega) h2'
          rw [if_pos (by omega)]; omega
theorem cmpI_ord : Ord3 (fun _ : Int => True) cmpI := by
  refine ⟨fun x y _ _ => ?_, fun x y z _ _ _ => ?_⟩
  · unfold cmpI; repeat' split
    all_goals omega
  · unfold cmpI; repeat' split
    all_goals omega
theorem cmpBytes_row : ∀ l m : List UInt8, Lib.compareBytes l m = cmpRow (fun a b => cmpI (a.toNat : Int) b.toNat) l m
  | [], [] => rfl
  | [], _ :: _ => rfl
  | _ :: _, [] => rfl
  | a :: l, b :: m => by
    rw [cmpBytes_cons]
    simp only [cmpRow]
    by_cases e : a = b
    · subst e; rw [if_pos rfl, cmpI_self, if_neg (by simp)]; exact cmpBytes_row l m
    · have : cmpI (a.toNat : Int) b.toNat ≠ 0 := by
        intro h
        refine e (UInt8.toNat_inj.1 ?_)
        unfold cmpI at h
        split at h
        · omega
        · split at h <;> omega
      rw [if_neg e, if_pos this]
theorem cmpS_ord : Ord3 (fun _ : ByteArray => True) cmpS := by
  have h := ((cmpI_ord.comap (fun a : UInt8 => (a.toNat : Int))).row).comap (fun s : ByteArray => s.data.toList)
  exact (h.mono fun x _ a _ => trivial).congr fun x y _ _ => cmpBytes_row _ _
end
def numAt (b : Int) : Ieee.Datum → Int
  | .number s m i => Ieee.signed s m (i - b).toNat
  | .infinity _ => 0
  | .nan _ _ => 0
def sideOf : Ieee.Datum → Int
  | .infinity s => if s then -1 else 1
  | _ => 0
def placeOf : Ieee.Datum → Int
  | .number _ _ i => i
  | _ => 0
theorem signed_shift (s : Bool) (m k t : Nat) : Ieee.signed s m (k + t) = Ieee.signed s m k * ((2 ^ t : Nat) : Int) := by
  unfold Ieee.signed
  have : m <<< (k + t) = (m <<< k) * 2 ^ t := by rw [Nat.shiftLeft_eq, Nat.shiftLeft_eq, Nat.pow_add, Nat.mul_assoc]
  cases s
  · simp only [Bool.false_eq_true, if_false, this]; rw [Int.natCast_mul]
  · simp only [if_true, this]; rw [Int.natCast_mul, Int.neg_mul]
theorem cmpI_mul (a b : Int) (t : Nat) (ht : 0 < t) : cmpI (a * (t : Int)) (b * (t : Int)) = cmpI a b := by
  have hp : (0 : Int) < t := by omega
  unfold cmpI
  rcases Int.lt_trichotomy a b with h | h | h
  · have := Int.mul_lt_mul_of_pos_right h hp
    rw [if_neg (by omega), if_pos this, if_neg (by omega), if_pos h]
  · subst h; rw [if_neg (by omega), if_neg (by omega), if_neg (by omega), if_neg (by omega)]
  · have := Int.mul_lt_mul_of_pos_right h hp
    rw [if_pos this, if_pos h]
theorem cmpFl_num {x y : Nat} {s t : Bool} {m n : Nat} {i j b : Int} (hx : FloatKind.f64.format.read x = .number s m i) (hy : FloatKind.f64.format.read y = .number t n j) (hi : b ≤ i) (hj : b ≤ j) : cmpFl x y = cmpI (Ieee.signed s m (i - b).toNat) (Ieee.signed t n (j - b).toNat) := by
  have e1 : (i - b).toNat = (i - min i j).toNat + (min i j - b).toNat := by omega
  have e2 : (j - b).toNat = (j - min i j).toNat + (min i j - b).toNat := by omega
  rw [e1, e2, signed_shift, signed_shift, cmpI_mul _ _ _ (Nat.pow_pos (by decide))]
  have ho : FloatKind.f64.format.order x y = some (compare (Ieee.signed s m (i - min i j).toNat) (Ieee.signed t n (j - min i j).toNat)) := by
    unfold Ieee.Format.order; rw [hx, hy]; rfl
  rcases Int.lt_trichotomy (Ieee.signed s m (i - min i j).toNat) (Ieee.signed t n (j - min i j).toNat) with h | h | h
  · have hc : compare (Ieee.signed s m (i - min i j).toNat) (Ieee.signed t n (j - min i j).toNat) = .lt := Std.compare_eq_lt.2 h
    have r : cmpI (Ieee.signed s m (i - min i j).toNat) (Ieee.signed t n (j - min i j).toNat) = -1 := by unfold cmpI; rw [if_neg (by omega), if_pos h]
    rw [r]; unfold cmpFl; rw [ho, hc]; rfl
  · have hc : compare (Ieee.signed s m (i - min i j).toNat) (Ieee.signed t n (j - min i j).toNat) = .eq := Std.compare_eq_iff_eq.2 h
    have r : cmpI (Ieee.signed s m (i - min i j).toNat) (Ieee.signed t n (j - min i j).toNat) = 0 := by unfold cmpI; rw [if_neg (by omega), if_neg (by omega)]
    rw [r]; unfold cmpFl; rw [ho, hc]; rfl
  · have hc : compare (Ieee.signed s m (i - min i j).toNat) (Ieee.signed t n (j - min i j).toNat) = .gt := Std.compare_eq_gt.2 h
    have r : cmpI (Ieee.signed s m (i - min i j).toNat) (Ieee.signed t n (j - min i j).toNat) = 1 := by unfold cmpI; rw [if_pos h]
    rw [r]; unfold cmpFl; rw [ho, hc]; rfl
theorem cmpFl_side {x y : Nat} (hx : (FloatKind.f64.format.read x).isNaN = false) (hy : (FloatKind.f64.format.read y).isNaN = false) {b : Int} (hi : b ≤ placeOf (FloatKind.f64.format.read x)) (hj : b ≤ placeOf (FloatKind.f64.format.read y)) :
    cmpFl x y = if cmpI (sideOf (FloatKind.f64.format.read x)) (sideOf (FloatKind.f64.format.read y)) ≠ 0 then cmpI (sideOf (FloatKind.f64.format.read x)) (sideOf (FloatKind.f64.format.read y)) else cmpI (numAt b (FloatKind.f64.format.read x)) (numAt b (FloatKind.f64.format.read y)) := by
  cases ex : FloatKind.f64.format.read x with
  | nan s t => rw [ex] at hx; cases hx
  | infinity s => cases ey : FloatKind.f64.format.read y with
    | nan s t => rw [ey] at hy; cases hy
    | infinity t =>
      have ho : FloatKind.f64.format.order x y = some (compare t.toNat s.toNat) := by unfold Ieee.Format.order; rw [ex, ey]; rfl
      unfold cmpFl; rw [ho]
      cases s <;> cases t <;> simp only [sideOf, numAt] <;> decide
    | number t n j =>
      have ho : FloatKind.f64.format.order x y = some (if s then .lt else .gt) := by unfold Ieee.Format.order; rw [ex, ey]; rfl
      unfold cmpFl; rw [ho]
      cases s <;> simp [sideOf, cmpI]
  | number s m i => cases ey : FloatKind.f64.format.read y with
    | nan s t => rw [ey] at hy; cases hy
    | infinity t =>
      have ho : FloatKind.f64.format.order x y = some (if t then .gt else .lt) := by unfold Ieee.Format.order; rw [ex, ey]; rfl
      unfold cmpFl; rw [ho]
      cases t <;> simp [sideOf, cmpI]
    | number t n j =>
      rw [ex] at hi; rw [ey] at hj
      rw [cmpFl_num ex ey (b := b) hi hj]
      simp [sideOf, numAt, cmpI_self]
theorem cmpFl_ord : Ord3 (fun x : Nat => (FloatKind.f64.format.read x).isNaN = false) cmpFl := by
  have key : ∀ b : Int, Ord3 (fun x : Nat => (FloatKind.f64.format.read x).isNaN = false ∧ b ≤ placeOf (FloatKind.f64.format.read x)) cmpFl := fun b => by
    refine Ord3.congr (Ord3.lex (((cmpI_ord.comap fun x : Nat => sideOf (FloatKind.f64.format.read x))).mono fun _ _ => trivial) (d := fun x y => cmpI (numAt b (FloatKind.f64.format.read x)) (numAt b (FloatKind.f64.format.read y))) (fun x y _ _ _ => cmpI_ord.anti _ _ trivial trivial) fun x y z _ _ _ _ _ => cmpI_ord.trans _ _ _ trivial trivial trivial) fun x y hx hy => ?_
    exact cmpFl_side hx.1 hy.1 hx.2 hy.2
  refine ⟨fun x y hx hy => (key (min (placeOf (FloatKind.f64.format.read x)) (placeOf (FloatKind.f64.format.read y)))).anti x y ⟨hx, by omega⟩ ⟨hy, by omega⟩, fun x y z hx hy hz => ?_⟩
  exact (key (min (placeOf (FloatKind.f64.format.read x)) (min (placeOf (FloatKind.f64.format.read y)) (placeOf (FloatKind.f64.format.read z))))).trans x y z ⟨hx, by omega⟩ ⟨hy, by omega⟩ ⟨hz, by omega⟩
theorem log2_bounds {n : Nat} (h : n ≠ 0) : 2 ^ n.log2 ≤ n ∧ n < 2 ^ (n.log2 + 1) := ⟨Nat.log2_self_le h, Nat.lt_log2_self⟩
theorem cut_zero (neg : Bool) (n : Nat) : Ieee.Toward.even.cut neg n 0 = n := by
  unfold Ieee.Toward.cut
  simp [Nat.mod_one]
theorem read_rung {neg : Bool} {r k : Nat} (hk : k < 4503599627370496) (q : Nat) (hq : 1 ≤ q) (hq2 : q < 2047) (hr : r = q * 4503599627370496 + k) : Ieee.double.read (Ieee.double.word neg r) = .number neg (4503599627370496 + k) (-1074 + ((q - 1 : Nat) : Int)) := by
  have hinf : Ieee.double.infRung = 9218868437227405312 := by decide +kernel
  have hsw : Ieee.double.signWeight = 9223372036854775808 := by decide +kernel
  have hbi : Ieee.double.binade = 4503599627370496 := by decide +kernel
  have hle : Ieee.double.leastPlace = -1074 := by decide +kernel
  have hlt : r < 9218868437227405312 := by omega
  have hm : Ieee.double.word neg r % Ieee.double.signWeight = r := by
    rw [hsw]; unfold Ieee.Format.word; rw [hsw]; split <;> omega
  have hneg : (Ieee.double.word neg r / Ieee.double.signWeight % 2 == 1) = neg := by
    rw [hsw]; unfold Ieee.Format.word; rw [hsw]
    cases neg
    · simp only [Bool.false_eq_true, if_false]
      have : r / 9223372036854775808 = 0 := Nat.div_eq_of_lt (by omega)
      rw [this]; rfl
    · simp only [if_true]
      have : (9223372036854775808 + r) / 9223372036854775808 = 1 := by omega
      rw [this]; rfl
  unfold Ieee.Format.read
  simp only [hm, hneg, hbi, hinf, hle]
  have e1 : r % 4503599627370496 = k := by omega
  have e2 : r / 4503599627370496 = q := by omega
  rw [if_neg (by omega), if_pos hlt, e1, e2]
theorem read_small (neg : Bool) (n : Nat) (hn : n ≤ 9007199254740992) : ∃ m i, Ieee.double.read (Ieee.double.nearest neg n 0) = .number neg m i ∧ i ≤ 1 ∧ ∀ b : Int, b ≤ i → b ≤ 0 → Ieee.signed neg m (i - b).toNat = Ieee.signed neg n (0 - b).toNat := by
  have hbi : Ieee.double.binade = 4503599627370496 := by decide +kernel
  have hle : Ieee.double.leastPlace = -1074 := by decide +kernel
  have hinf : Ieee.double.infRung = 9218868437227405312 := by decide +kernel
  have hfb : Ieee.double.fractionBits = 52 := rfl
  by_cases h0 : n = 0
  · subst h0
    refine ⟨0, -1074, ?_, by omega, fun b _ _ => by cases neg <;> simp [Ieee.signed]⟩
    unfold Ieee.Format.nearest
    rw [if_pos rfl]
    cases neg <;> decide +kernel
  · by_cases h1 : n = 9007199254740992
    · subst h1
      refine ⟨4503599627370496, 1, ?_, by omega, fun b h1 h2 => ?_⟩
      · cases neg <;> decide +kernel
      · have e : (1 - b).toNat = (0 - b).toNat + 1 := by omega
        rw [e, signed_shift]
        have e2 : Ieee.signed neg 9007199254740992 (0 - b).toNat = Ieee.signed neg 4503599627370496 (0 - b).toNat * 2 := by
          unfold Ieee.signed
          have : (9007199254740992 : Nat) <<< (0 - b).toNat = (4503599627370496 <<< (0 - b).toNat) * 2 := by rw [Nat.shiftLeft_eq, Nat.shiftLeft_eq]; omega
          rw [this]
          cases neg <;> simp <;> omega
        rw [e2]; simp
    · obtain ⟨b1, b2⟩ := log2_bounds h0
      have hL : n.log2 ≤ 52 := by
        apply Classical.byContradiction
        intro h
        have : 2 ^ 53 ≤ 2 ^ n.log2 := Nat.pow_le_pow_right (by decide) (by omega)
        omega
      obtain ⟨L, hLd⟩ : ∃ L, L = n.log2 := ⟨_, rfl⟩
      rw [← hLd] at b1 b2 hL
      have last : max ((0 : Int) + (n.log2 : Int) - (Ieee.double.fractionBits : Int)) Ieee.double.leastPlace = (L : Int) - 52 := by rw [hle, hfb, ← hLd]; omega
      have kd : n <<< (52 - L) = n * 2 ^ (52 - L) := Nat.shiftLeft_eq _ _
      have k1 : 4503599627370496 ≤ n * 2 ^ (52 - L) := by
        have h1 : 2 ^ L * 2 ^ (52 - L) ≤ n * 2 ^ (52 - L) := Nat.mul_le_mul_right _ b1
        rw [← Nat.pow_add, show L + (52 - L) = 52 by omega] at h1
        exact h1
      have k2 : n * 2 ^ (52 - L) < 9007199254740992 := by
        have h1 : n * 2 ^ (52 - L) < 2 ^ (L + 1) * 2 ^ (52 - L) := Nat.mul_lt_mul_of_pos_right b2 (Nat.pow_pos (by decide))
        rw [← Nat.pow_add, show L + 1 + (52 - L) = 53 by omega] at h1
        exact h1
      refine ⟨n * 2 ^ (52 - L), (L : Int) - 52, ?_, by omega, fun b h1 h2 => ?_⟩
      · unfold Ieee.Format.nearest
        rw [if_neg h0]
        simp only [last]
        have e1 : ((0 : Int) - ((L : Int) - 52)).toNat = 52 - L := by omega
        have e2 : (((L : Int) - 52) - 0).toNat = 0 := by omega
        rw [e1, e2, cut_zero, kd, hbi, hle, hinf]
        have e3 : (((L : Int) - 52) - -1074).toNat = L + 1022 := by omega
        rw [e3, Nat.min_eq_left (by omega)]
        obtain ⟨K, hK⟩ : ∃ K, K = n * 2 ^ (52 - L) := ⟨_, rfl⟩
        rw [← hK] at k1 k2 ⊢
        have h := read_rung (neg := neg) (r := (L + 1022) * 4503599627370496 + K) (k := K - 4503599627370496) (by omega) (L + 1023) (by omega) (by omega) (by omega)
        have e4 : 4503599627370496 + (K - 4503599627370496) = K := by omega
        have e5 : (-1074 : Int) + ((L + 1023 - 1 : Nat) : Int) = (L : Int) - 52 := by omega
        rw [e4, e5] at h
        exact h
      · have e : ((0 : Int) - b).toNat = ((L : Int) - 52 - b).toNat + (52 - L) := by omega
        rw [e]
        unfold Ieee.signed
        have : n <<< (((L : Int) - 52 - b).toNat + (52 - L)) = (n * 2 ^ (52 - L)) <<< ((L : Int) - 52 - b).toNat := by
          rw [Nat.shiftLeft_eq, Nat.shiftLeft_eq, Nat.pow_add, Nat.mul_assoc, Nat.mul_comm (2 ^ _)]
        rw [this]
theorem read_toFl (n : Int) (h : -9007199254740992 ≤ n ∧ n ≤ 9007199254740992) : ∃ s m i, FloatKind.f64.format.read (toFl n) = .number s m i ∧ i ≤ 1 ∧ ∀ b : Int, b ≤ i → b ≤ 0 → Ieee.signed s m (i - b).toNat = n * ((2 ^ (0 - b).toNat : Nat) : Int) := by
  obtain ⟨m, i, h1, h2, h3⟩ := read_small (decide (n < 0)) n.natAbs (by omega)
  refine ⟨decide (n < 0), m, i, ?_, h2, fun b hb hb0 => ?_⟩
  · rw [← h1]; rfl
  · rw [h3 b hb hb0]
    unfold Ieee.signed
    rw [Nat.shiftLeft_eq]
    by_cases hn : n < 0
    · simp only [hn, decide_true, if_true]
      rw [Int.natCast_mul, ← Int.neg_mul]
      congr 1; omega
    · simp only [hn, decide_false, Bool.false_eq_true, if_false]
      rw [Int.natCast_mul]
      congr 1; omega
theorem cmpFl_ints (n k : Int) (hn : -9007199254740992 ≤ n ∧ n ≤ 9007199254740992) (hk : -9007199254740992 ≤ k ∧ k ≤ 9007199254740992) : cmpFl (toFl n) (toFl k) = cmpI n k := by
  obtain ⟨s, m, i, h1, h2, h3⟩ := read_toFl n hn
  obtain ⟨t, q, j, g1, g2, g3⟩ := read_toFl k hk
  rw [cmpFl_num h1 g1 (b := min (min i j) 0) (by omega) (by omega), h3 _ (by omega) (by omega), g3 _ (by omega) (by omega)]
  exact cmpI_mul _ _ _ (Nat.pow_pos (by decide))
end Go.Smd
end
section
set_option linter.unusedSimpArgs false
set_option maxRecDepth 100000
namespace Go.Smd
open Go.RowKit Go.Proofs
def gK : GV → Int | .mk k _ _ _ _ _ => k
def gN : GV → Int | .mk _ n _ _ _ _ => n
def gS : GV → ByteArray | .mk _ _ _ s _ _ => s
def gL : GV → List GV | .mk _ _ _ _ _ l => l
def gF : GV → List (ByteArray × GV) | .mk _ _ _ _ ks l => ks.zip l
def gNum : GV → Nat | .mk k n f _ _ _ => asF k n f
def cmpKV (p q : ByteArray × GV) : Int := if cmpS p.1 q.1 ≠ 0 then cmpS p.1 q.1 else cmpP p.2 q.2
theorem cmpPs_row : ∀ l m : List GV, cmpPs l m = cmpRow cmpP l m
  | [], [] => by simp [cmpPs, cmpRow]
  | [], _ :: _ => by simp [cmpPs, cmpRow]
  | _ :: _, [] => by simp [cmpPs, cmpRow]
  | x :: l, y :: m => by simp only [cmpPs, cmpRow, cmpPs_row l m]
theorem cmpPm_row : ∀ (ks : List ByteArray) (l : List GV) (ks' : List ByteArray) (l' : List GV), ks.length ≤ l.length → ks'.length ≤ l'.length → cmpPm ks l ks' l' = cmpRow cmpKV (ks.zip l) (ks'.zip l')
  | [], l, ks', l', _, h' => by
    rw [cmpPm_end (.inl rfl), cmpRow_end (.inl (by simp))]
    congr 1
    simp; omega
  | k :: ks, [], _, _, h, _ => by simp at h
  | k :: ks, x :: l, [], l', h, _ => by
    rw [cmpPm_end (.inr rfl), cmpRow_end (.inr (by simp))]
    congr 1
    simp at h ⊢; omega
  | k :: ks, x :: l, k' :: ks', [], _, h' => by simp at h'
  | k :: ks, x :: l, k' :: ks', x' :: l', h, h' => by
    simp only [cmpPm, List.zip_cons_cons, cmpRow, cmpKV]
    rw [cmpPm_row ks l ks' l' (by simpa using h) (by simpa using h')]
    by_cases e : cmpS k k' = 0 <;> by_cases e2 : cmpP x x' = 0 <;> simp [e, e2]
def dP (x y : GV) : Int :=
  if rkV (gK x) = 0 then (if gK x = 2 ∧ gK y = 2 then cmpI (gN x) (gN y) else cmpFl (gNum x) (gNum y))
  else if rkV (gK x) = 1 then cmpS (gS x) (gS y) else if rkV (gK x) = 2 then cmpI (gN x) (gN y) else if rkV (gK x) = 3 then cmpRow cmpP (gL x) (gL y) else if rkV (gK x) = 4 then cmpRow cmpKV (gF x) (gF y) else 0
theorem cmpP_lex (x y : GV) (hx : okP x) (hy : okP y) : cmpP x y = if cmpI (rkV (gK x)) (rkV (gK y)) ≠ 0 then cmpI (rkV (gK x)) (rkV (gK y)) else dP x y := by
  cases hx with
  | mk h1 _ => cases hy with
    | mk h2 _ => simp only [cmpP, dP, gK, gN, gS, gL, gF, gNum, cmpPs_row, cmpPm_row _ _ _ _ h1 h2]; rfl
theorem rkV_0 {k : Int} (h : rkV k = 0) : k = 2 ∨ k = 3 := by unfold rkV at h; repeat' split at h <;> first | assumption | omega
theorem rkV_3 {k : Int} (h : rkV k = 3) : k = 5 := by
  unfold rkV at h
  split at h
  · omega
  · split at h
    · omega
    · split at h
      · omega
      · split at h
        · assumption
        · split at h <;> omega
theorem rkV_4 {k : Int} (h : rkV k = 4) : k = 6 := by
  unfold rkV at h
  split at h
  · omega
  · split at h
    · omega
    · split at h
      · omega
      · split at h
        · omega
        · split at h
          · assumption
          · omega
theorem okP_items {g : GV} (h : okP g) : ∀ x ∈ gL g, okP x := by cases h with | mk _ h => exact h
theorem gF_items {g : GV} : ∀ p ∈ gF g, p.2 ∈ gL g := by
  obtain ⟨k, n, f, s, ks, l⟩ := g
  intro p hp
  exact (List.of_mem_zip hp).2
theorem gL_size {g x : GV} (h : x ∈ gL g) : SizeOf.sizeOf x < SizeOf.sizeOf g := by
  obtain ⟨k, n, f, s, ks, l⟩ := g
  have := List.sizeOf_lt_of_mem (show x ∈ l from h)
  simp only [GV.mk.sizeOf_spec]; omega
theorem orderly_items {g : GV} (h : orderly g = true) (hk : gK g = 5 ∨ gK g = 6) : ∀ x ∈ gL g, orderly x = true := by
  obtain ⟨k, n, f, s, ks, l⟩ := g
  simp only [gK] at hk
  unfold orderly at h
  have : orderlys l = true := by rcases hk with rfl | rfl <;> simpa using h
  rw [orderlys_eq] at this
  exact List.all_eq_true.1 this
theorem orderly_num {g : GV} (h : orderly g = true) (hk : rkV (gK g) = 0) : (FloatKind.f64.format.read (gNum g)).isNaN = false := by
  obtain ⟨k, n, f, s, ks, l⟩ := g
  simp only [gK] at hk
  rcases rkV_0 hk with rfl | rfl
  · exact nearest_num n
  · refine nan_self (a := f) ?_
    unfold orderly at h
    simpa [ford] using h
theorem orderly_int {g : GV} (h : orderly g = true) (hk : gK g = 2) : (-9007199254740992 ≤ gN g ∧ gN g ≤ 9007199254740992) ∧ gNum g = toFl (gN g) := by
  obtain ⟨k, n, f, s, ks, l⟩ := g
  simp only [gK] at hk
  subst hk
  unfold orderly at h
  refine ⟨by simpa [gN] using h, by simp [gNum, gN, asF]⟩
abbrev OP (N : Nat) (g : GV) : Prop := SizeOf.sizeOf g < N ∧ okP g ∧ orderly g = true
theorem cmpP_ordN : ∀ N : Nat, Ord3 (OP N) cmpP
  | 0 => ⟨fun x y h => absurd h.1 (Nat.not_lt_zero _), fun x y z h => absurd h.1 (Nat.not_lt_zero _)⟩
  | N + 1 => by
    have ih := cmpP_ordN N
    have kv : Ord3 (fun p : ByteArray × GV => OP N p.2) cmpKV :=
      Ord3.lex ((cmpS_ord.comap (fun p : ByteArray × GV => p.1)).mono fun _ _ => trivial) (d := fun p q : ByteArray × GV => cmpP p.2 q.2) (fun x y hx hy _ => ih.anti _ _ hx hy) fun x y z hx hy hz _ _ => ih.trans _ _ _ hx hy hz
    have key : ∀ r : Int, ∃ e : GV → GV → Int, Ord3 (fun g => OP (N + 1) g ∧ rkV (gK g) = r) e ∧ ∀ x y, OP (N + 1) x → rkV (gK x) = r → OP (N + 1) y → rkV (gK y) = r → dP x y = e x y := fun r => by
      have items : ∀ g, OP (N + 1) g → gK g = 5 ∨ gK g = 6 → ∀ x ∈ gL g, OP N x := fun g hg hk x hx => ⟨by have := gL_size hx; have := hg.1; omega, okP_items hg.2.1 x hx, orderly_items hg.2.2 hk x hx⟩
      by_cases r0 : r = 0
      · subst r0
        refine ⟨fun x y => cmpFl (gNum x) (gNum y), (cmpFl_ord.comap gNum).mono fun g hg => orderly_num hg.1.2.2 hg.2, fun x y hx rx hy ry => ?_⟩
        unfold dP
        rw [if_pos rx]
        split
        · next h =>
          obtain ⟨b1, e1⟩ := orderly_int hx.2.2 h.1
          obtain ⟨b2, e2⟩ := orderly_int hy.2.2 h.2
          dsimp only
          rw [e1, e2, cmpFl_ints _ _ b1 b2]
        · rfl
      · by_cases r1 : r = 1
        · subst r1
          refine ⟨fun x y => cmpS (gS x) (gS y), (cmpS_ord.comap gS).mono fun _ _ => trivial, fun x y hx rx hy ry => ?_⟩
          unfold dP; rw [if_neg (by omega), if_pos rx]
        · by_cases r2 : r = 2
          · subst r2
            refine ⟨fun x y => cmpI (gN x) (gN y), (cmpI_ord.comap gN).mono fun _ _ => trivial, fun x y hx rx hy ry => ?_⟩
            unfold dP; rw [if_neg (by omega), if_neg (by omega), if_pos rx]
          · by_cases r3 : r = 3
            · subst r3
              refine ⟨fun x y => cmpRow cmpP (gL x) (gL y), (ih.row.comap gL).mono fun g hg => items g hg.1 (.inl (rkV_3 hg.2)), fun x y hx rx hy ry => ?_⟩
              unfold dP; rw [if_neg (by omega), if_neg (by omega), if_neg (by omega), if_pos rx]
            · by_cases r4 : r = 4
              · subst r4
                refine ⟨fun x y => cmpRow cmpKV (gF x) (gF y), (kv.row.comap gF).mono fun g hg p hp => items g hg.1 (.inr (rkV_4 hg.2)) _ (gF_items p hp), fun x y hx rx hy ry => ?_⟩
                unfold dP; rw [if_neg (by omega), if_neg (by omega), if_neg (by omega), if_neg (by omega), if_pos rx]
              · refine ⟨fun _ _ => 0, ⟨fun _ _ _ _ => rfl, fun _ _ _ _ _ _ _ _ => Int.le_refl _⟩, fun x y hx rx hy ry => ?_⟩
                unfold dP; rw [if_neg (by omega), if_neg (by omega), if_neg (by omega), if_neg (by omega), if_neg (by omega)]
    have zero : ∀ a b : Int, cmpI a b = 0 → b = a := fun a b h => by unfold cmpI at h; split at h <;> (try split at h) <;> omega
    refine Ord3.congr (Ord3.lex (O := OP (N + 1)) ((cmpI_ord.comap fun g : GV => rkV (gK g)).mono fun _ _ => trivial) (d := dP) (fun x y hx hy h => ?_) fun x y z hx hy hz h1 h2 => ?_) fun x y hx hy => cmpP_lex x y hx.2.1 hy.2.1
    · obtain ⟨e, he, hd⟩ := key (rkV (gK x))
      have ey := zero _ _ h
      rw [hd x y hx rfl hy ey, hd y x hy ey hx rfl]
      exact he.anti x y ⟨hx, rfl⟩ ⟨hy, ey⟩
    · obtain ⟨e, he, hd⟩ := key (rkV (gK x))
      have ey := zero _ _ h1
      have ez := (zero _ _ h2).trans ey
      rw [hd x y hx rfl hy ey, hd y z hy ey hz ez, hd x z hx rfl hz ez]
      exact he.trans x y z ⟨hx, rfl⟩ ⟨hy, ey⟩ ⟨hz, ez⟩
theorem cmpP_ord : Ord3 (fun g : GV => okP g ∧ orderly g = true) cmpP :=
  ⟨fun x y hx hy => (cmpP_ordN (SizeOf.sizeOf x + SizeOf.sizeOf y + 1)).anti x y ⟨by omega, hx⟩ ⟨by omega, hy⟩,
    fun x y z hx hy hz => (cmpP_ordN (SizeOf.sizeOf x + SizeOf.sizeOf y + SizeOf.sizeOf z + 1)).trans x y z ⟨by omega, hx⟩ ⟨by omega, hy⟩ ⟨by omega, hz⟩⟩
abbrev OG (g : GV) : Prop := orderly (clean g) = true
theorem cmpC_ord : Ord3 OG (fun a b => cmpP (clean a) (clean b)) := (cmpP_ord.comap clean).mono fun g hg => ⟨okP_clean g, hg⟩
theorem cmpGF_ord : Ord3 (fun p : ByteArray × GV => OG p.2) cmpGF :=
  Ord3.lex ((cmpS_ord.comap (fun p : ByteArray × GV => p.1)).mono fun _ _ => trivial) (d := fun p q : ByteArray × GV => cmpP (clean p.2) (clean q.2)) (fun x y hx hy _ => cmpC_ord.anti _ _ hx hy) fun x y z hx hy hz _ _ => cmpC_ord.trans _ _ _ hx hy hz
structure OE (e : EV) : Prop where
  key : rkE e.k = 1 → ∀ p ∈ e.keys.zip e.l, OG p.2
  val : rkE e.k = 2 → OG e.v
def dE (e e' : EV) : Int := if rkE e.k = 1 then cmpRow cmpGF (e.keys.zip e.l) (e'.keys.zip e'.l) else if rkE e.k = 2 then cmpP (clean e.v) (clean e'.v) else if rkE e.k = 3 then cmpI e.n e'.n else cmpS e.s e'.s
theorem cmpEl_ord : Ord3 OE cmpEl := by
  have key : ∀ r : Int, ∃ c : EV → EV → Int, Ord3 (fun g => OE g ∧ rkE g.k = r) c ∧ ∀ x y, OE x → rkE x.k = r → OE y → rkE y.k = r → dE x y = c x y := fun r => by
    by_cases r1 : r = 1
    · subst r1
      refine ⟨fun x y => cmpRow cmpGF (x.keys.zip x.l) (y.keys.zip y.l), (cmpGF_ord.row.comap fun x : EV => x.keys.zip x.l).mono fun g hg => hg.1.key hg.2, fun x y hx rx hy ry => ?_⟩
      unfold dE; rw [if_pos rx]
    · by_cases r2 : r = 2
      · subst r2
        refine ⟨fun x y => cmpP (clean x.v) (clean y.v), (cmpC_ord.comap fun x : EV => x.v).mono fun g hg => hg.1.val hg.2, fun x y hx rx hy ry => ?_⟩
        unfold dE; rw [if_neg (by omega), if_pos rx]
      · by_cases r3 : r = 3
        · subst r3
          refine ⟨fun x y => cmpI x.n y.n, (cmpI_ord.comap fun x : EV => x.n).mono fun _ _ => trivial, fun x y hx rx hy ry => ?_⟩
          unfold dE; rw [if_neg (by omega), if_neg (by omega), if_pos rx]
        · refine ⟨fun x y => cmpS x.s y.s, (cmpS_ord.comap fun x : EV => x.s).mono fun _ _ => trivial, fun x y hx rx hy ry => ?_⟩
          unfold dE; rw [if_neg (by omega), if_neg (by omega), if_neg (by omega)]
  have zero : ∀ a b : Int, cmpI a b = 0 → b = a := fun a b h => by unfold cmpI at h; split at h <;> (try split at h) <;> omega
  refine Ord3.congr (Ord3.lex (O := OE) ((cmpI_ord.comap fun g : EV => rkE g.k).mono fun _ _ => trivial) (d := dE) (fun x y hx hy h => ?_) fun x y z hx hy hz h1 h2 => ?_) fun x y hx hy => rfl
  · obtain ⟨e, he, hd⟩ := key (rkE x.k)
    have ey := zero _ _ h
    rw [hd x y hx rfl hy ey, hd y x hy ey hx rfl]
    exact he.anti x y ⟨hx, rfl⟩ ⟨hy, ey⟩
  · obtain ⟨e, he, hd⟩ := key (rkE x.k)
    have ey := zero _ _ h1
    have ez := (zero _ _ h2).trans ey
    rw [hd x y hx rfl hy ey, hd y z hy ey hz ez, hd x z hx rfl hz ez]
    exact he.trans x y z ⟨hx, rfl⟩ ⟨hy, ey⟩ ⟨hz, ez⟩
end Go.Smd
end
section
set_option linter.unusedSimpArgs false
set_option maxRecDepth 100000
set_option maxHeartbeats 8000000
namespace Go.Smd
open Go.RowKit Go.Proofs
def SortE (S : List EV) : Prop := S.Pairwise fun x y => cmpEl x y < 0
def lbE (e : EV) : List EV → Nat
  | [] => 0
  | x :: r => if cmpEl x e < 0 then lbE e r + 1 else 0
def insE (e : EV) : List EV → List EV
  | [] => [e]
  | x :: r => if cmpEl x e < 0 then x :: insE e r else if cmpEl x e = 0 then x :: r else e :: x :: r
def hasE (e : EV) (S : List EV) : Prop := ∃ x, S[lbE e S]? = some x ∧ cmpEl x e = 0
theorem lbE_le (e : EV) : ∀ S : List EV, lbE e S ≤ S.length
  | [] => Nat.le_refl _
  | x :: r => by
    have := lbE_le e r
    simp only [lbE]
    split <;> simp <;> omega
theorem lbE_lo (e : EV) : ∀ (S : List EV) (j : Nat) (h : j < S.length), j < lbE e S → cmpEl S[j] e < 0
  | [], j, h, _ => by simp at h
  | x :: r, j, h, k => by
    simp only [lbE] at k
    split at k
    · next hx =>
      cases j with
      | zero => exact hx
      | succ j => exact lbE_lo e r j (by simpa using h) (by omega)
    · omega
theorem lbE_hi (e : EV) (he : OE e) : ∀ (S : List EV), (∀ x ∈ S, OE x) → SortE S → ∀ (j : Nat) (h : j < S.length), lbE e S ≤ j → 0 ≤ cmpEl S[j] e
  | [], _, _, j, h, _ => by simp at h
  | x :: r, ho, hs, j, h, k => by
    have hs := List.pairwise_cons.1 hs
    simp only [lbE] at k
    split at k
    · next hx =>
      cases j with
      | zero => omega
      | succ j => exact lbE_hi e he r (fun y hy => ho y (by simp [hy])) hs.2 j (by simpa using h) (by omega)
    · next hx =>
      cases j with
      | zero => show 0 ≤ cmpEl x e; omega
      | succ j =>
        have hj : j < r.length := by simpa using h
        have h1 := hs.1 _ (List.getElem_mem hj)
        show 0 ≤ cmpEl r[j] e
        apply Classical.byContradiction
        intro hn
        exact hx (cmpEl_ord.lt_le (ho x (by simp)) (ho _ (by simp [List.getElem_mem hj])) he h1 (by omega))
theorem insE_found (e : EV) : ∀ S : List EV, hasE e S → insE e S = S
  | [], ⟨x, h, _⟩ => by simp at h
  | x :: r, ⟨y, h, hy⟩ => by
    simp only [lbE] at h
    simp only [insE]
    split
    · next hx => rw [if_pos hx] at h; rw [insE_found e r ⟨y, by simpa using h, hy⟩]
    · next hx => rw [if_neg hx] at h; simp at h; subst h; rw [if_pos hy]
theorem insE_new (e : EV) : ∀ S : List EV, ¬ hasE e S → insE e S = insAt (lbE e S) e S
  | [], _ => by simp [insE, lbE, insAt]
  | x :: r, hn => by
    simp only [insE]
    split
    · next hx =>
      have h1 : lbE e (x :: r) = lbE e r + 1 := by simp only [lbE, if_pos hx]
      rw [insE_new e r fun ⟨y, h, hy⟩ => hn ⟨y, by rw [h1]; simpa using h, hy⟩, h1]
      simp [insAt]
    · next hx =>
      have h1 : lbE e (x :: r) = 0 := by simp only [lbE, if_neg hx]
      rw [if_neg fun h0 => hn ⟨x, by rw [h1]; rfl, h0⟩, h1]
      simp [insAt]
theorem mem_insE {e y : EV} : ∀ {S : List EV}, y ∈ insE e S → y = e ∨ y ∈ S
  | [], h => by simp [insE] at h; exact .inl h
  | x :: r, h => by
    simp only [insE] at h
    split at h
    · rcases List.mem_cons.1 h with h | h
      · exact .inr (by simp [h])
      · rcases mem_insE h with h | h
        · exact .inl h
        · exact .inr (by simp [h])
    · split at h
      · exact .inr h
      · rcases List.mem_cons.1 h with h | h
        · exact .inl h
        · exact .inr h
theorem insE_length (e : EV) : ∀ S : List EV, (insE e S).length ≤ S.length + 1
  | [] => by simp [insE]
  | x :: r => by
    have := insE_length e r
    simp only [insE]
    split
    · simp; omega
    · split <;> simp
theorem insE_sort {e : EV} (he : OE e) : ∀ {S : List EV}, (∀ x ∈ S, OE x) → SortE S → SortE (insE e S)
  | [], _, _ => by simp [insE, SortE]
  | x :: r, ho, hs => by
    have hs' := List.pairwise_cons.1 hs
    have hor : ∀ y ∈ r, OE y := fun y hy => ho y (by simp [hy])
    simp only [insE]
    split
    · next hx =>
      refine List.pairwise_cons.2 ⟨fun y hy => ?_, insE_sort he hor hs'.2⟩
      rcases mem_insE hy with h | h
      · rw [h]; exact hx
      · exact hs'.1 y h
    · next hx =>
      split
      · exact hs
      · next h0 =>
        have ha := cmpEl_ord.anti x e (ho x (by simp)) he
        refine List.pairwise_cons.2 ⟨fun y hy => ?_, hs⟩
        rcases List.mem_cons.1 hy with h | h
        · rw [h]; omega
        · have := hs'.1 y h
          exact cmpEl_ord.lt_le he (ho x (by simp)) (hor y h) (by omega) (by omega)
def mkE (l : List EV) : List EV := l.foldl (fun S e => insE e S) []
structure GoodE (e : EV) : Prop where
  s : EVs e
  f : FitsE e
  o : OE e
@[simp] theorem mkE_nil : mkE [] = [] := rfl
theorem mkE_snoc (l : List EV) (e : EV) : mkE (l ++ [e]) = insE e (mkE l) := by simp [mkE]
theorem mkE_mem : ∀ (n : Nat) (l : List EV), l.length = n → ∀ y ∈ mkE l, y ∈ l
  | 0, l, h, y, hy => by cases l with | nil => simp [mkE] at hy | cons _ _ => simp at h
  | n + 1, l, h, y, hy => by
    obtain ⟨m, e, rfl⟩ : ∃ m e, l = m ++ [e] := ⟨l.dropLast, l.getLast (by intro h0; rw [h0] at h; simp at h), (List.dropLast_concat_getLast _).symm⟩
    rw [mkE_snoc] at hy
    rcases mem_insE hy with h1 | h1
    · simp [h1]
    · simp [mkE_mem n m (by simpa using h) y h1]
theorem mkE_good {l : List EV} (h : ∀ e ∈ l, GoodE e) : ∀ y ∈ mkE l, GoodE y := fun y hy => h y (mkE_mem _ l rfl y hy)
theorem mkE_sort : ∀ (n : Nat) (l : List EV), l.length = n → (∀ e ∈ l, GoodE e) → SortE (mkE l) ∧ (mkE l).length ≤ l.length
  | 0, l, h, _ => by cases l with | nil => simp [mkE, SortE] | cons _ _ => simp at h
  | n + 1, l, h, hg => by
    obtain ⟨m, e, rfl⟩ : ∃ m e, l = m ++ [e] := ⟨l.dropLast, l.getLast (by intro h0; rw [h0] at h; simp at h), (List.dropLast_concat_getLast _).symm⟩
    have hm : ∀ x ∈ m, GoodE x := fun x hx => hg x (by simp [hx])
    obtain ⟨h1, h2⟩ := mkE_sort n m (by simpa using h) hm
    rw [mkE_snoc]
    refine ⟨insE_sort (hg e (by simp)).o (fun x hx => (mkE_good hm x hx).o) h1, ?_⟩
    have := insE_length e (mkE m)
    simp; omega
theorem bound_E {S : List EV} {e : EV} (hs : SortE S) (hS : ∀ x ∈ S, GoodE x) (he : GoodE e) : Bound (S.map toLE) (toLE e) (lbE e S) where
  le := by simpa using lbE_le e S
  lo := fun j h k => by
    have hj : j < S.length := by simpa using h
    rw [List.getElem_map, cmpLE_cmpEl _ _ (hS _ (List.getElem_mem hj)).f he.f]
    exact lbE_lo e S j hj k
  hi := fun j h k => by
    have hj : j < S.length := by simpa using h
    rw [List.getElem_map, cmpLE_cmpEl _ _ (hS _ (List.getElem_mem hj)).f he.f]
    exact lbE_hi e he.o S (fun x hx => (hS x hx).o) hs j hj k
theorem isAt_E {S : List EV} {e : EV} (hS : ∀ x ∈ S, GoodE x) (he : GoodE e) : isAt (S.map toLE) (toLE e) (lbE e S) ↔ hasE e S := by
  unfold isAt hasE
  simp only [List.getElem?_map, Option.map_eq_some_iff]
  constructor
  · rintro ⟨x, ⟨y, hy, rfl⟩, h⟩
    exact ⟨y, hy, by rw [cmpLE_cmpEl _ _ (hS _ (List.mem_of_getElem? hy)).f he.f] at h; exact h⟩
  · rintro ⟨y, hy, h⟩
    exact ⟨_, ⟨y, hy, rfl⟩, by rw [cmpLE_cmpEl _ _ (hS _ (List.mem_of_getElem? hy)).f he.f]; exact h⟩
theorem insAt_map {α γ : Type} (f : α → γ) (p : Nat) (e : α) (S : List α) : (insAt p e S).map f = insAt p (f e) (S.map f) := by unfold insAt; simp [List.map_take, List.map_drop]
theorem toElemSet_a (l : List EV) (hl : l.length * 168 ≤ 140737488351232) (hg : ∀ e ∈ l, GoodE e) : ACalls Tryz.prog 95 [.c (.d (dPath l))] (fun r => r = .c (.d (.pt [dLPath ((mkE l).map toLE)]))) := by
  have b1 : l.length ≤ 9223372036854775807 := by omega
  refine acalls_ex [] Tryz.func95 (by kernel_rfl) rfl Tryz.ntmps95 Tryz.results95 (Nat.le_of_ble_eq_true (by kernel_rfl)) ?_; intro hok w0 S0
  clear hok
  (repeat' (first | (with_reducible refine br_d (fun _ => ?_) (fun _ => ?_)) | (with_reducible refine br_i (fun _ => ?_) (fun _ => ?_)) | (with_reducible refine dn_i follows_any (by kernel_rfl) ?_) | (with_reducible exact done_eq rfl) | (simp -dsimp [b1]))); (all_goals try with_reducible refine done_eq ?_)
  refine ex_loop (fun x : Nat × Nat => ⟨[(3, .c (.own 7 0)), (8, .c (.d (dPath l))), (9, aI l.length), (10, aI x.1)], [(7, .cells [.gs 77 x.2] 153), (77, .arr x.2 98 (((mkE (l.take x.1)).map toLE).map leD))]⟩) (fun x => x.1 ≤ l.length) (fun x => l.length - x.1) (0, 0) ?_ (Nat.zero_le _) ?_
  · refine Weak.trans (Weak.adopt (z := 7) (id := 77) (T := 153) (E := 98) rfl rfl (by decide)) ?_
    exact Weak.same (by simp -dsimp) (by simp -dsimp) (by first | rfl | (simp [closedSt, Av.ids, Ow.ids, Cl.ids, Go.Smd.keys]; done))
  · rintro ⟨i, ver⟩ hi K hK
    have hi : i ≤ l.length := hi
    by_cases hlt : i < l.length
    · have hw : IntKind.wrap .i64 ((i : Int) + 1) = ((i + 1 : Nat) : Int) := by rw [wrap_i64] <;> omega
      have he := hg _ (List.getElem_mem hlt)
      have ht : ∀ x ∈ l.take i, GoodE x := fun x hx => hg x (List.mem_of_mem_take hx)
      obtain ⟨hs, hsl⟩ := mkE_sort _ _ rfl ht
      have hS := mkE_good ht
      have hnx : mkE (l.take (i + 1)) = insE l[i] (mkE (l.take i)) := by rw [List.take_succ_eq_append_getElem hlt, mkE_snoc]
      have hB := bound_E hs hS he
      have hA := isAt_E hS he
      have hsz : (mkE (l.take i)).length ≤ i := by rw [List.length_take] at hsl; omega
      have hc := toElem_a l[i] he.s.hk he.s.hl
      have hF : ∀ x ∈ (mkE (l.take i)).map toLE, fitsLE x := fun x hx => by obtain ⟨y, hy, rfl⟩ := List.mem_map.1 hx; exact (hS y hy).f.le
      have four : ∀ e : LE, ∃ e0 e1 e2 e3, leA e = .agg [.d e0, .d e1, .d e2, .d e3] := fun e => by cases e <;> exact ⟨_, _, _, _, rfl⟩
      obtain ⟨e0, e1, e2, e3, he'⟩ := four (toLE l[i])
      by_cases hf : hasE l[i] (mkE (l.take i))
      · have hi := esInsert_f ver _ (toLE l[i]) _ (by simp; omega) hF he.f.le hB (hA.2 hf)
        rw [insE_found _ _ hf] at hnx
        generalize hR : ((mkE (l.take i)).map toLE).map leD = R at hi ⊢
        rw [he'] at hc hi
        (repeat' (first | (with_reducible refine br_d (fun _ => ?_) (fun _ => ?_)) | (with_reducible refine br_i (fun _ => ?_) (fun _ => ?_)) | (with_reducible refine nd_v (hc) (by first | rfl | (simp -dsimp [b1, hlt, hw]; done)) ?_) | (with_reducible refine nw_v (hc) rfl (by first | rfl | (simp -dsimp [b1, hlt, hw]; done)) (by first | rfl | (simp -dsimp [b1, hlt, hw]; done)) ?_) | ((with_reducible apply nd_q (ρ := [(1000000000, 7), (1000000001, 77)]) 7 (hi)); (case hc => simp -dsimp [b1, hlt, hw] <;> first | exact ⟨rfl, rfl, rfl⟩ | exact ⟨rfl, rfl⟩ | done); (case hx => simp -dsimp [b1, hlt, hw] <;> with_reducible rfl); (case ho => simp -dsimp [b1, hlt, hw]); (case hh => simp -dsimp [b1, hlt, hw]); (case hb => simp -dsimp [b1, hlt, hw])) | (with_reducible refine dn_i follows_any (by kernel_rfl) ?_) | (with_reducible exact done_eq rfl) | (simp -dsimp [b1, hlt, hw]))); (all_goals try with_reducible refine done_eq ?_)
        refine hK _ (i + 1, ver) ?_ (by show i + 1 ≤ _; omega) (by show l.length - (i + 1) < _; omega)
        simp only [hnx, hR]
        exact Weak.same (by simp -dsimp) (by simp -dsimp) (by first | rfl | (simp [closedSt, Av.ids, Ow.ids, Cl.ids, Go.Smd.keys]; done))
      · have hi := esInsert_n ver _ (toLE l[i]) _ (by simp; omega) hF he.f.le hB (fun h => hf (hA.1 h))
        rw [insE_new _ _ hf] at hnx
        rw [← insAt_map, ← hnx] at hi
        generalize hR : ((mkE (l.take i)).map toLE).map leD = R at hi ⊢
        rw [he'] at hc hi
        (repeat' (first | (with_reducible refine br_d (fun _ => ?_) (fun _ => ?_)) | (with_reducible refine br_i (fun _ => ?_) (fun _ => ?_)) | (with_reducible refine nd_v (hc) (by first | rfl | (simp -dsimp [b1, hlt, hw]; done)) ?_) | (with_reducible refine nw_v (hc) rfl (by first | rfl | (simp -dsimp [b1, hlt, hw]; done)) (by first | rfl | (simp -dsimp [b1, hlt, hw]; done)) ?_) | ((with_reducible apply nd_q (ρ := [(1000000000, 7), (1000000001, 77)]) 7 (hi)); (case hc => simp -dsimp [b1, hlt, hw] <;> first | exact ⟨rfl, rfl, rfl⟩ | exact ⟨rfl, rfl⟩ | done); (case hx => simp -dsimp [b1, hlt, hw] <;> with_reducible rfl); (case ho => simp -dsimp [b1, hlt, hw]); (case hh => simp -dsimp [b1, hlt, hw]); (case hb => simp -dsimp [b1, hlt, hw])) | (with_reducible refine dn_i follows_any (by kernel_rfl) ?_) | (with_reducible exact done_eq rfl) | (simp -dsimp [b1, hlt, hw]))); (all_goals try with_reducible refine done_eq ?_)
        refine hK _ (i + 1, ver + 1) ?_ (by show i + 1 ≤ _; omega) (by show l.length - (i + 1) < _; omega)
        exact Weak.same (by simp -dsimp) (by simp -dsimp) (by first | rfl | (simp [closedSt, Av.ids, Ow.ids, Cl.ids, Go.Smd.keys]; done))
    · have hi2 : i = l.length := by omega
      subst hi2
      (repeat' (first | (with_reducible refine br_d (fun _ => ?_) (fun _ => ?_)) | (with_reducible refine br_i (fun _ => ?_) (fun _ => ?_)) | (with_reducible refine dn_i follows_any (by kernel_rfl) ?_) | (with_reducible exact done_eq rfl) | (simp -dsimp [b1]))); (all_goals try with_reducible refine done_eq ?_)
      simp only [dLPath, List.map_map]
end Go.Smd
end
