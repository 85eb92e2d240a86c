/- Part 33 of the proof: Ey Pb Ez Ga Open. -/
import Derived.Test.YtannholebjdckaaGreatQZ32
import Derived.Test.YtannholebjdckaaGreatQZ28
import Derived.Test.YtannholebjdckaaGreatQZ01
import Derived.Deep.Slices
import Derived.ProofKit
set_option linter.unusedVariables false
section
set_option linter.unusedSimpArgs false
set_option maxRecDepth 100000
set_option maxHeartbeats 8000000
namespace Go.Smd
open Go.RowKit Go.Proofs
theorem uni_int : ∀ (n : Nat) (A B : List LE), A.length + B.length = n → (uniE A B).length + (intE A B).length = A.length + B.length ∧ (difE A B).length + (intE A B).length = A.length := by
  intro n
  induction n using Nat.strongRecOn with
  | _ n IH =>
  intro A B hn
  cases A with
  | nil => simp [nil_uni, nil_int, nil_dif]
  | cons x a =>
    cases B with
    | nil => simp [uni_nil, int_nil, dif_nil]
    | cons y b =>
      simp only [List.length_cons] at hn
      by_cases h1 : cmpLE x y < 0
      · have := IH (a.length + (y :: b).length) (by simp; omega) a (y :: b) rfl
        rw [uniE, intE, difE, if_pos h1, if_pos h1, if_pos h1]
        simp only [List.length_cons] at this ⊢
        omega
      · by_cases h2 : cmpLE y x < 0
        · have := IH ((x :: a).length + b.length) (by simp; omega) (x :: a) b rfl
          rw [uniE, intE, difE, if_neg h1, if_neg h1, if_neg h1, if_pos h2, if_pos h2, if_pos h2]
          simp only [List.length_cons] at this ⊢
          omega
        · have := IH (a.length + b.length) (by omega) a b rfl
          rw [uniE, intE, difE, if_neg h1, if_neg h1, if_neg h1, if_neg h2, if_neg h2, if_neg h2]
          simp only [List.length_cons] at this ⊢
          omega
theorem mem_ops : ∀ (n : Nat) (A B : List LE), A.length + B.length = n → (∀ z ∈ uniE A B, z ∈ A ∨ z ∈ B) ∧ (∀ z ∈ intE A B, z ∈ A) ∧ (∀ z ∈ difE A B, z ∈ A) := by
  intro n
  induction n using Nat.strongRecOn with
  | _ n IH =>
  intro A B hn
  cases A with
  | nil => simp [nil_uni, nil_int, nil_dif]
  | cons x a =>
    cases B with
    | nil => simp [uni_nil, int_nil, dif_nil]
    | cons y b =>
      simp only [List.length_cons] at hn
      by_cases h1 : cmpLE x y < 0
      · obtain ⟨k1, k2, k3⟩ := IH (a.length + (y :: b).length) (by simp; omega) a (y :: b) rfl
        rw [uniE, intE, difE, if_pos h1, if_pos h1, if_pos h1]
        refine ⟨fun z hz => ?_, fun z hz => .tail _ (k2 z hz), fun z hz => ?_⟩
        · rcases List.mem_cons.1 hz with h | h
          · exact .inl (by simp [h])
          · rcases k1 z h with h | h
            · exact .inl (.tail _ h)
            · exact .inr h
        · rcases List.mem_cons.1 hz with h | h
          · simp [h]
          · exact .tail _ (k3 z h)
      · by_cases h2 : cmpLE y x < 0
        · obtain ⟨k1, k2, k3⟩ := IH ((x :: a).length + b.length) (by simp; omega) (x :: a) b rfl
          rw [uniE, intE, difE, if_neg h1, if_neg h1, if_neg h1, if_pos h2, if_pos h2, if_pos h2]
          refine ⟨fun z hz => ?_, k2, k3⟩
          rcases List.mem_cons.1 hz with h | h
          · exact .inr (by simp [h])
          · rcases k1 z h with h | h
            · exact .inl h
            · exact .inr (.tail _ h)
        · obtain ⟨k1, k2, k3⟩ := IH (a.length + b.length) (by omega) a b rfl
          rw [uniE, intE, difE, if_neg h1, if_neg h1, if_neg h1, if_neg h2, if_neg h2, if_neg h2]
          refine ⟨fun z hz => ?_, fun z hz => ?_, fun z hz => .tail _ (k3 z hz)⟩
          · rcases List.mem_cons.1 hz with h | h
            · exact .inr (by simp [h])
            · rcases k1 z h with h | h
              · exact .inl (.tail _ h)
              · exact .inr (.tail _ h)
          · rcases List.mem_cons.1 hz with h | h
            · simp [h]
            · exact .tail _ (k2 z h)
def esOf (l : List EV) : List LE := (mkE l).map toLE
theorem esOf_len {l : List EV} (h : ∀ e ∈ l, GoodE e) : (esOf l).length ≤ l.length := by simpa [esOf] using (mkE_sort _ l rfl h).2
theorem esOf_fits {l : List EV} (h : ∀ e ∈ l, GoodE e) : ∀ x ∈ esOf l, fitsLE x ∧ shortLE x := fun x hx => by
  obtain ⟨y, hy, rfl⟩ := List.mem_map.1 (show x ∈ (mkE l).map toLE from hx)
  have := mkE_good h y hy
  exact ⟨this.f.le, short_of this.s.hl⟩
theorem toEs_a (l : List EV) (hl : l.length * 168 ≤ 140737488351232) (hg : ∀ e ∈ l, GoodE e) : ACalls Tryz.prog 95 [.c (.d (dPath l))] (fun r => r = .c (.d (.pt [dLPath (esOf l)]))) := toElemSet_a l hl hg
theorem setUnion_a (a b : List EV) (la : a.length ≤ 2147483647) (lb : b.length ≤ 2147483647) (ha : ∀ e ∈ a, GoodE e) (hb : ∀ e ∈ b, GoodE e) :
    ACalls Tryz.prog 40 [.c (.d (dPath a)), .c (.d (dPath b))] (fun r => r = .c (.d (dPath ((uniE (esOf a) (esOf b)).map fromLE)))) := by
  have c1 := toEs_a a (by omega) ha
  have c2 := toEs_a b (by omega) hb
  have l1 := esOf_len ha
  have l2 := esOf_len hb
  have f1 := esOf_fits ha
  have f2 := esOf_fits hb
  have hu := uni_int _ (esOf a) (esOf b) rfl
  have hm := mem_ops _ (esOf a) (esOf b) rfl
  have c3 := esUnion_a (esOf a) (esOf b) (by omega) (fun x h => (f1 x h).1) (fun x h => (f2 x h).1)
  have c4 := fromElemSet_a (uniE (esOf a) (esOf b)) (by omega) (fun x h => (hm.1 x h).elim (f1 x) (f2 x))
  generalize esOf a = A at *
  generalize esOf b = B at *
  refine acalls_ex [] Tryz.func40 (by kernel_rfl) rfl Tryz.ntmps40 Tryz.results40 (Nat.le_of_ble_eq_true (by kernel_rfl)) ?_; intro hok w0 S0
  clear hok
  (repeat' (first | (with_reducible refine br_d (fun _ => ?_) (fun _ => ?_)) | (with_reducible refine br_i (fun _ => ?_) (fun _ => ?_)) | (with_reducible refine nd_v (c1) (by first | rfl | (simp -dsimp; done)) ?_) | (with_reducible refine nw_v (c1) rfl (by first | rfl | (simp -dsimp; done)) (by first | rfl | (simp -dsimp; done)) ?_) | (with_reducible refine nd_v (c2) (by first | rfl | (simp -dsimp; done)) ?_) | (with_reducible refine nw_v (c2) rfl (by first | rfl | (simp -dsimp; done)) (by first | rfl | (simp -dsimp; done)) ?_) | (with_reducible refine nd_v (c3) (by first | rfl | (simp -dsimp; done)) ?_) | (with_reducible refine nw_v (c3) rfl (by first | rfl | (simp -dsimp; done)) (by first | rfl | (simp -dsimp; done)) ?_) | (with_reducible refine nd_v (c4) (by first | rfl | (simp -dsimp; done)) ?_) | (with_reducible refine nw_v (c4) rfl (by first | rfl | (simp -dsimp; done)) (by first | rfl | (simp -dsimp; done)) ?_) | (with_reducible refine dn_i follows_any (by kernel_rfl) ?_) | (with_reducible exact done_eq rfl) | (simp -dsimp))); (all_goals try with_reducible refine done_eq ?_)
theorem setInt_a (a b : List EV) (la : a.length ≤ 2147483647) (lb : b.length ≤ 2147483647) (ha : ∀ e ∈ a, GoodE e) (hb : ∀ e ∈ b, GoodE e) :
    ACalls Tryz.prog 41 [.c (.d (dPath a)), .c (.d (dPath b))] (fun r => r = .c (.d (dPath ((intE (esOf a) (esOf b)).map fromLE)))) := by
  have c1 := toEs_a a (by omega) ha
  have c2 := toEs_a b (by omega) hb
  have l1 := esOf_len ha
  have l2 := esOf_len hb
  have f1 := esOf_fits ha
  have f2 := esOf_fits hb
  have hu := uni_int _ (esOf a) (esOf b) rfl
  have hm := mem_ops _ (esOf a) (esOf b) rfl
  have c3 := esIntersection_a (esOf a) (esOf b) (by omega) (fun x h => (f1 x h).1) (fun x h => (f2 x h).1)
  have c4 := fromElemSet_a (intE (esOf a) (esOf b)) (by omega) (fun x h => f1 x (hm.2.1 x h))
  generalize esOf a = A at *
  generalize esOf b = B at *
  refine acalls_ex [] Tryz.func41 (by kernel_rfl) rfl Tryz.ntmps41 Tryz.results41 (Nat.le_of_ble_eq_true (by kernel_rfl)) ?_; intro hok w0 S0
  clear hok
  (repeat' (first | (with_reducible refine br_d (fun _ => ?_) (fun _ => ?_)) | (with_reducible refine br_i (fun _ => ?_) (fun _ => ?_)) | (with_reducible refine nd_v (c1) (by first | rfl | (simp -dsimp; done)) ?_) | (with_reducible refine nw_v (c1) rfl (by first | rfl | (simp -dsimp; done)) (by first | rfl | (simp -dsimp; done)) ?_) | (with_reducible refine nd_v (c2) (by first | rfl | (simp -dsimp; done)) ?_) | (with_reducible refine nw_v (c2) rfl (by first | rfl | (simp -dsimp; done)) (by first | rfl | (simp -dsimp; done)) ?_) | (with_reducible refine nd_v (c3) (by first | rfl | (simp -dsimp; done)) ?_) | (with_reducible refine nw_v (c3) rfl (by first | rfl | (simp -dsimp; done)) (by first | rfl | (simp -dsimp; done)) ?_) | (with_reducible refine nd_v (c4) (by first | rfl | (simp -dsimp; done)) ?_) | (with_reducible refine nw_v (c4) rfl (by first | rfl | (simp -dsimp; done)) (by first | rfl | (simp -dsimp; done)) ?_) | (with_reducible refine dn_i follows_any (by kernel_rfl) ?_) | (with_reducible exact done_eq rfl) | (simp -dsimp))); (all_goals try with_reducible refine done_eq ?_)
theorem setDif_a (a b : List EV) (la : a.length ≤ 2147483647) (lb : b.length ≤ 2147483647) (ha : ∀ e ∈ a, GoodE e) (hb : ∀ e ∈ b, GoodE e) :
    ACalls Tryz.prog 42 [.c (.d (dPath a)), .c (.d (dPath b))] (fun r => r = .c (.d (dPath ((difE (esOf a) (esOf b)).map fromLE)))) := by
  have c1 := toEs_a a (by omega) ha
  have c2 := toEs_a b (by omega) hb
  have l1 := esOf_len ha
  have l2 := esOf_len hb
  have f1 := esOf_fits ha
  have f2 := esOf_fits hb
  have hu := uni_int _ (esOf a) (esOf b) rfl
  have hm := mem_ops _ (esOf a) (esOf b) rfl
  have c3 := esDifference_a (esOf a) (esOf b) (by omega) (fun x h => (f1 x h).1) (fun x h => (f2 x h).1)
  have c4 := fromElemSet_a (difE (esOf a) (esOf b)) (by omega) (fun x h => f1 x (hm.2.2 x h))
  generalize esOf a = A at *
  generalize esOf b = B at *
  refine acalls_ex [] Tryz.func42 (by kernel_rfl) rfl Tryz.ntmps42 Tryz.results42 (Nat.le_of_ble_eq_true (by kernel_rfl)) ?_; intro hok w0 S0
  clear hok
  (repeat' (first | (with_reducible refine br_d (fun _ => ?_) (fun _ => ?_)) | (with_reducible refine br_i (fun _ => ?_) (fun _ => ?_)) | (with_reducible refine nd_v (c1) (by first | rfl | (simp -dsimp; done)) ?_) | (with_reducible refine nw_v (c1) rfl (by first | rfl | (simp -dsimp; done)) (by first | rfl | (simp -dsimp; done)) ?_) | (with_reducible refine nd_v (c2) (by first | rfl | (simp -dsimp; done)) ?_) | (with_reducible refine nw_v (c2) rfl (by first | rfl | (simp -dsimp; done)) (by first | rfl | (simp -dsimp; done)) ?_) | (with_reducible refine nd_v (c3) (by first | rfl | (simp -dsimp; done)) ?_) | (with_reducible refine nw_v (c3) rfl (by first | rfl | (simp -dsimp; done)) (by first | rfl | (simp -dsimp; done)) ?_) | (with_reducible refine nd_v (c4) (by first | rfl | (simp -dsimp; done)) ?_) | (with_reducible refine nw_v (c4) rfl (by first | rfl | (simp -dsimp; done)) (by first | rfl | (simp -dsimp; done)) ?_) | (with_reducible refine dn_i follows_any (by kernel_rfl) ?_) | (with_reducible exact done_eq rfl) | (simp -dsimp))); (all_goals try with_reducible refine done_eq ?_)
theorem setSize_a (a : List EV) (la : a.length ≤ 2147483647) (ha : ∀ e ∈ a, GoodE e) : ACalls Tryz.prog 43 [.c (.d (dPath a))] (fun r => r = aI (esOf a).length) := by
  have c1 := toEs_a a (by omega) ha
  have l1 := esOf_len ha
  have c2 := esSize_a (esOf a) (by omega)
  generalize esOf a = A at *
  refine acalls_ex [] Tryz.func43 (by kernel_rfl) rfl Tryz.ntmps43 Tryz.results43 (Nat.le_of_ble_eq_true (by kernel_rfl)) ?_; intro hok w0 S0
  clear hok
  (repeat' (first | (with_reducible refine br_d (fun _ => ?_) (fun _ => ?_)) | (with_reducible refine br_i (fun _ => ?_) (fun _ => ?_)) | (with_reducible refine nd_v (c1) (by first | rfl | (simp -dsimp; done)) ?_) | (with_reducible refine nw_v (c1) rfl (by first | rfl | (simp -dsimp; done)) (by first | rfl | (simp -dsimp; done)) ?_) | (with_reducible refine nd_v (c2) (by first | rfl | (simp -dsimp; done)) ?_) | (with_reducible refine nw_v (c2) rfl (by first | rfl | (simp -dsimp; done)) (by first | rfl | (simp -dsimp; done)) ?_) | (with_reducible refine dn_i follows_any (by kernel_rfl) ?_) | (with_reducible exact done_eq rfl) | (simp -dsimp))); (all_goals try with_reducible refine done_eq ?_)
end Go.Smd
end
section
set_option linter.unusedSimpArgs false
set_option maxRecDepth 100000
set_option maxHeartbeats 8000000
namespace Go.Smd
open Go.RowKit Go.Proofs
def CE (e : EV) : EV :=
  if e.k = 1 then ⟨1, ⟨#[]⟩, e.keys.take (min e.keys.length e.l.length), (e.l.take (min e.keys.length e.l.length)).map clean, zGV, 0⟩
  else if e.k = 2 then ⟨2, ⟨#[]⟩, [], [], clean e.v, 0⟩
  else if e.k = 3 then ⟨3, ⟨#[]⟩, [], [], zGV, e.n⟩
  else ⟨0, e.s, [], [], zGV, 0⟩
theorem cleanElem_a (e : EV) (hk : e.keys.length * 16 ≤ 140737488351232) (hl : e.l.length * 88 ≤ 140737488351232) : ACalls Tryz.prog 58 [evA e] (fun r => r = evA (CE e)) := by
  obtain ⟨k, s, keys, l, ⟨a, b, c, d, e, f⟩, n⟩ := e
  dsimp only at hk hl
  obtain ⟨m, hm⟩ : ∃ m : Nat, m = min keys.length l.length := ⟨_, rfl⟩
  obtain ⟨a1, a2, a3, a4, a5, a6, hcl⟩ : ∃ a1 a2 a3 a4 a5 a6, clean (.mk a b c d e f) = .mk a1 a2 a3 a4 a5 a6 := by cases clean (.mk a b c d e f); exact ⟨_, _, _, _, _, _, rfl⟩
  have hc := clean_a (.mk a b c d e f)
  rw [hcl, gvA_x, gvA_x] at hc
  have hCE : evA (CE ⟨k, s, keys, l, .mk a b c d e f, n⟩) = if k = 1 then evX 1 ⟨#[]⟩ (keys.take m) ((l.take m).map clean) 0 0 0 ⟨#[]⟩ [] [] 0 else if k = 2 then evX 2 ⟨#[]⟩ [] [] a1 a2 a3 a4 a5 a6 0 else if k = 3 then evX 3 ⟨#[]⟩ [] [] 0 0 0 ⟨#[]⟩ [] [] n else evX 0 s [] [] 0 0 0 ⟨#[]⟩ [] [] 0 := by
    unfold CE
    simp only [zGV, hcl, ← hm]
    repeat' split
    all_goals rw [evA_x]
  rw [hCE, evA_x]
  refine acalls_ex [(4, ([10], [(1, []), (2, []), (3, []), (4, []), (6, []), (7, []), (8, []), (9, []), (0, []), (5, []), (10, []), (11, []), (12, [])]))] Tryz.func58 (by kernel_rfl) rfl Tryz.ntmps58 Tryz.results58 (Nat.le_of_ble_eq_true (by kernel_rfl)) ?_; intro hok w0 S0
  clear hok
  have b1 : keys.length ≤ 9223372036854775807 := by omega
  have b2 : l.length ≤ 9223372036854775807 := by omega
  have hmin : min (keys.length : Int) (l.length : Int) = (m : Int) := by omega
  have hm1 : m ≤ keys.length := by omega
  have hm2 : m ≤ l.length := by omega
  have hp := plainList_a (l.take m) (by simp; omega)
  rw [show dGVs (l.take m) = .sl 31 ((l.map gvD).take m) by rw [dGVs, List.map_take]] at hp
  have hr : m * 16 ≤ 140737488351232 := by omega
  (repeat' (first | (with_reducible refine br_d (fun _ => ?_) (fun _ => ?_)) | (with_reducible refine br_i (fun _ => ?_) (fun _ => ?_)) | (with_reducible refine nd_v (hc) (by first | rfl | (simp -dsimp [b1, b2, toDs, hmin, hm1, hm2, hr]; done)) ?_) | (with_reducible refine nw_v (hc) rfl (by first | rfl | (simp -dsimp [b1, b2, toDs, hmin, hm1, hm2, hr]; done)) (by first | rfl | (simp -dsimp [b1, b2, toDs, hmin, hm1, hm2, hr]; done)) ?_) | (with_reducible refine nd_v (hp) (by first | rfl | (simp -dsimp [b1, b2, toDs, hmin, hm1, hm2, hr]; done)) ?_) | (with_reducible refine nw_v (hp) rfl (by first | rfl | (simp -dsimp [b1, b2, toDs, hmin, hm1, hm2, hr]; done)) (by first | rfl | (simp -dsimp [b1, b2, toDs, hmin, hm1, hm2, hr]; done)) ?_) | (with_reducible refine dn_i follows_any (by kernel_rfl) ?_) | (with_reducible exact done_eq rfl) | (simp -dsimp [b1, b2, toDs, hmin, hm1, hm2, hr]))); (all_goals try with_reducible refine done_eq ?_)
  · rename_i h
    rw [if_pos h]
    simp only [evX, dStrs, dGVs, rowS, List.map_take]; rfl
  · rename_i h1 h2
    rw [if_neg h1, if_pos h2]
    try rfl
  · rename_i h1 h2 h3
    rw [if_neg h1, if_neg h2, if_pos h3]
    try rfl
  · rename_i h1 h2 h3
    rw [if_neg h1, if_neg h2, if_neg h3]
    try rfl
end Go.Smd
end
section
set_option linter.unusedSimpArgs false
set_option maxRecDepth 100000
set_option maxHeartbeats 8000000
namespace Go.Smd
open Go.RowKit Go.Proofs
theorem CE_bounds (e : EV) (h : EVs e) : (CE e).keys.length * 16 ≤ 140737488351232 ∧ (CE e).l.length * 88 ≤ 140737488351232 := by
  have h1 := h.hk
  have h2 := h.hl
  unfold CE
  split
  · simp; omega
  · split
    · simp
    · split <;> simp
theorem CE_oe (e : EV) (h1 : orderly (CE e).v = true) (h2 : (CE e).l.all orderly = true) : OE e := by
  refine ⟨fun hk p hp => ?_, fun hk => ?_⟩
  · have k1 : e.k = 1 := by unfold rkE at hk; split at hk <;> omega
    unfold CE at h2
    rw [if_pos k1] at h2
    obtain ⟨i, hi, rfl⟩ := List.getElem_of_mem hp
    rw [List.length_zip] at hi
    rw [List.getElem_zip]
    refine List.all_eq_true.1 h2 _ (List.mem_map.2 ⟨_, ?_, rfl⟩)
    exact List.mem_take_iff_getElem.2 ⟨i, by omega, rfl⟩
  · have k1 : e.k = 2 := by unfold rkE at hk; split at hk <;> omega
    unfold CE at h1
    rw [if_neg (by omega), if_pos k1] at h1
    exact h1
theorem orderlyElem_g (e : EV) (h : EVs e) : ACalls Tryz.prog 16 [evA e] (fun r => ∃ b, r = aV (.bool b) ∧ (b = true → OE e)) := by
  have hc := cleanElem_a e h.hk h.hl
  obtain ⟨hk2, hl2⟩ := CE_bounds e h
  have hO := CE_oe e
  obtain ⟨k2, s2, ks2, l2, a2, b2, c2, d2, e2, f2, n2, hC⟩ : ∃ k s keys l a b c d e' f n, CE e = ⟨k, s, keys, l, .mk a b c d e' f, n⟩ := by
    obtain ⟨k, s, keys, l, ⟨a, b, c, d, e', f⟩, n⟩ := CE e
    exact ⟨_, _, _, _, _, _, _, _, _, _, _, rfl⟩
  rw [hC] at hk2 hl2 hO hc
  dsimp only at hk2 hl2 hO
  have ho := orderly_a (.mk a2 b2 c2 d2 e2 f2)
  have hv := orderlyValues_v l2 hl2
  have hs := keySorted_x k2 s2 ks2 l2 a2 b2 c2 d2 e2 f2 n2 hk2 hl2
  generalize orderly (.mk a2 b2 c2 d2 e2 f2) = o1 at ho hO
  generalize l2.all orderly = o2 at hv hO
  obtain ⟨k, s, keys, l, ⟨a, b, c, d, p, f⟩, n⟩ := e
  rw [gvA_x] at ho
  rw [evA_x] at hc ⊢
  rw [evA_x] at hc
  cases o1 <;> cases o2
  all_goals
    refine acalls_ex [] Tryz.func16 (by kernel_rfl) rfl Tryz.ntmps16 Tryz.results16 (Nat.le_of_ble_eq_true (by kernel_rfl)) ?_; intro hok w0 S0
    clear hok
    (repeat' (first | (with_reducible refine br_d (fun _ => ?_) (fun _ => ?_)) | (with_reducible refine br_i (fun _ => ?_) (fun _ => ?_)) | (with_reducible refine nd_v (hc) (by first | rfl | (simp -dsimp; done)) ?_) | (with_reducible refine nw_v (hc) rfl (by first | rfl | (simp -dsimp; done)) (by first | rfl | (simp -dsimp; done)) ?_) | (with_reducible refine nd_v (ho) (by first | rfl | (simp -dsimp; done)) ?_) | (with_reducible refine nw_v (ho) rfl (by first | rfl | (simp -dsimp; done)) (by first | rfl | (simp -dsimp; done)) ?_) | (with_reducible refine nd_v (hv) (by first | rfl | (simp -dsimp; done)) ?_) | (with_reducible refine nw_v (hv) rfl (by first | rfl | (simp -dsimp; done)) (by first | rfl | (simp -dsimp; done)) ?_) | ((with_reducible refine nd_c (hs) (by first | rfl | (simp -dsimp; done)) ?_); rintro _ ⟨x, rfl⟩ _) | ((with_reducible refine nw_c (hs) rfl (by first | rfl | (simp -dsimp; done)) (by first | rfl | (simp -dsimp; done)) ?_); rintro _ ⟨x, rfl⟩ _) | (with_reducible refine dn_i follows_any (by kernel_rfl) ?_) | (with_reducible exact done_eq rfl) | (simp -dsimp))); (all_goals try with_reducible refine done_eq ?_)
  all_goals exact done_of ⟨_, rfl, fun h => by first | exact hO rfl rfl | cases h⟩
theorem orderlyPaths_g (L : List (List EV)) (hl : L.length ≤ 4000000000000) (hL : ∀ p ∈ L, p.length * 168 ≤ 140737488351232 ∧ ∀ e ∈ p, EVs e) : ACalls Tryz.prog 11 [.c (.d (dPaths L))] (fun r => ∃ b, r = aV (.bool b) ∧ (b = true → ∀ p ∈ L, ∀ e ∈ p, OE e)) := by
  refine acalls_ex [] Tryz.func11 (by kernel_rfl) rfl Tryz.ntmps11 Tryz.results11 (Nat.le_of_ble_eq_true (by kernel_rfl)) ?_; intro hok w0 S0
  clear hok
  have b1 : L.length ≤ 9223372036854775807 := by omega
  (repeat' (first | (with_reducible refine br_d (fun _ => ?_) (fun _ => ?_)) | (with_reducible refine br_i (fun _ => ?_) (fun _ => ?_)) | (with_reducible refine dn_i follows_any (by kernel_rfl) ?_) | (with_reducible exact done_eq rfl) | (simp -dsimp [b1]))); (all_goals try with_reducible refine done_eq ?_)
  refine ex_loop (fun i : Nat => ⟨[(7, .c (.d (dPaths L))), (8, aI L.length), (9, aI i)], []⟩) (fun i => i ≤ L.length ∧ ∀ p ∈ L.take i, ∀ e ∈ p, OE e) (fun i => L.length - i) 0 ?_ ⟨Nat.zero_le _, by simp⟩ ?_
  · exact Weak.same (by simp -dsimp) (by simp -dsimp) (by first | rfl | (simp [closedSt, Av.ids, Ow.ids, Cl.ids, Go.Smd.keys]; done))
  · rintro i ⟨hi, hdone⟩ K hK
    by_cases hlt : i < L.length
    · have hw : IntKind.wrap .i64 ((i : Int) + 1) = ((i + 1 : Nat) : Int) := by rw [wrap_i64] <;> omega
      obtain ⟨hp1, hp2⟩ := hL _ (List.getElem_mem hlt)
      have b2 : L[i].length ≤ 9223372036854775807 := by omega
      (repeat' (first | (with_reducible refine br_d (fun _ => ?_) (fun _ => ?_)) | (with_reducible refine br_i (fun _ => ?_) (fun _ => ?_)) | (with_reducible refine dn_i follows_any (by kernel_rfl) ?_) | (with_reducible exact done_eq rfl) | (simp -dsimp [b1, hlt, b2]))); (all_goals try with_reducible refine done_eq ?_)
      refine ex_loop (fun j : Nat => ⟨[(7, .c (.d (dPaths L))), (8, aI L.length), (9, aI i), (13, .c (.d (dPath L[i]))), (14, aI L[i].length), (15, aI j)], []⟩) (fun j => j ≤ L[i].length ∧ ∀ e ∈ L[i].take j, OE e) (fun j => L[i].length - j) 0 ?_ ⟨Nat.zero_le _, by simp⟩ ?_
      · exact Weak.same (by simp -dsimp) (by simp -dsimp) (by first | rfl | (simp [closedSt, Av.ids, Ow.ids, Cl.ids, Go.Smd.keys]; done))
      · rintro j ⟨hj, hd2⟩ K2 hK2
        by_cases hlt2 : j < L[i].length
        · have hw2 : IntKind.wrap .i64 ((j : Int) + 1) = ((j + 1 : Nat) : Int) := by rw [wrap_i64] <;> omega
          have hc := orderlyElem_g _ (hp2 _ (List.getElem_mem hlt2))
          (repeat' (first | (with_reducible refine br_d (fun _ => ?_) (fun _ => ?_)) | (with_reducible refine br_i (fun _ => ?_) (fun _ => ?_)) | ((with_reducible refine nd_c (hc) (by first | rfl | (simp -dsimp [b2, hlt2, hw2]; done)) ?_); rintro _ ⟨x, rfl, hx⟩ _) | ((with_reducible refine nw_c (hc) rfl (by first | rfl | (simp -dsimp [b2, hlt2, hw2]; done)) (by first | rfl | (simp -dsimp [b2, hlt2, hw2]; done)) ?_); rintro _ ⟨x, rfl, hx⟩ _) | (with_reducible refine dn_i follows_any (by kernel_rfl) ?_) | (with_reducible exact done_eq rfl) | (simp -dsimp [b2, hlt2, hw2]))); (all_goals try with_reducible refine done_eq ?_)
          · exact done_of ⟨_, rfl, fun h => by cases h⟩
          · rename_i h0
            refine hK2 _ (j + 1) ?_ ⟨by omega, fun e he => ?_⟩ (by omega)
            · exact Weak.same (by simp -dsimp) (by simp -dsimp) (by first | rfl | (simp [closedSt, Av.ids, Ow.ids, Cl.ids, Go.Smd.keys]; done))
            · rw [List.take_succ_eq_append_getElem hlt2] at he
              rcases List.mem_append.1 he with he | he
              · exact hd2 e he
              · simp at he; subst he; exact hx (by simpa using h0)
        · (repeat' (first | (with_reducible refine br_d (fun _ => ?_) (fun _ => ?_)) | (with_reducible refine br_i (fun _ => ?_) (fun _ => ?_)) | (with_reducible refine dn_i follows_any (by kernel_rfl) ?_) | (with_reducible exact done_eq rfl) | (simp -dsimp [hlt2, hw]))); (all_goals try with_reducible refine done_eq ?_)
          refine hK _ (i + 1) ?_ ⟨by omega, fun p hp => ?_⟩ (by omega)
          · exact Weak.same (by simp -dsimp) (by simp -dsimp) (by first | rfl | (simp [closedSt, Av.ids, Ow.ids, Cl.ids, Go.Smd.keys]; done))
          · rw [List.take_succ_eq_append_getElem hlt] at hp
            rcases List.mem_append.1 hp with hp | hp
            · exact hdone p hp
            · simp at hp; subst hp
              rw [List.take_of_length_le (by omega)] at hd2
              exact hd2
    · (repeat' (first | (with_reducible refine br_d (fun _ => ?_) (fun _ => ?_)) | (with_reducible refine br_i (fun _ => ?_) (fun _ => ?_)) | (with_reducible refine dn_i follows_any (by kernel_rfl) ?_) | (with_reducible exact done_eq rfl) | (simp -dsimp [hlt]))); (all_goals try with_reducible refine done_eq ?_)
      rw [List.take_of_length_le (by omega)] at hdone
      exact done_of ⟨_, rfl, fun _ => hdone⟩
theorem tame_g (l : List EV) (hl : l.length * 168 ≤ 140737488351232) (hg : ∀ e ∈ l, EVs e) : ACalls Tryz.prog 93 [.c (.d (dPath l))] (fun r => ∃ b, r = aV (.bool b) ∧ (b = true → ∀ e ∈ l, OE e)) := by
  have h := orderlyPaths_g [l] (by simp) (by simp; exact ⟨hl, hg⟩)
  simp only [dPaths, List.map_cons, List.map_nil] at h
  refine acalls_ex [] Tryz.func93 (by kernel_rfl) rfl Tryz.ntmps93 Tryz.results93 (Nat.le_of_ble_eq_true (by kernel_rfl)) ?_; intro hok w0 S0
  clear hok
  (repeat' (first | (with_reducible refine br_d (fun _ => ?_) (fun _ => ?_)) | (with_reducible refine br_i (fun _ => ?_) (fun _ => ?_)) | ((with_reducible refine nd_c (h) (by first | rfl | (simp -dsimp [toDs]; done)) ?_); rintro _ ⟨x, rfl, hx⟩ _) | ((with_reducible refine nw_c (h) rfl (by first | rfl | (simp -dsimp [toDs]; done)) (by first | rfl | (simp -dsimp [toDs]; done)) ?_); rintro _ ⟨x, rfl, hx⟩ _) | (with_reducible refine dn_i follows_any (by kernel_rfl) ?_) | (with_reducible exact done_eq rfl) | (simp -dsimp [toDs]))); (all_goals try with_reducible refine done_eq ?_)
  all_goals exact done_of ⟨_, rfl, fun h => hx h l (by simp)⟩
theorem tameElems_g (l : List EV) (hl : l.length * 168 ≤ 140737488351232) (hg : ∀ e ∈ l, EVs e) : ACalls Tryz.prog 39 [.c (.d (dPath l))] (fun r => ∃ b, r = aV (.bool b) ∧ (b = true → ∀ e ∈ l, OE e)) := by
  have h := tame_g l hl hg
  refine acalls_ex [] Tryz.func39 (by kernel_rfl) rfl Tryz.ntmps39 Tryz.results39 (Nat.le_of_ble_eq_true (by kernel_rfl)) ?_; intro hok w0 S0
  clear hok
  (repeat' (first | (with_reducible refine br_d (fun _ => ?_) (fun _ => ?_)) | (with_reducible refine br_i (fun _ => ?_) (fun _ => ?_)) | ((with_reducible refine nd_c (h) (by first | rfl | (simp -dsimp; done)) ?_); rintro _ ⟨x, rfl, hx⟩ _) | ((with_reducible refine nw_c (h) rfl (by first | rfl | (simp -dsimp; done)) (by first | rfl | (simp -dsimp; done)) ?_); rintro _ ⟨x, rfl, hx⟩ _) | (with_reducible refine dn_i follows_any (by kernel_rfl) ?_) | (with_reducible exact done_eq rfl) | (simp -dsimp))); (all_goals try with_reducible refine done_eq ?_)
  all_goals exact done_of ⟨_, rfl, fun h => hx h⟩
end Go.Smd
end
section
set_option linter.unusedSimpArgs false
set_option maxRecDepth 100000
set_option maxHeartbeats 8000000
namespace Go.Smd
open Go.RowKit Go.Proofs
theorem eqPs_self {L : List GV} (hL : ∀ x ∈ L, eqP x x = true) : eqPs L L = true :=
  (eqPs_iff rfl).2 fun i x y hx hy => by rw [hx] at hy; cases hy; exact hL x (List.mem_of_getElem? hx)
theorem eqP_clean (g : GV) : orderly (clean g) = true → eqP (clean g) (clean g) = true := by
  induction g using GV.ind with
  | h kind n f s keys l IH =>
  intro h
  have hl : ∀ x ∈ cleans l, orderly x = true → eqP x x = true := fun x hx => by
    rw [cleans_eq] at hx
    obtain ⟨y, hy, rfl⟩ := List.mem_map.1 hx
    exact IH y hy
  simp only [clean] at h ⊢
  by_cases k1 : kind = 1
  · simp only [if_pos k1]; simp [eqP, eqPs, numK]
  simp only [if_neg k1] at h ⊢
  by_cases k2 : kind = 2
  · simp only [if_pos k2]; simp [eqP, eqPs, numK]
  simp only [if_neg k2] at h ⊢
  by_cases k3 : kind = 3
  · simp only [if_pos k3] at h ⊢
    simp [orderly] at h
    simp [eqP, eqPs, numK, asF, eqFl, h]
  simp only [if_neg k3] at h ⊢
  by_cases k4 : kind = 4
  · simp only [if_pos k4]; simp [eqP, eqPs, numK]
  simp only [if_neg k4] at h ⊢
  by_cases k5 : kind = 5
  · simp only [if_pos k5] at h ⊢
    have ho := orderly_items h (.inl rfl)
    have := eqPs_self (L := cleans l) fun x hx => hl x hx (ho x hx)
    simp [eqP, numK, this]
  simp only [if_neg k5] at h ⊢
  by_cases k6 : kind = 6
  · simp only [if_pos k6] at h ⊢
    have ho := orderly_items h (.inr rfl)
    have hv : ∀ p ∈ insAll keys (cleans l) [], orderly p.2 = true → eqP p.2 p.2 = true := fun p hp => insAll_vals keys (cleans l) [] (fun x => orderly x = true → eqP x x = true) hl (by simp) .nil p hp
    have := eqPs_self (L := (insAll keys (cleans l) []).map (·.2)) fun x hx => by
      obtain ⟨p, hp, rfl⟩ := List.mem_map.1 hx
      exact hv p hp (ho _ (by simp only [mkMap, gL]; exact hx))
    simp [mkMap, eqP, numK, this]
  · simp only [if_neg k6]; simp [eqP, eqPs, numK]
theorem eqEl_self (e : EV) (ho : OE e) : eqEl e e = true := by
  have key : ∀ l : List (ByteArray × GV), (∀ p ∈ l, OG p.2) → eqPr l l = true := fun l => by
    induction l with
    | nil => intro _; rfl
    | cons p l ih =>
      intro h
      simp only [eqPr, decide_true, Bool.true_and]
      rw [eqP_clean _ (h p (by simp)), ih fun q hq => h q (by simp [hq])]
      rfl
  unfold eqEl
  rw [if_neg (by simp)]
  split
  · next h => exact key _ (ho.key h)
  · split
    · next h => exact eqP_clean _ (ho.val h)
    · split <;> simp
theorem eqLE_self (e : EV) (h : GoodE e) : eqLE (toLE e) (toLE e) = true := by rw [eqLE_eqEl e e h.f h.f]; exact eqEl_self e h.o
theorem hasE_iff {e : EV} (he : OE e) {S : List EV} (hS : ∀ x ∈ S, OE x) (hs : SortE S) : hasE e S ↔ ∃ x ∈ S, cmpEl x e = 0 := by
  constructor
  · rintro ⟨x, hx, h⟩
    exact ⟨x, List.mem_of_getElem? hx, h⟩
  · rintro ⟨x, hx, h⟩
    obtain ⟨j, hj, rfl⟩ := List.getElem_of_mem hx
    have h1 : lbE e S ≤ j := Nat.le_of_not_lt fun hlt => by have := lbE_lo e S j hj hlt; omega
    rcases Nat.lt_or_eq_of_le h1 with h2 | h2
    · have hb : lbE e S < S.length := by omega
      have h3 := lbE_hi e he S hS hs (lbE e S) hb (Nat.le_refl _)
      have h4 := List.pairwise_iff_getElem.1 hs (lbE e S) j hb hj h2
      have h5 := cmpEl_ord.lt_le (hS _ (List.getElem_mem hb)) (hS _ (List.getElem_mem hj)) he h4 (by omega)
      omega
    · exact ⟨S[j], by rw [h2]; simp [hj], h⟩
theorem mem_insE_of {e y : EV} : ∀ {S : List EV}, y ∈ S → y ∈ insE e S
  | [], h => by cases h
  | x :: r, h => by
    simp only [insE]
    split
    · rcases List.mem_cons.1 h with h | h
      · simp [h]
      · exact .tail _ (mem_insE_of h)
    · split
      · exact h
      · exact .tail _ h
theorem insE_has {e : EV} (he : OE e) : ∀ S : List EV, ∃ x ∈ insE e S, cmpEl x e = 0
  | [] => ⟨e, by simp [insE], cmpEl_ord.refl he⟩
  | x :: r => by
    simp only [insE]
    split
    · obtain ⟨y, hy, h⟩ := insE_has he r
      exact ⟨y, .tail _ hy, h⟩
    · split
      · next h => exact ⟨x, by simp, h⟩
      · exact ⟨e, by simp, cmpEl_ord.refl he⟩
theorem mkE_has : ∀ (n : Nat) (l : List EV), l.length = n → (∀ e ∈ l, GoodE e) → ∀ e ∈ l, ∃ x ∈ mkE l, cmpEl x e = 0
  | 0, l, h, _, e, he => by cases l with | nil => cases he | cons _ _ => simp at h
  | n + 1, l, h, hg, e, he => by
    obtain ⟨m, d, rfl⟩ : ∃ m d, l = m ++ [d] := ⟨l.dropLast, l.getLast (by intro h0; rw [h0] at h; simp at h), (List.dropLast_concat_getLast _).symm⟩
    rw [mkE_snoc]
    rcases List.mem_append.1 he with he | he
    · obtain ⟨x, hx, h0⟩ := mkE_has n m (by simpa using h) (fun x hx => hg x (by simp [hx])) e he
      exact ⟨x, mem_insE_of hx, h0⟩
    · simp at he; subst he
      exact insE_has (hg _ (by simp)).o _
theorem mkE_again {l : List EV} (hg : ∀ e ∈ l, GoodE e) : ∀ m : List EV, (∀ e ∈ m, e ∈ l) → mkE (l ++ m) = mkE l := by
  have hs := (mkE_sort _ l rfl hg).1
  have hS := mkE_good hg
  intro m hm
  have : ∀ m : List EV, (∀ e ∈ m, e ∈ l) → m.foldl (fun S e => insE e S) (mkE l) = mkE l := fun m => by
    induction m with
    | nil => intro _; rfl
    | cons e m ih =>
      intro hm
      simp only [List.foldl_cons]
      rw [insE_found e _ ((hasE_iff (hg e (hm e (by simp))).o (fun x hx => (hS x hx).o) hs).2 (mkE_has _ l rfl hg e (hm e (by simp))))]
      exact ih fun x hx => hm x (by simp [hx])
  show (l ++ m).foldl _ [] = _
  rw [List.foldl_append]
  exact this m hm
end Go.Smd
end
section
set_option linter.unusedSimpArgs false
namespace Go.Smd
open Go.RowKit Go.Proofs Go.ChangeShapes Go.WideShapes Go.Deep
theorem cells_at {w : World} {base : Nat} {a : Addr} {n : Nat} {cs : List Value} (h : w.cells? base a n = some cs) : CellsAt w a cs := fun i u hu => by
  obtain ⟨_, hl, hc⟩ := World.cells?_some h
  rw [hc i (by rw [← hl]; exact (List.getElem?_eq_some_iff.1 hu).1)]; exact hu
def Light (l : List Nat) : Prop := ∀ x ∈ l, x ≤ 140737488351232
theorem Light.append {l m : List Nat} (h : Light (l ++ m)) : Light l ∧ Light m := ⟨fun x hx => h x (List.mem_append_left _ hx), fun x hx => h x (List.mem_append_right _ hx)⟩
theorem Light.all {H : Type} {P : Program} {e : TypeId} : ∀ {ds : List (DataW H)}, Light (DataW.weightsAll P e ds) → ∀ d ∈ ds, Light (d.weights P e)
  | [], _, d, hd => by simp at hd
  | d0 :: ds, h, d, hd => by
    simp only [DataW.weightsAll] at h
    rcases List.mem_cons.1 hd with rfl | hd
    · exact h.append.1
    · exact Light.all h.append.2 d hd
section
variable {H : Type} {enc : TypeId × Value → H} {w : World} {held : Bool}
theorem open_strs {P : Program} {t e : TypeId} (ht : P.underlying t = some (.slice e)) (he : P.underlying e = some .string) (hc : P.cellsOf e = 1) (hb : P.bytesOf e = 16) {fuel : Nat} {cs : List Value} {x : DataW H × List MemPlace}
    (h : DataW.trod enc P w 0 (fun _ => true) held fuel t cs = some x) (hw : Light (x.1.weights P t)) :
    ∃ A c ss, cs = [.slice A (List.length ss) c] ∧ ss.length ≤ c ∧ RepStrs (fun _ => True) w A ss ∧ ss.length * 16 ≤ 140737488351232 ∧ ∀ s ∈ ss, s.size ≤ 140737488351232 := by
  rcases open_slice1 ht hc h with ⟨rfl, rfl⟩ | ⟨a, len, cap, m, n, V, D, Pl, rfl, _, hl, _, hm, rfl, hx⟩
  · exact ⟨none, 0, [], rfl, Nat.zero_le _, RowOf.nil, by simp, by simp⟩
  · have hm' : m = cap := by simpa using hm
    subst hm'
    have key : ∀ i : Nat, ∃ s : ByteArray, i < m → V i = .string s ∧ D i = .lit (.string s.data.toList) := fun i => by
      by_cases hi : i < m
      · obtain ⟨s, h1, h2, _⟩ := DataW.trod_string he (hx i hi).2
        exact ⟨s, fun _ => ⟨by simpa using h1, congrArg Prod.fst h2⟩⟩
      · exact ⟨⟨#[]⟩, fun h => absurd h hi⟩
    let F : Nat → ByteArray := fun i => Classical.choose (key i)
    have hF : ∀ i, i < m → V i = .string (F i) ∧ D i = .lit (.string (F i).data.toList) := fun i hi => Classical.choose_spec (key i) hi
    have hlen : ((List.range len).map F).length = len := by simp
    simp only [DataW.weights, ht, hb, List.length_map, List.length_range] at hw
    have hw1 : (len + (m - len)) * 16 ≤ 140737488351232 := hw _ (List.mem_cons_self ..)
    have hw2 : Light (DataW.weightsAll P e ((List.range len).map D)) := fun x hx => hw x (List.mem_cons_of_mem _ (List.mem_append_left _ hx))
    refine ⟨some a, m, (List.range len).map F, by rw [hlen], by rw [hlen]; exact hl, fun j x hj => ?_, by rw [hlen]; omega, fun s hs => ?_⟩
    · rw [List.getElem?_map] at hj
      obtain ⟨i, hi, rfl⟩ := Option.map_eq_some_iff.1 hj
      obtain ⟨hlt, rfl⟩ := List.getElem?_eq_some_iff.1 hi
      simp only [List.length_range] at hlt
      simp only [List.getElem_range]
      refine ⟨a, [V j], rfl, trivial, by rw [(hF j (by omega)).1]; rfl, rfl, fun i u hu => ?_⟩
      match i, hu with
      | 0, hu =>
        simp at hu; subst hu
        have := (hx j (by omega)).1
        simpa [Addr.add] using this
    · obtain ⟨i, hi, rfl⟩ := List.mem_map.1 hs
      have hi' : i < len := by simpa using hi
      have := Light.all hw2 (D i) (List.mem_map.2 ⟨i, hi, rfl⟩)
      rw [(hF i (by omega)).2] at this
      simp only [DataW.weights] at this
      have := this _ (List.mem_singleton_self _)
      rw [ByteArray.size, Array.size_eq_length_toList]; exact this
theorem trod_float {P : Program} {t : TypeId} {k : FloatKind} {fuel : Nat} {cs : List Value} {x : DataW H × List MemPlace} (ht : P.underlying t = some (.float k)) (h : DataW.trod enc P w 0 (fun _ => true) held fuel t cs = some x) : ∃ n, cs = [.float k n] ∧ x = (.lit (.float k n), []) ∧ (Lit.float k n).wf = true := by
  cases fuel with
  | zero => simp [DataW.trod] at h
  | succ n =>
    unfold DataW.trod at h
    rw [ht] at h
    split at h <;> simp_all
set_option maxRecDepth 100000 in
theorem open_val : ∀ (fuel : Nat) (cs : List Value) (x : DataW H × List MemPlace), DataW.trod enc Tryz.prog w 0 (fun _ => true) held fuel 31 cs = some x → Light (x.1.weights Tryz.prog 31) →
    ∃ v, RepGV (fun _ => True) w v cs := by
  intro fuel
  induction fuel using Nat.strongRecOn with
  | _ fuel IH =>
  intro cs x h hw
  obtain ⟨xs, n, rfl, rfl, hlen, hxl, hf⟩ := DataW.trod_struct Tryz.underlying31 h
  have e6 : Tryz.prog.cellsOf 31 = 6 := by kernel_rfl
  have e1 : Tryz.prog.cellsOf 3 = 1 := by kernel_rfl
  have e2 : Tryz.prog.cellsOf 2 = 1 := by kernel_rfl
  have e3 : Tryz.prog.cellsOf 29 = 1 := by kernel_rfl
  have e4 : Tryz.prog.cellsOf 9 = 1 := by kernel_rfl
  have e5 : Tryz.prog.cellsOf 28 = 1 := by kernel_rfl
  have e7 : Tryz.prog.cellsOf 27 = 1 := by kernel_rfl
  rw [e6] at hlen
  match cs, hlen with
  | [c0, c1, c2, c3, c4, c5], _ =>
  match xs, hxl with
  | [x0, x1, x2, x3, x4, x5], _ =>
  have f0 : DataW.trod enc Tryz.prog w 0 (fun _ => true) held n 3 (([c0, c1, c2, c3, c4, c5].drop 0).take (Tryz.prog.cellsOf 3)) = some x0 := hf 0 _ rfl
  rw [e1] at f0
  change DataW.trod enc Tryz.prog w 0 (fun _ => true) held n 3 [c0] = some x0 at f0
  have f1 : DataW.trod enc Tryz.prog w 0 (fun _ => true) held n 2 (([c0, c1, c2, c3, c4, c5].drop 1).take (Tryz.prog.cellsOf 2)) = some x1 := hf 1 _ rfl
  rw [e2] at f1
  change DataW.trod enc Tryz.prog w 0 (fun _ => true) held n 2 [c1] = some x1 at f1
  have f2 : DataW.trod enc Tryz.prog w 0 (fun _ => true) held n 29 (([c0, c1, c2, c3, c4, c5].drop 2).take (Tryz.prog.cellsOf 29)) = some x2 := hf 2 _ rfl
  rw [e3] at f2
  change DataW.trod enc Tryz.prog w 0 (fun _ => true) held n 29 [c2] = some x2 at f2
  have f3 : DataW.trod enc Tryz.prog w 0 (fun _ => true) held n 9 (([c0, c1, c2, c3, c4, c5].drop 3).take (Tryz.prog.cellsOf 9)) = some x3 := hf 3 _ rfl
  rw [e4] at f3
  change DataW.trod enc Tryz.prog w 0 (fun _ => true) held n 9 [c3] = some x3 at f3
  have f4 : DataW.trod enc Tryz.prog w 0 (fun _ => true) held n 28 (([c0, c1, c2, c3, c4, c5].drop 4).take (Tryz.prog.cellsOf 28)) = some x4 := hf 4 _ rfl
  rw [e5] at f4
  change DataW.trod enc Tryz.prog w 0 (fun _ => true) held n 28 [c4] = some x4 at f4
  have f5 : DataW.trod enc Tryz.prog w 0 (fun _ => true) held n 27 (([c0, c1, c2, c3, c4, c5].drop 5).take (Tryz.prog.cellsOf 27)) = some x5 := hf 5 _ rfl
  rw [e7] at f5
  change DataW.trod enc Tryz.prog w 0 (fun _ => true) held n 27 [c5] = some x5 at f5
  obtain ⟨kind, h0, hx0, hr0⟩ := DataW.trod_int Tryz.underlying3 f0
  obtain ⟨N, h1, hx1, hr1⟩ := DataW.trod_int Tryz.underlying2 f1
  obtain ⟨F, h2, hx2, hr2⟩ := trod_float Tryz.underlying29 f2
  obtain ⟨s, h3, hx3, hr3⟩ := DataW.trod_string Tryz.underlying9 f3
  simp only [List.cons.injEq, and_true] at h0 h1 h2 h3
  subst h0; subst h1; subst h2; subst h3
  simp only [List.map_cons, List.map_nil, DataW.weights, Tryz.underlying31, DataW.weightsEach] at hw
  have hw : Light (DataW.weights Tryz.prog 3 x0.1 ++ (DataW.weights Tryz.prog 2 x1.1 ++ (DataW.weights Tryz.prog 29 x2.1 ++ (DataW.weights Tryz.prog 9 x3.1 ++ (DataW.weights Tryz.prog 28 x4.1 ++ (DataW.weights Tryz.prog 27 x5.1 ++ [])))))) := hw
  have w3 := hw.append.2.append.2.append.2.append.1
  have w4 := hw.append.2.append.2.append.2.append.2.append.1
  have w5 := hw.append.2.append.2.append.2.append.2.append.2.append.1
  obtain ⟨ka, kc, keys, hk, hkc, hkr, hk16, hks⟩ := open_strs Tryz.underlying28 Tryz.underlying9 e4 (by kernel_rfl) f4 w4
  simp only [List.cons.injEq, and_true] at hk
  subst hk
  have hss : s.size ≤ 140737488351232 := by
    rw [hx3] at w3
    simp only [DataW.weights] at w3
    have := w3 _ (List.mem_singleton_self _)
    rw [ByteArray.size, Array.size_eq_length_toList]; exact this
  have okk : ∀ {l : List GV}, l.length * 88 ≤ 140737488351232 → GVok kind N F s keys l := fun hl => by
    refine ⟨?_, ?_, ?_, hss, hk16, hks, hl⟩
    · have := hr0; simp [Lit.wf, IntKind.min, IntKind.max, IntKind.signed, IntKind.bits] at this; omega
    · have := hr1; simp [Lit.wf, IntKind.min, IntKind.max, IntKind.signed, IntKind.bits] at this; omega
    · have := hr2; simp [Lit.wf] at this; omega
  rcases DataW.trod_slice Tryz.underlying27 f5 with ⟨h5, rfl⟩ | ⟨a, len, cap, elems, rest, n', rfl, h5, rfl, _, hl, _, hlen5, hel, _, _⟩
  · simp only [List.cons.injEq, and_true] at h5
    subst h5
    exact ⟨.mk kind N F s keys [], RepGV.close (l := []) (okk (by simp)) hkc (Nat.zero_le _) hkr RowOf.nil⟩
  · simp only [List.cons.injEq, and_true] at h5
    subst h5
    have hb : Tryz.prog.bytesOf 31 = 88 := by kernel_rfl
    simp only [DataW.weights, Tryz.underlying27, List.length_map, hb, hlen5] at w5
    have hw1 : (len + rest.length) * 88 ≤ 140737488351232 := w5 _ (List.mem_cons_self ..)
    have hw2 : Light (DataW.weightsAll Tryz.prog 31 (elems.map (·.1))) := fun x hx => w5 x (List.mem_cons_of_mem _ (List.mem_append_left _ hx))
    have key : ∀ j : Nat, ∃ p : GV × List Value, j < len → CellsAt w (a.add (j * 6)) p.2 ∧ RepGV (fun _ => True) w p.1 p.2 := fun j => by
      by_cases hj : j < len
      · have he := hel j hj
        rw [e6] at he
        obtain ⟨y, hy⟩ : ∃ y, elems[j]? = some y := ⟨elems[j]'(by omega), List.getElem?_eq_getElem _⟩
        rw [hy] at he
        obtain ⟨cs', hc, ht⟩ := Option.bind_eq_some_iff.1 he
        obtain ⟨v, hv⟩ := IH n' (by omega) cs' y ht (Light.all hw2 y.1 (List.mem_map.2 ⟨y, List.mem_of_getElem? hy, rfl⟩))
        exact ⟨(v, cs'), fun _ => ⟨cells_at hc, hv⟩⟩
      · exact ⟨(.mk 0 0 0 ⟨#[]⟩ [] [], []), fun h => absurd h hj⟩
    let G : Nat → GV × List Value := fun j => Classical.choose (key j)
    have hG : ∀ j, j < len → CellsAt w (a.add (j * 6)) (G j).2 ∧ RepGV (fun _ => True) w (G j).1 (G j).2 := fun j hj => Classical.choose_spec (key j) hj
    have hlenl : ((List.range len).map fun j => (G j).1).length = len := by simp
    refine ⟨.mk kind N F s keys ((List.range len).map fun j => (G j).1), ?_⟩
    have := RepGV.close (S := fun _ => True) (w := w) (la := some a) (lc := cap) (okk (l := (List.range len).map fun j => (G j).1) (by rw [hlenl]; omega)) hkc (by rw [hlenl]; exact hl) hkr (fun j x hj => by
      rw [List.getElem?_map] at hj
      obtain ⟨i, hi, rfl⟩ := Option.map_eq_some_iff.1 hj
      obtain ⟨hlt, rfl⟩ := List.getElem?_eq_some_iff.1 hi
      simp only [List.length_range] at hlt
      simp only [List.getElem_range]
      exact ⟨a, (G j).2, rfl, trivial, (hG j hlt).2, (hG j hlt).2.length, (hG j hlt).1⟩)
    rw [hlenl] at this
    exact this
end
end Go.Smd
end
