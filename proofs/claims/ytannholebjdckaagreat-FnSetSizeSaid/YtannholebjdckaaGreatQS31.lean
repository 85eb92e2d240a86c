/- Part 31 of the proof: Pb Jj Ex Ez Ga Jk Open Law. -/
import Derived.Test.YtannholebjdckaaGreatQS30
import Derived.Test.YtannholebjdckaaGreatQS27
import Derived.Test.YtannholebjdckaaGreatQS26
import Derived.Test.YtannholebjdckaaGreatQS01
import Derived.Deep.Slices
import Derived.ProofKit
import Derived.Test.YtannholebjdckaaGreatRows
set_option linter.unusedVariables false
section
set_option linter.unusedSimpArgs false
set_option maxRecDepth 100000
set_option maxHeartbeats 8000000
namespace Go.Smd
open Go.RowKit Go.Proofs
def CE (e : EV) : EV :=
  if e.k = 1 then ⟨1, ⟨#[]⟩, e.keys.take (min e.keys.length e.l.length), (e.l.take (min e.keys.length e.l.length)).map clean, zGV, 0⟩
  else if e.k = 2 then ⟨2, ⟨#[]⟩, [], [], clean e.v, 0⟩
  else if e.k = 3 then ⟨3, ⟨#[]⟩, [], [], zGV, e.n⟩
  else ⟨0, e.s, [], [], zGV, 0⟩
theorem cleanElem_a (e : EV) (hk : e.keys.length * 16 ≤ 140737488351232) (hl : e.l.length * 88 ≤ 140737488351232) : ACalls Tryz.prog 58 [evA e] (fun r => r = evA (CE e)) := by
  obtain ⟨k, s, keys, l, ⟨a, b, c, d, e, f⟩, n⟩ := e
  dsimp only at hk hl
  obtain ⟨m, hm⟩ : ∃ m : Nat, m = min keys.length l.length := ⟨_, rfl⟩
  obtain ⟨a1, a2, a3, a4, a5, a6, hcl⟩ : ∃ a1 a2 a3 a4 a5 a6, clean (.mk a b c d e f) = .mk a1 a2 a3 a4 a5 a6 := by cases clean (.mk a b c d e f); exact ⟨_, _, _, _, _, _, rfl⟩
  have hc := clean_a (.mk a b c d e f)
  rw [hcl, gvA_x, gvA_x] at hc
  have hCE : evA (CE ⟨k, s, keys, l, .mk a b c d e f, n⟩) = if k = 1 then evX 1 ⟨#[]⟩ (keys.take m) ((l.take m).map clean) 0 0 0 ⟨#[]⟩ [] [] 0 else if k = 2 then evX 2 ⟨#[]⟩ [] [] a1 a2 a3 a4 a5 a6 0 else if k = 3 then evX 3 ⟨#[]⟩ [] [] 0 0 0 ⟨#[]⟩ [] [] n else evX 0 s [] [] 0 0 0 ⟨#[]⟩ [] [] 0 := by
    unfold CE
    simp only [zGV, hcl, ← hm]
    repeat' split
    all_goals rw [evA_x]
  rw [hCE, evA_x]
  refine acalls_ex [(4, ([10], [(1, []), (2, []), (3, []), (4, []), (6, []), (7, []), (8, []), (9, []), (0, []), (5, []), (10, []), (11, []), (12, [])]))] Tryz.func58 (by kernel_rfl) rfl Tryz.ntmps58 Tryz.results58 (Nat.le_of_ble_eq_true (by kernel_rfl)) ?_; intro hok w0 S0
  clear hok
  have b1 : keys.length ≤ 9223372036854775807 := by omega
  have b2 : l.length ≤ 9223372036854775807 := by omega
  have hmin : min (keys.length : Int) (l.length : Int) = (m : Int) := by omega
  have hm1 : m ≤ keys.length := by omega
  have hm2 : m ≤ l.length := by omega
  have hp := plainList_a (l.take m) (by simp; omega)
  rw [show dGVs (l.take m) = .sl 31 ((l.map gvD).take m) by rw [dGVs, List.map_take]] at hp
  have hr : m * 16 ≤ 140737488351232 := by omega
  (repeat' (first | (with_reducible refine br_d (fun _ => ?_) (fun _ => ?_)) | (with_reducible refine br_i (fun _ => ?_) (fun _ => ?_)) | (with_reducible refine nd_v (hc) (by first | rfl | (simp -dsimp [b1, b2, toDs, hmin, hm1, hm2, hr]; done)) ?_) | (with_reducible refine nw_v (hc) rfl (by first | rfl | (simp -dsimp [b1, b2, toDs, hmin, hm1, hm2, hr]; done)) (by first | rfl | (simp -dsimp [b1, b2, toDs, hmin, hm1, hm2, hr]; done)) ?_) | (with_reducible refine nd_v (hp) (by first | rfl | (simp -dsimp [b1, b2, toDs, hmin, hm1, hm2, hr]; done)) ?_) | (with_reducible refine nw_v (hp) rfl (by first | rfl | (simp -dsimp [b1, b2, toDs, hmin, hm1, hm2, hr]; done)) (by first | rfl | (simp -dsimp [b1, b2, toDs, hmin, hm1, hm2, hr]; done)) ?_) | (with_reducible refine dn_i follows_any (by kernel_rfl) ?_) | (with_reducible exact done_eq rfl) | (simp -dsimp [b1, b2, toDs, hmin, hm1, hm2, hr]))); (all_goals try with_reducible refine done_eq ?_)
  · rename_i h
    rw [if_pos h]
    simp only [evX, dStrs, dGVs, rowS, List.map_take]; rfl
  · rename_i h1 h2
    rw [if_neg h1, if_pos h2]
    try rfl
  · rename_i h1 h2 h3
    rw [if_neg h1, if_neg h2, if_pos h3]
    try rfl
  · rename_i h1 h2 h3
    rw [if_neg h1, if_neg h2, if_neg h3]
    try rfl
end Go.Smd
end
section
set_option linter.unusedSimpArgs false
set_option maxRecDepth 100000
set_option maxHeartbeats 8000000
namespace Go.Smd
open Go.RowKit Go.Proofs
def wcmp : List EV → List EV → Int
  | [], [] => 0
  | [], _ :: _ => -1
  | _ :: _, [] => 1
  | a :: u, b :: z => if cmpEl a b = 0 then wcmp u z else if u.isEmpty = z.isEmpty then cmpEl a b else if u.isEmpty = true then -1 else 1
def wrow : List EV → List (Int × EV)
  | [] => []
  | a :: u => ((if u.isEmpty = true then 0 else 1), a) :: wrow u
def cmpW (x y : Int × EV) : Int := if cmpI x.1 y.1 ≠ 0 then cmpI x.1 y.1 else cmpEl x.2 y.2
theorem wcmp_row : ∀ p q : List EV, wcmp p q = cmpRow cmpW (wrow p) (wrow q)
  | [], [] => rfl
  | [], _ :: _ => rfl
  | _ :: _, [] => rfl
  | a :: u, b :: z => by
    simp only [wcmp, wrow, cmpRow, cmpW, wcmp_row u z]
    by_cases h : cmpEl a b = 0
    · rw [if_pos h]
      cases u <;> cases z <;> simp [h, cmpI, wrow, cmpRow]
    · rw [if_neg h]
      cases u <;> cases z <;> simp [h, cmpI]
abbrev OPth (p : List EV) : Prop := ∀ e ∈ p, OE e
theorem wrow_mem : ∀ {p : List EV} {x : Int × EV}, x ∈ wrow p → x.2 ∈ p
  | [], _, h => by simp [wrow] at h
  | a :: u, x, h => by
    simp only [wrow] at h
    rcases List.mem_cons.1 h with rfl | h
    · simp
    · exact List.mem_cons_of_mem _ (wrow_mem h)
theorem wcmp_ord : Ord3 OPth wcmp := by
  have h1 : Ord3 (fun x : Int × EV => OE x.2) (fun x y => cmpI x.1 y.1) := (cmpI_ord.comap (fun x : Int × EV => x.1)).mono fun _ _ => trivial
  have h2 : Ord3 (fun x : Int × EV => OE x.2) (fun x y => cmpEl x.2 y.2) := cmpEl_ord.comap (fun x : Int × EV => x.2)
  have h3 : Ord3 (fun x : Int × EV => OE x.2) cmpW := h1.lex (fun x y hx hy _ => h2.anti x y hx hy) fun x y z hx hy hz _ _ => h2.trans x y z hx hy hz
  have h4 := (h3.row.comap wrow).mono (O' := OPth) fun p hp x hx => hp _ (wrow_mem hx)
  exact h4.congr fun p q _ _ => wcmp_row p q
theorem wcmp_end {p q : List EV} (h : p = [] ∨ q = []) : wcmp p q = cmpI (p.length : Int) q.length := by
  rw [wcmp_row, cmpRow_end (by rcases h with rfl | rfl <;> simp [wrow])]
  have : ∀ p : List EV, (wrow p).length = p.length := fun p => by induction p with | nil => rfl | cons a p ih => simp [wrow, ih]
  rw [this, this]
theorem cmpEl_CE (a b : EV) : cmpEl (CE a) b = cmpEl a b := by
  obtain ⟨k, s, keys, l, v, n⟩ := a
  have hz : ∀ {ks : List ByteArray} {l : List GV}, (ks.take (min ks.length l.length)).zip ((l.take (min ks.length l.length)).map clean) = (ks.zip l).map fun p => (p.1, clean p.2) := fun {ks} => by
    induction ks with
    | nil => intro l; simp
    | cons k ks ih =>
      intro l
      cases l with
      | nil => simp
      | cons x l =>
        have hm : min (k :: ks).length (x :: l).length = min ks.length l.length + 1 := by simp only [List.length_cons]; omega
        rw [hm]; simp only [List.take_succ_cons, List.map_cons, List.zip_cons_cons, ih]
  have hr : ∀ A B : List (ByteArray × GV), cmpRow cmpGF (A.map fun p => (p.1, clean p.2)) B = cmpRow cmpGF A B := fun A => by
    induction A with
    | nil => intro B; simp
    | cons x A ih =>
      intro B
      cases B with
      | nil => simp [cmpRow]
      | cons y B => simp [cmpRow, cmpGF, clean_idem, ih]
  simp only [CE]
  by_cases h1 : k = 1
  · subst h1
    simp only [if_true, cmpEl, rkE, hz, hr]
    simp
  · by_cases h2 : k = 2
    · subst h2
      simp [cmpEl, rkE, clean_idem]
    · by_cases h3 : k = 3
      · subst h3
        simp [cmpEl, rkE]
      · simp [cmpEl, rkE, h1, h2, h3]
abbrev cP (p : List EV) : List EV := p.map CE
theorem wcmp_cP : ∀ p q : List EV, wcmp (cP p) q = wcmp p q
  | [], [] => rfl
  | [], _ :: _ => rfl
  | _ :: _, [] => rfl
  | a :: u, b :: z => by
    have ih := wcmp_cP u z
    simp only [cP] at ih
    simp only [cP, List.map_cons, wcmp, cmpEl_CE, ih, List.isEmpty_map]
end Go.Smd
end
section
set_option linter.unusedSimpArgs false
set_option maxRecDepth 100000
set_option maxHeartbeats 8000000
namespace Go.Smd
open Go.RowKit Go.Proofs
theorem evD_x (k : Int) (s : ByteArray) (keys : List ByteArray) (l : List GV) (a b : Int) (c : Nat) (d : ByteArray) (e : List ByteArray) (f : List GV) (n : Int) : evD ⟨k, s, keys, l, .mk a b c d e f, n⟩ = [dI k, dS s, dStrs keys, dGVs l, dI a, dI b, dF c, dS d, dStrs e, dGVs f, dI n] := by
  simp only [evD, gvD_mk, List.cons_append, List.nil_append]
end Go.Smd
end
section
set_option linter.unusedSimpArgs false
set_option maxRecDepth 100000
set_option maxHeartbeats 8000000
namespace Go.Smd
open Go.RowKit Go.Proofs
theorem CE_bounds (e : EV) (h : EVs e) : (CE e).keys.length * 16 ≤ 140737488351232 ∧ (CE e).l.length * 88 ≤ 140737488351232 := by
  have h1 := h.hk
  have h2 := h.hl
  unfold CE
  split
  · simp; omega
  · split
    · simp
    · split <;> simp
theorem CE_oe (e : EV) (h1 : orderly (CE e).v = true) (h2 : (CE e).l.all orderly = true) : OE e := by
  refine ⟨fun hk p hp => ?_, fun hk => ?_⟩
  · have k1 : e.k = 1 := by unfold rkE at hk; split at hk <;> omega
    unfold CE at h2
    rw [if_pos k1] at h2
    obtain ⟨i, hi, rfl⟩ := List.getElem_of_mem hp
    rw [List.length_zip] at hi
    rw [List.getElem_zip]
    refine List.all_eq_true.1 h2 _ (List.mem_map.2 ⟨_, ?_, rfl⟩)
    exact List.mem_take_iff_getElem.2 ⟨i, by omega, rfl⟩
  · have k1 : e.k = 2 := by unfold rkE at hk; split at hk <;> omega
    unfold CE at h1
    rw [if_neg (by omega), if_pos k1] at h1
    exact h1
theorem orderlyElem_g (e : EV) (h : EVs e) : ACalls Tryz.prog 16 [evA e] (fun r => ∃ b, r = aV (.bool b) ∧ (b = true → OE e)) := by
  have hc := cleanElem_a e h.hk h.hl
  obtain ⟨hk2, hl2⟩ := CE_bounds e h
  have hO := CE_oe e
  obtain ⟨k2, s2, ks2, l2, a2, b2, c2, d2, e2, f2, n2, hC⟩ : ∃ k s keys l a b c d e' f n, CE e = ⟨k, s, keys, l, .mk a b c d e' f, n⟩ := by
    obtain ⟨k, s, keys, l, ⟨a, b, c, d, e', f⟩, n⟩ := CE e
    exact ⟨_, _, _, _, _, _, _, _, _, _, _, rfl⟩
  rw [hC] at hk2 hl2 hO hc
  dsimp only at hk2 hl2 hO
  have ho := orderly_a (.mk a2 b2 c2 d2 e2 f2)
  have hv := orderlyValues_v l2 hl2
  have hs := keySorted_x k2 s2 ks2 l2 a2 b2 c2 d2 e2 f2 n2 hk2 hl2
  generalize orderly (.mk a2 b2 c2 d2 e2 f2) = o1 at ho hO
  generalize l2.all orderly = o2 at hv hO
  obtain ⟨k, s, keys, l, ⟨a, b, c, d, p, f⟩, n⟩ := e
  rw [gvA_x] at ho
  rw [evA_x] at hc ⊢
  rw [evA_x] at hc
  cases o1 <;> cases o2
  all_goals
    refine acalls_ex [] Tryz.func16 (by kernel_rfl) rfl Tryz.ntmps16 Tryz.results16 (Nat.le_of_ble_eq_true (by kernel_rfl)) ?_; intro hok w0 S0
    clear hok
    (repeat' (first | (with_reducible refine br_d (fun _ => ?_) (fun _ => ?_)) | (with_reducible refine br_i (fun _ => ?_) (fun _ => ?_)) | (with_reducible refine nd_v (hc) (by first | rfl | (simp -dsimp; done)) ?_) | (with_reducible refine nw_v (hc) rfl (by first | rfl | (simp -dsimp; done)) (by first | rfl | (simp -dsimp; done)) ?_) | (with_reducible refine nd_v (ho) (by first | rfl | (simp -dsimp; done)) ?_) | (with_reducible refine nw_v (ho) rfl (by first | rfl | (simp -dsimp; done)) (by first | rfl | (simp -dsimp; done)) ?_) | (with_reducible refine nd_v (hv) (by first | rfl | (simp -dsimp; done)) ?_) | (with_reducible refine nw_v (hv) rfl (by first | rfl | (simp -dsimp; done)) (by first | rfl | (simp -dsimp; done)) ?_) | ((with_reducible refine nd_c (hs) (by first | rfl | (simp -dsimp; done)) ?_); rintro _ ⟨x, rfl⟩ _) | ((with_reducible refine nw_c (hs) rfl (by first | rfl | (simp -dsimp; done)) (by first | rfl | (simp -dsimp; done)) ?_); rintro _ ⟨x, rfl⟩ _) | (with_reducible refine dn_i follows_any (by kernel_rfl) ?_) | (with_reducible exact done_eq rfl) | (simp -dsimp))); (all_goals try with_reducible refine done_eq ?_)
  all_goals exact done_of ⟨_, rfl, fun h => by first | exact hO rfl rfl | cases h⟩
theorem orderlyPaths_g (L : List (List EV)) (hl : L.length ≤ 4000000000000) (hL : ∀ p ∈ L, p.length * 168 ≤ 140737488351232 ∧ ∀ e ∈ p, EVs e) : ACalls Tryz.prog 11 [.c (.d (dPaths L))] (fun r => ∃ b, r = aV (.bool b) ∧ (b = true → ∀ p ∈ L, ∀ e ∈ p, OE e)) := by
  refine acalls_ex [] Tryz.func11 (by kernel_rfl) rfl Tryz.ntmps11 Tryz.results11 (Nat.le_of_ble_eq_true (by kernel_rfl)) ?_; intro hok w0 S0
  clear hok
  have b1 : L.length ≤ 9223372036854775807 := by omega
  (repeat' (first | (with_reducible refine br_d (fun _ => ?_) (fun _ => ?_)) | (with_reducible refine br_i (fun _ => ?_) (fun _ => ?_)) | (with_reducible refine dn_i follows_any (by kernel_rfl) ?_) | (with_reducible exact done_eq rfl) | (simp -dsimp [b1]))); (all_goals try with_reducible refine done_eq ?_)
  refine ex_loop (fun i : Nat => ⟨[(7, .c (.d (dPaths L))), (8, aI L.length), (9, aI i)], []⟩) (fun i => i ≤ L.length ∧ ∀ p ∈ L.take i, ∀ e ∈ p, OE e) (fun i => L.length - i) 0 ?_ ⟨Nat.zero_le _, by simp⟩ ?_
  · exact Weak.same (by simp -dsimp) (by simp -dsimp) (by first | rfl | (simp [closedSt, Av.ids, Ow.ids, Cl.ids, Go.Smd.keys]; done))
  · rintro i ⟨hi, hdone⟩ K hK
    by_cases hlt : i < L.length
    · have hw : IntKind.wrap .i64 ((i : Int) + 1) = ((i + 1 : Nat) : Int) := by rw [wrap_i64] <;> omega
      obtain ⟨hp1, hp2⟩ := hL _ (List.getElem_mem hlt)
      have b2 : L[i].length ≤ 9223372036854775807 := by omega
      (repeat' (first | (with_reducible refine br_d (fun _ => ?_) (fun _ => ?_)) | (with_reducible refine br_i (fun _ => ?_) (fun _ => ?_)) | (with_reducible refine dn_i follows_any (by kernel_rfl) ?_) | (with_reducible exact done_eq rfl) | (simp -dsimp [b1, hlt, b2]))); (all_goals try with_reducible refine done_eq ?_)
      refine ex_loop (fun j : Nat => ⟨[(7, .c (.d (dPaths L))), (8, aI L.length), (9, aI i), (13, .c (.d (dPath L[i]))), (14, aI L[i].length), (15, aI j)], []⟩) (fun j => j ≤ L[i].length ∧ ∀ e ∈ L[i].take j, OE e) (fun j => L[i].length - j) 0 ?_ ⟨Nat.zero_le _, by simp⟩ ?_
      · exact Weak.same (by simp -dsimp) (by simp -dsimp) (by first | rfl | (simp [closedSt, Av.ids, Ow.ids, Cl.ids, Go.Smd.keys]; done))
      · rintro j ⟨hj, hd2⟩ K2 hK2
        by_cases hlt2 : j < L[i].length
        · have hw2 : IntKind.wrap .i64 ((j : Int) + 1) = ((j + 1 : Nat) : Int) := by rw [wrap_i64] <;> omega
          have hc := orderlyElem_g _ (hp2 _ (List.getElem_mem hlt2))
          (repeat' (first | (with_reducible refine br_d (fun _ => ?_) (fun _ => ?_)) | (with_reducible refine br_i (fun _ => ?_) (fun _ => ?_)) | ((with_reducible refine nd_c (hc) (by first | rfl | (simp -dsimp [b2, hlt2, hw2]; done)) ?_); rintro _ ⟨x, rfl, hx⟩ _) | ((with_reducible refine nw_c (hc) rfl (by first | rfl | (simp -dsimp [b2, hlt2, hw2]; done)) (by first | rfl | (simp -dsimp [b2, hlt2, hw2]; done)) ?_); rintro _ ⟨x, rfl, hx⟩ _) | (with_reducible refine dn_i follows_any (by kernel_rfl) ?_) | (with_reducible exact done_eq rfl) | (simp -dsimp [b2, hlt2, hw2]))); (all_goals try with_reducible refine done_eq ?_)
          · exact done_of ⟨_, rfl, fun h => by cases h⟩
          · rename_i h0
            refine hK2 _ (j + 1) ?_ ⟨by omega, fun e he => ?_⟩ (by omega)
            · exact Weak.same (by simp -dsimp) (by simp -dsimp) (by first | rfl | (simp [closedSt, Av.ids, Ow.ids, Cl.ids, Go.Smd.keys]; done))
            · rw [List.take_succ_eq_append_getElem hlt2] at he
              rcases List.mem_append.1 he with he | he
              · exact hd2 e he
              · simp at he; subst he; exact hx (by simpa using h0)
        · (repeat' (first | (with_reducible refine br_d (fun _ => ?_) (fun _ => ?_)) | (with_reducible refine br_i (fun _ => ?_) (fun _ => ?_)) | (with_reducible refine dn_i follows_any (by kernel_rfl) ?_) | (with_reducible exact done_eq rfl) | (simp -dsimp [hlt2, hw]))); (all_goals try with_reducible refine done_eq ?_)
          refine hK _ (i + 1) ?_ ⟨by omega, fun p hp => ?_⟩ (by omega)
          · exact Weak.same (by simp -dsimp) (by simp -dsimp) (by first | rfl | (simp [closedSt, Av.ids, Ow.ids, Cl.ids, Go.Smd.keys]; done))
          · rw [List.take_succ_eq_append_getElem hlt] at hp
            rcases List.mem_append.1 hp with hp | hp
            · exact hdone p hp
            · simp at hp; subst hp
              rw [List.take_of_length_le (by omega)] at hd2
              exact hd2
    · (repeat' (first | (with_reducible refine br_d (fun _ => ?_) (fun _ => ?_)) | (with_reducible refine br_i (fun _ => ?_) (fun _ => ?_)) | (with_reducible refine dn_i follows_any (by kernel_rfl) ?_) | (with_reducible exact done_eq rfl) | (simp -dsimp [hlt]))); (all_goals try with_reducible refine done_eq ?_)
      rw [List.take_of_length_le (by omega)] at hdone
      exact done_of ⟨_, rfl, fun _ => hdone⟩
end Go.Smd
end
section
set_option linter.unusedSimpArgs false
set_option maxRecDepth 100000
set_option maxHeartbeats 8000000
namespace Go.Smd
open Go.RowKit Go.Proofs
theorem hasE_iff {e : EV} (he : OE e) {S : List EV} (hS : ∀ x ∈ S, OE x) (hs : SortE S) : hasE e S ↔ ∃ x ∈ S, cmpEl x e = 0 := by
  constructor
  · rintro ⟨x, hx, h⟩
    exact ⟨x, List.mem_of_getElem? hx, h⟩
  · rintro ⟨x, hx, h⟩
    obtain ⟨j, hj, rfl⟩ := List.getElem_of_mem hx
    have h1 : lbE e S ≤ j := Nat.le_of_not_lt fun hlt => by have := lbE_lo e S j hj hlt; omega
    rcases Nat.lt_or_eq_of_le h1 with h2 | h2
    · have hb : lbE e S < S.length := by omega
      have h3 := lbE_hi e he S hS hs (lbE e S) hb (Nat.le_refl _)
      have h4 := List.pairwise_iff_getElem.1 hs (lbE e S) j hb hj h2
      have h5 := cmpEl_ord.lt_le (hS _ (List.getElem_mem hb)) (hS _ (List.getElem_mem hj)) he h4 (by omega)
      omega
    · exact ⟨S[j], by rw [h2]; simp [hj], h⟩
theorem mem_insE_of {e y : EV} : ∀ {S : List EV}, y ∈ S → y ∈ insE e S
  | [], h => by cases h
  | x :: r, h => by
    simp only [insE]
    split
    · rcases List.mem_cons.1 h with h | h
      · simp [h]
      · exact .tail _ (mem_insE_of h)
    · split
      · exact h
      · exact .tail _ h
theorem insE_has {e : EV} (he : OE e) : ∀ S : List EV, ∃ x ∈ insE e S, cmpEl x e = 0
  | [] => ⟨e, by simp [insE], cmpEl_ord.refl he⟩
  | x :: r => by
    simp only [insE]
    split
    · obtain ⟨y, hy, h⟩ := insE_has he r
      exact ⟨y, .tail _ hy, h⟩
    · split
      · next h => exact ⟨x, by simp, h⟩
      · exact ⟨e, by simp, cmpEl_ord.refl he⟩
end Go.Smd
end
section
set_option linter.unusedSimpArgs false
set_option maxRecDepth 100000
set_option maxHeartbeats 8000000
namespace Go.Smd
open Go.RowKit Go.Proofs
section
variable {α : Type} {O : α → Prop} {c : α → α → Int}
def lbG (c : α → α → Int) (e : α) : List α → Nat
  | [] => 0
  | x :: r => if c x e < 0 then lbG c e r + 1 else 0
theorem lbG_le (e : α) : ∀ S : List α, lbG c e S ≤ S.length
  | [] => Nat.le_refl _
  | x :: r => by
    have := lbG_le e r
    simp only [lbG]
    split <;> simp <;> omega
theorem lbG_lo (e : α) : ∀ (S : List α) (j : Nat) (h : j < S.length), j < lbG c e S → c S[j] e < 0
  | [], j, h, _ => by simp at h
  | x :: r, j, h, k => by
    simp only [lbG] at k
    split at k
    · next hx =>
      cases j with
      | zero => exact hx
      | succ j => exact lbG_lo e r j (by simpa using h) (by omega)
    · omega
theorem lbG_hi (hO : Ord3 O c) {e : α} (he : O e) : ∀ (S : List α), (∀ x ∈ S, O x) → S.Pairwise (fun x y => c x y < 0) → ∀ (j : Nat) (h : j < S.length), lbG c e S ≤ j → 0 ≤ c S[j] e
  | [], _, _, j, h, _ => by simp at h
  | x :: r, ho, hs, j, h, k => by
    have hs := List.pairwise_cons.1 hs
    simp only [lbG] at k
    split at k
    · next hx =>
      cases j with
      | zero => omega
      | succ j => exact lbG_hi hO he r (fun y hy => ho y (by simp [hy])) hs.2 j (by simpa using h) (by omega)
    · next hx =>
      cases j with
      | zero => show 0 ≤ c x e; omega
      | succ j =>
        have hj : j < r.length := by simpa using h
        have h1 := hs.1 _ (List.getElem_mem hj)
        show 0 ≤ c r[j] e
        apply Classical.byContradiction
        intro hn
        exact hx (hO.lt_le (ho x (by simp)) (ho _ (by simp [List.getElem_mem hj])) he h1 (by omega))
theorem atG_iff (hO : Ord3 O c) {e : α} (he : O e) {S : List α} (ho : ∀ x ∈ S, O x) (hs : S.Pairwise fun x y => c x y < 0) : (∃ x, S[lbG c e S]? = some x ∧ c x e = 0) ↔ ∃ x ∈ S, c x e = 0 := by
  constructor
  · rintro ⟨x, h, h0⟩; exact ⟨x, List.mem_of_getElem? h, h0⟩
  · rintro ⟨x, hx, h0⟩
    obtain ⟨j, hj, rfl⟩ := List.getElem_of_mem hx
    have hlo : lbG c e S ≤ j := Nat.le_of_not_lt fun h => by have := lbG_lo e S j hj h; omega
    refine ⟨S[lbG c e S], List.getElem?_eq_getElem (by omega), ?_⟩
    have h1 := lbG_hi hO he S ho hs (lbG c e S) (by omega) (Nat.le_refl _)
    rcases Nat.lt_or_eq_of_le hlo with h | h
    · have h2 := List.pairwise_iff_getElem.1 hs (lbG c e S) j (by omega) hj h
      have := hO.lt_le (ho _ (List.getElem_mem _)) (ho _ (List.getElem_mem hj)) he h2 (by omega)
      omega
    · simp only [h]; exact h0
theorem insG_sort (hO : Ord3 O c) {e : α} (he : O e) {S : List α} (ho : ∀ x ∈ S, O x) (hs : S.Pairwise fun x y => c x y < 0) (hn : ¬ ∃ x ∈ S, c x e = 0) : (insAt (lbG c e S) e S).Pairwise fun x y => c x y < 0 := by
  unfold insAt
  have hsp : S = S.take (lbG c e S) ++ S.drop (lbG c e S) := (List.take_append_drop _ _).symm
  have h1 : ∀ x ∈ S.take (lbG c e S), c x e < 0 := fun x hx => by
    obtain ⟨j, hj, rfl⟩ := List.getElem_of_mem hx
    rw [List.length_take] at hj
    rw [List.getElem_take]
    exact lbG_lo e S j (by omega) (by omega)
  have h2 : ∀ x ∈ S.drop (lbG c e S), c e x < 0 := fun x hx => by
    have hxS := List.mem_of_mem_drop hx
    obtain ⟨j, hj, rfl⟩ := List.getElem_of_mem hx
    rw [List.length_drop] at hj
    have k := lbG_hi hO he S ho hs (lbG c e S + j) (by omega) (by omega)
    rw [List.getElem_drop] at hxS ⊢
    have a := hO.anti S[lbG c e S + j] e (ho _ hxS) he
    have : c S[lbG c e S + j] e ≠ 0 := fun h => hn ⟨_, hxS, h⟩
    omega
  rw [hsp, List.pairwise_append] at hs
  rw [List.pairwise_append, List.pairwise_cons]
  refine ⟨hs.1, ⟨h2, hs.2.1⟩, fun x hx y hy => ?_⟩
  rcases List.mem_cons.1 hy with rfl | hy
  · exact h1 x hx
  · exact hs.2.2 x hx y hy
end
def hasW (W : List (List EV)) (q : List EV) : Bool := W.any fun w => decide (wcmp w q = 0)
theorem hasW_iff {W : List (List EV)} {q : List EV} : hasW W q = true ↔ ∃ w ∈ W, wcmp w q = 0 := by simp [hasW]
def insW (p : List EV) (W : List (List EV)) : List (List EV) := if p.isEmpty = true then W else if hasW W p = true then W else insAt (lbG wcmp p W) p W
def mkW (l : List (List EV)) : List (List EV) := l.foldl (fun W p => insW p W) []
@[simp] theorem mkW_nil : mkW [] = [] := rfl
theorem mkW_snoc (l : List (List EV)) (p : List EV) : mkW (l ++ [p]) = insW p (mkW l) := by simp [mkW]
structure OkW (W : List (List EV)) : Prop where
  good : ∀ w ∈ W, ∀ e ∈ w, GoodE e
  ne : ∀ w ∈ W, w ≠ []
  sort : W.Pairwise fun x y => wcmp x y < 0
theorem OkW.oe {W : List (List EV)} (h : OkW W) : ∀ w ∈ W, OPth w := fun w hw e he => (h.good w hw e he).o
theorem insW_ok {p : List EV} {W : List (List EV)} (hp : ∀ e ∈ p, GoodE e) (h : OkW W) : OkW (insW p W) := by
  unfold insW
  split
  · exact h
  · next hne =>
    split
    · exact h
    · next hn =>
      refine ⟨fun w hw => ?_, fun w hw => ?_, insG_sort wcmp_ord (fun e he => (hp e he).o) h.oe h.sort fun hx => hn (hasW_iff.2 hx)⟩
      · rcases mem_insAt.1 hw with rfl | hw
        · exact hp
        · exact h.good w hw
      · rcases mem_insAt.1 hw with rfl | hw
        · intro e; exact hne (by rw [e]; rfl)
        · exact h.ne w hw
theorem insW_len {p : List EV} {W : List (List EV)} (hne : p ≠ []) : (insW p W).length = W.length + if hasW W p = true then 0 else 1 := by
  unfold insW
  rw [if_neg (by simpa using hne)]
  split <;> simp [insAt_length]
theorem insW_has {p q : List EV} {W : List (List EV)} (hp : OPth p) (hq : OPth q) (hne : p ≠ []) (h : OkW W) : hasW (insW p W) q = true ↔ wcmp p q = 0 ∨ hasW W q = true := by
  unfold insW
  rw [if_neg (by simpa using hne)]
  split
  · next hw =>
    constructor
    · exact .inr
    · rintro (h0 | h0)
      · obtain ⟨w, hw, h1⟩ := hasW_iff.1 hw
        exact hasW_iff.2 ⟨w, hw, wcmp_ord.eq_trans (h.oe w hw) hp hq h1 h0⟩
      · exact h0
  · simp only [hasW_iff, mem_insAt]
    constructor
    · rintro ⟨w, rfl | hw, h0⟩
      · exact .inl h0
      · exact .inr ⟨w, hw, h0⟩
    · rintro (h0 | ⟨w, hw, h0⟩)
      · exact ⟨p, .inl rfl, h0⟩
      · exact ⟨w, .inr hw, h0⟩
def PS.has : PS → List EV → Bool
  | _, [] => false
  | .mk ms _, [e] => ms.any fun x => decide (cmpEl x e = 0)
  | .mk _ ks, e :: f :: p => (getK e ks).has (f :: p)
theorem getK_put_eq {e e' : EV} (he : OE e) (he' : OE e') (t : PS) (h0 : cmpEl e' e = 0) : ∀ {k : PK}, (∀ x ∈ k.es, OE x) → getK e (putK e' t k) = t
  | .nil, _ => by simp only [putK, getK]; rw [if_neg (by omega), if_pos h0]
  | .cons x s r, ho => by
    have hx : OE x := ho x (by simp [PK.es])
    have ih := getK_put_eq he he' t h0 (k := r) fun y hy => ho y (by simp [PK.es, hy])
    simp only [putK]
    split
    · next h1 =>
      have := cmpEl_ord.lt_le hx he' he h1 (by omega)
      simp only [getK]; rw [if_pos this]; exact ih
    · split
      · next h1 h2 =>
        have := cmpEl_ord.eq_trans hx he' he h2 h0
        simp only [getK]; rw [if_neg (by omega), if_pos this]
      · simp only [getK]; rw [if_neg (by omega), if_pos h0]
theorem getK_put_ne {e e' : EV} (he : OE e) (he' : OE e') (t : PS) (h0 : cmpEl e' e ≠ 0) : ∀ {k : PK}, (∀ x ∈ k.es, OE x) → getK e (putK e' t k) = getK e k
  | .nil, _ => by simp [putK, getK, h0]
  | .cons x s r, ho => by
    have hx : OE x := ho x (by simp [PK.es])
    have ih := getK_put_ne he he' t h0 (k := r) fun y hy => ho y (by simp [PK.es, hy])
    simp only [putK]
    split
    · simp only [getK, ih]
    · split
      · next h1 h2 =>
        have h3 : cmpEl x e ≠ 0 := fun h => h0 (cmpEl_ord.eq_trans he' hx he (by have := cmpEl_ord.anti x e' hx he'; omega) h)
        simp only [getK]; rw [if_neg h3, if_neg h3]
      · next h1 h2 =>
        by_cases h3 : cmpEl e' e < 0
        · simp only [getK]; rw [if_pos h3]
        · have h4 : cmpEl e e' ≤ 0 := by have := cmpEl_ord.anti e' e he' he; omega
          have h5 : cmpEl e' x < 0 := by have := cmpEl_ord.anti x e' hx he'; omega
          have h6 := cmpEl_ord.le_lt he he' hx h4 h5
          have h7 := cmpEl_ord.anti e x he hx
          simp only [getK]; rw [if_neg h3, if_neg h0, if_neg (by omega), if_neg (by omega)]
theorem putK_size (e : EV) (t : PS) : ∀ k : PK, (putK e t k).size + (getK e k).size = k.size + t.size
  | .nil => by simp only [putK, getK, PK.size, PS.empty, PS.size]; simp
  | .cons x s r => by
    have ih := putK_size e t r
    simp only [putK, getK]
    split
    · simp only [PK.size]; omega
    · split
      · simp only [PK.size]; omega
      · simp only [PK.size, PS.empty, PS.size]; simp; omega
theorem any_iff {ms : List EV} {q : EV} : (ms.any fun x => decide (cmpEl x q = 0)) = true ↔ ∃ x ∈ ms, cmpEl x q = 0 := by simp
theorem insE_len {e : EV} {ms : List EV} (he : GoodE e) (hm : ∀ x ∈ ms, GoodE x) (hs : SortE ms) : (insE e ms).length = ms.length + if (ms.any fun x => decide (cmpEl x e = 0)) = true then 0 else 1 := by
  have h := hasE_iff he.o (fun x hx => (hm x hx).o) hs
  by_cases hh : hasE e ms
  · rw [if_pos (any_iff.2 (h.1 hh)), insE_found e ms hh]; rfl
  · rw [if_neg fun k => hh (h.2 (any_iff.1 k)), insE_new e ms hh, insAt_length]
theorem insE_any {e q : EV} {ms : List EV} (he : GoodE e) (hq : OE q) (hm : ∀ x ∈ ms, GoodE x) : (∃ x ∈ insE e ms, cmpEl x q = 0) ↔ cmpEl e q = 0 ∨ ∃ x ∈ ms, cmpEl x q = 0 := by
  constructor
  · rintro ⟨x, hx, h0⟩
    rcases mem_insE hx with rfl | hx
    · exact .inl h0
    · exact .inr ⟨x, hx, h0⟩
  · rintro (h0 | ⟨x, hx, h0⟩)
    · obtain ⟨x, hx, h1⟩ := insE_has he.o ms
      have hxo : OE x := by
        rcases mem_insE hx with rfl | hx
        · exact he.o
        · exact (hm x hx).o
      exact ⟨x, hx, cmpEl_ord.eq_trans hxo he.o hq h1 h0⟩
    · exact ⟨x, mem_insE_of hx, h0⟩
theorem PS.ins_size {N : Nat} : ∀ (p : List EV) {s : PS}, OkS N s → (∀ e ∈ p, GoodE e) → p ≠ [] → (s.ins p).size = s.size + if s.has p = true then 0 else 1
  | [], _, _, _, h => absurd rfl h
  | [e], .mk ms ks, ok, hp, _ => by
    simp only [OkS] at ok
    have hh : (PS.mk ms ks).has [e] = (ms.any fun x => decide (cmpEl x e = 0)) := by simp only [PS.has]
    rw [hh]
    simp only [PS.ins, PS.size]
    have h := insE_len (hp e (by simp)) ok.1 ok.2.1
    by_cases hB : (ms.any fun x => decide (cmpEl x e = 0)) = true
    · rw [if_pos hB] at h ⊢; omega
    · rw [if_neg hB] at h ⊢; omega
  | e :: f :: p, .mk ms ks, ok, hp, _ => by
    simp only [OkS] at ok
    have ih := PS.ins_size (f :: p) (getK_ok e ok.2.2.2.2.2.2) (fun x hx => hp x (List.mem_cons_of_mem _ hx)) (by simp)
    have h := putK_size e ((getK e ks).ins (f :: p)) ks
    have hh : (PS.mk ms ks).has (e :: f :: p) = (getK e ks).has (f :: p) := by simp only [PS.has]
    rw [hh]
    simp only [PS.ins, PS.size]
    rw [ih] at h
    by_cases hB : (getK e ks).has (f :: p) = true
    · rw [if_pos hB] at h ⊢; omega
    · rw [if_neg hB] at h ⊢; omega
theorem wcmp_one (e f : EV) : wcmp [e] [f] = 0 ↔ cmpEl e f = 0 := by
  simp only [wcmp]
  split <;> simp_all
theorem wcmp_short (e f g : EV) (q : List EV) : wcmp [e] (f :: g :: q) ≠ 0 := by
  simp only [wcmp]
  split <;> simp
theorem wcmp_long (e f g : EV) (q : List EV) : wcmp (e :: f :: q) [g] ≠ 0 := by
  simp only [wcmp]
  split <;> simp
theorem wcmp_two (e f g h : EV) (p q : List EV) : wcmp (e :: g :: p) (f :: h :: q) = 0 ↔ cmpEl e f = 0 ∧ wcmp (g :: p) (h :: q) = 0 := by
  rw [wcmp]
  split
  · next h0 => simp [h0]
  · next h0 => simp [h0]
theorem getK_cong {e g : EV} (he : OE e) (hg : OE g) (h0 : cmpEl e g = 0) : ∀ {k : PK}, (∀ x ∈ k.es, OE x) → getK e k = getK g k
  | .nil, _ => rfl
  | .cons x s r, ho => by
    have hx : OE x := ho x (by simp [PK.es])
    have ih := getK_cong he hg h0 (k := r) fun y hy => ho y (by simp [PK.es, hy])
    have h1 : cmpEl x e < 0 ↔ cmpEl x g < 0 := ⟨fun h => cmpEl_ord.lt_le hx he hg h (by omega), fun h => cmpEl_ord.lt_le hx hg he h (by have := cmpEl_ord.anti e g he hg; omega)⟩
    have h2 : cmpEl x e = 0 ↔ cmpEl x g = 0 := ⟨fun h => cmpEl_ord.eq_trans hx he hg h h0, fun h => cmpEl_ord.eq_trans hx hg he h (by have := cmpEl_ord.anti e g he hg; omega)⟩
    simp only [getK, h1, h2, ih]
theorem PS.ins_has {N : Nat} : ∀ (p q : List EV) {s : PS}, OkS N s → (∀ e ∈ p, GoodE e) → (∀ e ∈ q, OE e) → p ≠ [] → q ≠ [] → ((s.ins p).has q = true ↔ wcmp p q = 0 ∨ s.has q = true)
  | [], _, _, _, _, _, h, _ => absurd rfl h
  | _, [], _, _, _, _, _, h => absurd rfl h
  | [e], [g], .mk ms ks, ok, hp, hq, _, _ => by
    simp only [OkS] at ok
    simp only [PS.ins, PS.has, any_iff, wcmp_one]
    exact insE_any (hp e (by simp)) (hq g (by simp)) ok.1
  | [e], g :: h :: q, .mk ms ks, ok, hp, hq, _, _ => by
    simp only [PS.ins, PS.has]
    have := wcmp_short e g h q
    simp [this]
  | e :: f :: p, [g], .mk ms ks, ok, hp, hq, _, _ => by
    simp only [PS.ins, PS.has]
    have := wcmp_long e f g p
    simp [this]
  | e :: f :: p, g :: h :: q, .mk ms ks, ok, hp, hq, _, _ => by
    simp only [OkS] at ok
    simp only [PS.ins, PS.has, wcmp_two]
    have he := (hp e (by simp)).o
    have hg := hq g (by simp)
    have ho : ∀ x ∈ ks.es, OE x := fun x hx => (ok.2.2.2.1 x hx).o
    by_cases h0 : cmpEl e g = 0
    · have ih := PS.ins_has (f :: p) (h :: q) (getK_ok e ok.2.2.2.2.2.2) (fun x hx => hp x (List.mem_cons_of_mem _ hx)) (fun x hx => hq x (List.mem_cons_of_mem _ hx)) (by simp) (by simp)
      have hgk : getK e ks = getK g ks := getK_cong he hg h0 ho
      rw [getK_put_eq hg he _ h0 ho, ih, hgk]
      simp [h0]
    · rw [getK_put_ne hg he _ h0 ho]
      simp [h0]
theorem mk_same : ∀ (n : Nat) (l : List (List EV)), l.length = n → (∀ p ∈ l, ∀ e ∈ p, GoodE e) → OkW (mkW l) ∧ (mkP l).size = (mkW l).length ∧ ∀ q : List EV, q ≠ [] → (∀ e ∈ q, OE e) → ((mkP l).has q = true ↔ hasW (mkW l) q = true)
  | 0, l, h, _ => by
    cases l with
    | cons _ _ => simp at h
    | nil =>
      refine ⟨⟨by simp, by simp, by simp⟩, by simp [PS.empty, PS.size, PK.size], fun q hq _ => ?_⟩
      have : ∀ q : List EV, PS.empty.has q = false := fun q => by
        induction q with
        | nil => simp [PS.has]
        | cons e q ih =>
          cases q with
          | nil => simp [PS.empty, PS.has]
          | cons f q => simpa [PS.empty, PS.has, getK] using ih
      simp [this, hasW]
  | n + 1, l, h, hg => by
    obtain ⟨m, p, rfl⟩ : ∃ m p, l = m ++ [p] := ⟨l.dropLast, l.getLast (by intro h0; rw [h0] at h; simp at h), (List.dropLast_concat_getLast _).symm⟩
    have hgm : ∀ q ∈ m, ∀ e ∈ q, GoodE e := fun q hq => hg q (by simp [hq])
    have hp : ∀ e ∈ p, GoodE e := hg p (by simp)
    obtain ⟨i1, i2, i3⟩ := mk_same n m (by simpa using h) hgm
    have hok := mkP_ok _ m rfl hgm
    rw [mkW_snoc, mkP_snoc]
    refine ⟨insW_ok hp i1, ?_, fun q hq hqo => ?_⟩
    · by_cases hne : p = []
      · subst hne
        rw [ins_nil]; simpa [insW] using i2
      · rw [PS.ins_size p hok hp hne, insW_len hne, i2]
        have := i3 p hne fun e he => (hp e he).o
        by_cases hw : hasW (mkW m) p = true
        · rw [if_pos hw, if_pos (this.2 hw)]
        · rw [if_neg hw, if_neg fun h => hw (this.1 h)]
    · by_cases hne : p = []
      · subst hne
        rw [ins_nil]; simpa [insW] using i3 q hq hqo
      · rw [PS.ins_has p q hok hp hqo hne hq, insW_has (fun e he => (hp e he).o) hqo hne i1, i3 q hq hqo]
end Go.Smd
end
section
set_option linter.unusedSimpArgs false
namespace Go.Smd
open Go.RowKit Go.Proofs Go.ChangeShapes Go.WideShapes Go.Deep
theorem cells_at {w : World} {base : Nat} {a : Addr} {n : Nat} {cs : List Value} (h : w.cells? base a n = some cs) : CellsAt w a cs := fun i u hu => by
  obtain ⟨_, hl, hc⟩ := World.cells?_some h
  rw [hc i (by rw [← hl]; exact (List.getElem?_eq_some_iff.1 hu).1)]; exact hu
def Light (l : List Nat) : Prop := ∀ x ∈ l, x ≤ 140737488351232
theorem Light.append {l m : List Nat} (h : Light (l ++ m)) : Light l ∧ Light m := ⟨fun x hx => h x (List.mem_append_left _ hx), fun x hx => h x (List.mem_append_right _ hx)⟩
theorem Light.all {H : Type} {P : Program} {e : TypeId} : ∀ {ds : List (DataW H)}, Light (DataW.weightsAll P e ds) → ∀ d ∈ ds, Light (d.weights P e)
  | [], _, d, hd => by simp at hd
  | d0 :: ds, h, d, hd => by
    simp only [DataW.weightsAll] at h
    rcases List.mem_cons.1 hd with rfl | hd
    · exact h.append.1
    · exact Light.all h.append.2 d hd
section
variable {H : Type} {enc : TypeId × Value → H} {w : World} {held : Bool}
theorem open_strs {P : Program} {t e : TypeId} (ht : P.underlying t = some (.slice e)) (he : P.underlying e = some .string) (hc : P.cellsOf e = 1) (hb : P.bytesOf e = 16) {fuel : Nat} {cs : List Value} {x : DataW H × List MemPlace}
    (h : DataW.trod enc P w 0 (fun _ => true) held fuel t cs = some x) (hw : Light (x.1.weights P t)) :
    ∃ A c ss, cs = [.slice A (List.length ss) c] ∧ ss.length ≤ c ∧ RepStrs (fun _ => True) w A ss ∧ ss.length * 16 ≤ 140737488351232 ∧ ∀ s ∈ ss, s.size ≤ 140737488351232 := by
  rcases open_slice1 ht hc h with ⟨rfl, rfl⟩ | ⟨a, len, cap, m, n, V, D, Pl, rfl, _, hl, _, hm, rfl, hx⟩
  · exact ⟨none, 0, [], rfl, Nat.zero_le _, RowOf.nil, by simp, by simp⟩
  · have hm' : m = cap := by simpa using hm
    subst hm'
    have key : ∀ i : Nat, ∃ s : ByteArray, i < m → V i = .string s ∧ D i = .lit (.string s.data.toList) := fun i => by
      by_cases hi : i < m
      · obtain ⟨s, h1, h2, _⟩ := DataW.trod_string he (hx i hi).2
        exact ⟨s, fun _ => ⟨by simpa using h1, congrArg Prod.fst h2⟩⟩
      · exact ⟨⟨#[]⟩, fun h => absurd h hi⟩
    let F : Nat → ByteArray := fun i => Classical.choose (key i)
    have hF : ∀ i, i < m → V i = .string (F i) ∧ D i = .lit (.string (F i).data.toList) := fun i hi => Classical.choose_spec (key i) hi
    have hlen : ((List.range len).map F).length = len := by simp
    simp only [DataW.weights, ht, hb, List.length_map, List.length_range] at hw
    have hw1 : (len + (m - len)) * 16 ≤ 140737488351232 := hw _ (List.mem_cons_self ..)
    have hw2 : Light (DataW.weightsAll P e ((List.range len).map D)) := fun x hx => hw x (List.mem_cons_of_mem _ (List.mem_append_left _ hx))
    refine ⟨some a, m, (List.range len).map F, by rw [hlen], by rw [hlen]; exact hl, fun j x hj => ?_, by rw [hlen]; omega, fun s hs => ?_⟩
    · rw [List.getElem?_map] at hj
      obtain ⟨i, hi, rfl⟩ := Option.map_eq_some_iff.1 hj
      obtain ⟨hlt, rfl⟩ := List.getElem?_eq_some_iff.1 hi
      simp only [List.length_range] at hlt
      simp only [List.getElem_range]
      refine ⟨a, [V j], rfl, trivial, by rw [(hF j (by omega)).1]; rfl, rfl, fun i u hu => ?_⟩
      match i, hu with
      | 0, hu =>
        simp at hu; subst hu
        have := (hx j (by omega)).1
        simpa [Addr.add] using this
    · obtain ⟨i, hi, rfl⟩ := List.mem_map.1 hs
      have hi' : i < len := by simpa using hi
      have := Light.all hw2 (D i) (List.mem_map.2 ⟨i, hi, rfl⟩)
      rw [(hF i (by omega)).2] at this
      simp only [DataW.weights] at this
      have := this _ (List.mem_singleton_self _)
      rw [ByteArray.size, Array.size_eq_length_toList]; exact this
theorem trod_float {P : Program} {t : TypeId} {k : FloatKind} {fuel : Nat} {cs : List Value} {x : DataW H × List MemPlace} (ht : P.underlying t = some (.float k)) (h : DataW.trod enc P w 0 (fun _ => true) held fuel t cs = some x) : ∃ n, cs = [.float k n] ∧ x = (.lit (.float k n), []) ∧ (Lit.float k n).wf = true := by
  cases fuel with
  | zero => simp [DataW.trod] at h
  | succ n =>
    unfold DataW.trod at h
    rw [ht] at h
    split at h <;> simp_all
set_option maxRecDepth 100000 in
theorem open_val : ∀ (fuel : Nat) (cs : List Value) (x : DataW H × List MemPlace), DataW.trod enc Tryz.prog w 0 (fun _ => true) held fuel 31 cs = some x → Light (x.1.weights Tryz.prog 31) →
    ∃ v, RepGV (fun _ => True) w v cs := by
  intro fuel
  induction fuel using Nat.strongRecOn with
  | _ fuel IH =>
  intro cs x h hw
  obtain ⟨xs, n, rfl, rfl, hlen, hxl, hf⟩ := DataW.trod_struct Tryz.underlying31 h
  have e6 : Tryz.prog.cellsOf 31 = 6 := by kernel_rfl
  have e1 : Tryz.prog.cellsOf 3 = 1 := by kernel_rfl
  have e2 : Tryz.prog.cellsOf 2 = 1 := by kernel_rfl
  have e3 : Tryz.prog.cellsOf 29 = 1 := by kernel_rfl
  have e4 : Tryz.prog.cellsOf 9 = 1 := by kernel_rfl
  have e5 : Tryz.prog.cellsOf 28 = 1 := by kernel_rfl
  have e7 : Tryz.prog.cellsOf 27 = 1 := by kernel_rfl
  rw [e6] at hlen
  match cs, hlen with
  | [c0, c1, c2, c3, c4, c5], _ =>
  match xs, hxl with
  | [x0, x1, x2, x3, x4, x5], _ =>
  have f0 : DataW.trod enc Tryz.prog w 0 (fun _ => true) held n 3 (([c0, c1, c2, c3, c4, c5].drop 0).take (Tryz.prog.cellsOf 3)) = some x0 := hf 0 _ rfl
  rw [e1] at f0
  change DataW.trod enc Tryz.prog w 0 (fun _ => true) held n 3 [c0] = some x0 at f0
  have f1 : DataW.trod enc Tryz.prog w 0 (fun _ => true) held n 2 (([c0, c1, c2, c3, c4, c5].drop 1).take (Tryz.prog.cellsOf 2)) = some x1 := hf 1 _ rfl
  rw [e2] at f1
  change DataW.trod enc Tryz.prog w 0 (fun _ => true) held n 2 [c1] = some x1 at f1
  have f2 : DataW.trod enc Tryz.prog w 0 (fun _ => true) held n 29 (([c0, c1, c2, c3, c4, c5].drop 2).take (Tryz.prog.cellsOf 29)) = some x2 := hf 2 _ rfl
  rw [e3] at f2
  change DataW.trod enc Tryz.prog w 0 (fun _ => true) held n 29 [c2] = some x2 at f2
  have f3 : DataW.trod enc Tryz.prog w 0 (fun _ => true) held n 9 (([c0, c1, c2, c3, c4, c5].drop 3).take (Tryz.prog.cellsOf 9)) = some x3 := hf 3 _ rfl
  rw [e4] at f3
  change DataW.trod enc Tryz.prog w 0 (fun _ => true) held n 9 [c3] = some x3 at f3
  have f4 : DataW.trod enc Tryz.prog w 0 (fun _ => true) held n 28 (([c0, c1, c2, c3, c4, c5].drop 4).take (Tryz.prog.cellsOf 28)) = some x4 := hf 4 _ rfl
  rw [e5] at f4
  change DataW.trod enc Tryz.prog w 0 (fun _ => true) held n 28 [c4] = some x4 at f4
  have f5 : DataW.trod enc Tryz.prog w 0 (fun _ => true) held n 27 (([c0, c1, c2, c3, c4, c5].drop 5).take (Tryz.prog.cellsOf 27)) = some x5 := hf 5 _ rfl
  rw [e7] at f5
  change DataW.trod enc Tryz.prog w 0 (fun _ => true) held n 27 [c5] = some x5 at f5
  obtain ⟨kind, h0, hx0, hr0⟩ := DataW.trod_int Tryz.underlying3 f0
  obtain ⟨N, h1, hx1, hr1⟩ := DataW.trod_int Tryz.underlying2 f1
  obtain ⟨F, h2, hx2, hr2⟩ := trod_float Tryz.underlying29 f2
  obtain ⟨s, h3, hx3, hr3⟩ := DataW.trod_string Tryz.underlying9 f3
  simp only [List.cons.injEq, and_true] at h0 h1 h2 h3
  subst h0; subst h1; subst h2; subst h3
  simp only [List.map_cons, List.map_nil, DataW.weights, Tryz.underlying31, DataW.weightsEach] at hw
  have hw : Light (DataW.weights Tryz.prog 3 x0.1 ++ (DataW.weights Tryz.prog 2 x1.1 ++ (DataW.weights Tryz.prog 29 x2.1 ++ (DataW.weights Tryz.prog 9 x3.1 ++ (DataW.weights Tryz.prog 28 x4.1 ++ (DataW.weights Tryz.prog 27 x5.1 ++ [])))))) := hw
  have w3 := hw.append.2.append.2.append.2.append.1
  have w4 := hw.append.2.append.2.append.2.append.2.append.1
  have w5 := hw.append.2.append.2.append.2.append.2.append.2.append.1
  obtain ⟨ka, kc, keys, hk, hkc, hkr, hk16, hks⟩ := open_strs Tryz.underlying28 Tryz.underlying9 e4 (by kernel_rfl) f4 w4
  simp only [List.cons.injEq, and_true] at hk
  subst hk
  have hss : s.size ≤ 140737488351232 := by
    rw [hx3] at w3
    simp only [DataW.weights] at w3
    have := w3 _ (List.mem_singleton_self _)
    rw [ByteArray.size, Array.size_eq_length_toList]; exact this
  have okk : ∀ {l : List GV}, l.length * 88 ≤ 140737488351232 → GVok kind N F s keys l := fun hl => by
    refine ⟨?_, ?_, ?_, hss, hk16, hks, hl⟩
    · have := hr0; simp [Lit.wf, IntKind.min, IntKind.max, IntKind.signed, IntKind.bits] at this; omega
    · have := hr1; simp [Lit.wf, IntKind.min, IntKind.max, IntKind.signed, IntKind.bits] at this; omega
    · have := hr2; simp [Lit.wf] at this; omega
  rcases DataW.trod_slice Tryz.underlying27 f5 with ⟨h5, rfl⟩ | ⟨a, len, cap, elems, rest, n', rfl, h5, rfl, _, hl, _, hlen5, hel, _, _⟩
  · simp only [List.cons.injEq, and_true] at h5
    subst h5
    exact ⟨.mk kind N F s keys [], RepGV.close (l := []) (okk (by simp)) hkc (Nat.zero_le _) hkr RowOf.nil⟩
  · simp only [List.cons.injEq, and_true] at h5
    subst h5
    have hb : Tryz.prog.bytesOf 31 = 88 := by kernel_rfl
    simp only [DataW.weights, Tryz.underlying27, List.length_map, hb, hlen5] at w5
    have hw1 : (len + rest.length) * 88 ≤ 140737488351232 := w5 _ (List.mem_cons_self ..)
    have hw2 : Light (DataW.weightsAll Tryz.prog 31 (elems.map (·.1))) := fun x hx => w5 x (List.mem_cons_of_mem _ (List.mem_append_left _ hx))
    have key : ∀ j : Nat, ∃ p : GV × List Value, j < len → CellsAt w (a.add (j * 6)) p.2 ∧ RepGV (fun _ => True) w p.1 p.2 := fun j => by
      by_cases hj : j < len
      · have he := hel j hj
        rw [e6] at he
        obtain ⟨y, hy⟩ : ∃ y, elems[j]? = some y := ⟨elems[j]'(by omega), List.getElem?_eq_getElem _⟩
        rw [hy] at he
        obtain ⟨cs', hc, ht⟩ := Option.bind_eq_some_iff.1 he
        obtain ⟨v, hv⟩ := IH n' (by omega) cs' y ht (Light.all hw2 y.1 (List.mem_map.2 ⟨y, List.mem_of_getElem? hy, rfl⟩))
        exact ⟨(v, cs'), fun _ => ⟨cells_at hc, hv⟩⟩
      · exact ⟨(.mk 0 0 0 ⟨#[]⟩ [] [], []), fun h => absurd h hj⟩
    let G : Nat → GV × List Value := fun j => Classical.choose (key j)
    have hG : ∀ j, j < len → CellsAt w (a.add (j * 6)) (G j).2 ∧ RepGV (fun _ => True) w (G j).1 (G j).2 := fun j hj => Classical.choose_spec (key j) hj
    have hlenl : ((List.range len).map fun j => (G j).1).length = len := by simp
    refine ⟨.mk kind N F s keys ((List.range len).map fun j => (G j).1), ?_⟩
    have := RepGV.close (S := fun _ => True) (w := w) (la := some a) (lc := cap) (okk (l := (List.range len).map fun j => (G j).1) (by rw [hlenl]; omega)) hkc (by rw [hlenl]; exact hl) hkr (fun j x hj => by
      rw [List.getElem?_map] at hj
      obtain ⟨i, hi, rfl⟩ := Option.map_eq_some_iff.1 hj
      obtain ⟨hlt, rfl⟩ := List.getElem?_eq_some_iff.1 hi
      simp only [List.length_range] at hlt
      simp only [List.getElem_range]
      exact ⟨a, (G j).2, rfl, trivial, (hG j hlt).2, (hG j hlt).2.length, (hG j hlt).1⟩)
    rw [hlenl] at this
    exact this
end
end Go.Smd
end
section
set_option linter.unusedSimpArgs false
namespace Go.Smd
open Go.RowKit Go.Proofs Go.ChangeShapes Go.WideShapes Go.ChangeAt
theorem own_knob : ownKnob Tryz.prog.godebug = none := by kernel_rfl
theorem laid_out : laidOutB Tryz.prog = true := by kernel_rfl
section
variable {H : Type} {enc : TypeId × Value → H}
theorem trodAll_below {W W' : World} (hb : Below W.heap.size W W') : ∀ {ts : List TypeId} {vs : List Value} {ds : List (DataW H)} {ps : List MemPlace},
    (∀ t ∈ ts, Tryz.prog.readableRec t = true ∧ t < Tryz.prog.types.size) → DataW.TrodAll enc Tryz.prog W 0 (fun _ => true) true ts vs ds ps → (∀ x ∈ ps, x.block < W.heap.size) →
    DataW.TrodAll enc Tryz.prog W' 0 (fun b => decide (b < W.heap.size)) true ts vs ds ps
  | [], vs, ds, ps, _, h, _ => by
    match vs, ds, h with
    | [], [], h => exact h
  | t :: ts, vs, ds, ps, hr, h, hlt => by
    match vs, ds, h with
    | v :: vs, d :: ds, ⟨p, q, h1, h2, e⟩ =>
      subst e
      exact ⟨p, q, Below.trod laid_out (hr t (List.mem_cons_self ..)).1 (hr t (List.mem_cons_self ..)).2 h1 hb fun x hx => hlt x (List.mem_append_left _ hx),
        trodAll_below hb (fun t ht => hr t (List.mem_cons_of_mem _ ht)) h2 fun x hx => hlt x (List.mem_append_right _ hx), rfl⟩
theorem law_post {fn : Func} {s : ChangeSpec} {W W' : World} {args : Array Value} {ds gs : List (DataW H)} {before : List MemPlace} (hv : s.vars = []) (hr : fn.resultTypes = #[4])
    (hp : ∀ t ∈ fn.params.toList, Tryz.prog.readableRec t = true ∧ t < Tryz.prog.types.size)
    (hW : DataW.Whole enc Tryz.prog fn.params.toList s.vars false W args.toList ds gs before) (hs : s.fn H ds = { results := [.lit (.bool true)], args := ds }) (hE : Ext W W') :
    s.post enc Tryz.prog fn false true false false W args (.bool true) W' := by
  have hlt : ∀ p ∈ before, p.block < W.heap.size := fun p hp => hW.lt p hp
  have hW' := hW
  obtain ⟨p, q, hA, hV, rfl, hfz, hnd⟩ := hW
  rw [hv] at hV
  obtain ⟨rfl, rfl⟩ := trodVars_none hV
  have hA' := trodAll_below hE hp hA fun x hx => hlt x (by simpa using hx)
  refine ⟨ds, [], p ++ [], [], p, [], hW', ?_, ?_, ?_, ?_, fun h => by cases h⟩
  · rw [hr, List.append_nil, hs]
    exact trodAll_mk1 (shut_bool Tryz.underlying4 true)
  · rw [List.append_nil, hs]; exact hA'
  · rw [hv, List.append_nil, hs]; rfl
  · exact World.keptBut_mono (fun x hx => hx) (Below.frame hE _)
end
set_option maxRecDepth 100000 in
theorem law_lift {fn : Func} {f : FuncId} {s : ChangeSpec} (hfn : Tryz.prog.funcs[f]? = some fn) (hv : s.vars = []) (hr : fn.resultTypes = #[4])
    (hp : ∀ t ∈ fn.params.toList, Tryz.prog.readableRec t = true ∧ t < Tryz.prog.types.size) (hi : Tryz.prog.inits.idxOf? f = none)
    {os : Os} (started : os.Started) {H : Type} {enc : TypeId × Value → H}
    (hs : ∀ ds : List (DataW H), ds.length = fn.params.size → s.fn H ds = { results := [.lit (.bool true)], args := ds })
    (witness : ∃ (w : World) (tape : Tape) (i : Input), w.os = os ∧ (w.forCall tape i).Shaped Tryz.prog ∧ i.vars = [] ∧ Input.okWide Tryz.prog (w.forCall tape i) .any w.heap.size f i ∧
      s.pre6 enc Tryz.prog fn [] false (w.forCall tape i).memory i.args ∧ ({} : Assume).holds Tryz.prog (lone (Frame.enter Tryz.prog f i.args .normal) [] (w.forCall tape i)))
    (walk : ∀ (W : World) (args : Array Value) (ds : List (DataW H)) (p : List MemPlace), DataW.TrodAll enc Tryz.prog W 0 (fun _ => true) true fn.params.toList args.toList ds p →
      (∀ x ∈ DataW.weightsEach Tryz.prog fn.params.toList ds, x ≤ 140737488351232) →
      (∃ base : Nat, ∀ (j : Nat) t v, fn.params[j]? = some t → args[j]? = some v → Value.okWide Tryz.prog W .any base t v) → Calls Tryz.prog f args W (Makes (fun _ u => u = .bool true) W)) :
    ReturnsInHanded {} Tryz.checked os f .any (s.pre6 enc Tryz.prog fn [] false) (s.post enc Tryz.prog fn false true false false) := by
  refine returnsInHanded_of_change_sized (C := Tryz.checked) own_knob started hi hfn witness ?_
  intro W base args ds gs before hval hW _ hweights _
  have hW' := hW
  obtain ⟨p, q, hA, hV, rfl, hfz, hnd⟩ := hW
  rw [hv] at hV
  obtain ⟨rfl, rfl⟩ := trodVars_none hV
  have hlen : ds.length = fn.params.size := by
    have : ∀ {ts : List TypeId} {vs : List Value} {ds : List (DataW H)} {ps : List MemPlace}, DataW.TrodAll enc Tryz.prog W 0 (fun _ => true) true ts vs ds ps → ds.length = ts.length := by
      intro ts
      induction ts with
      | nil => intro vs ds ps h; match vs, ds, h with | [], [], _ => rfl
      | cons t ts ih => intro vs ds ps h; match vs, ds, h with | v :: vs, d :: ds, ⟨_, _, _, h2, _⟩ => simp [ih h2]
    simpa using this hA
  refine (walk W args ds p hA (fun x hx => ?_) ⟨base, hval⟩).mono fun e W' h => ?_
  · have e : s.plain.varTypes Tryz.prog = [] := by simp [DataSpec.varTypes, ChangeSpec.plain, hv]
    have hw : (DataW.weightsEach Tryz.prog (fn.params.toList ++ s.plain.varTypes Tryz.prog) (ds ++ [])).all (· ≤ reachBytes) = true := hweights
    rw [e, List.append_nil, List.append_nil, List.all_eq_true] at hw
    exact of_decide_eq_true (hw x hx)
  · obtain ⟨v, rfl, rfl, hE⟩ := h
    exact ⟨_, rfl, law_post hv hr hp hW' (hs ds hlen) hE⟩
end Go.Smd
end
