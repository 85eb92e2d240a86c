/- Part 29 of the proof: Ev. -/
import Derived.Test.YtannholebjdckaaGreatQZ28
set_option linter.unusedVariables false
section
set_option linter.unusedSimpArgs false
set_option maxRecDepth 100000
set_option maxHeartbeats 8000000
namespace Go.Smd
open Go.RowKit Go.Proofs
noncomputable def uniE : List LE → List LE → List LE
  | x :: a, y :: b => if cmpLE x y < 0 then x :: uniE a (y :: b) else if cmpLE y x < 0 then y :: uniE (x :: a) b else y :: uniE a b
  | [], b => b
  | a, [] => a
termination_by a b => a.length + b.length
noncomputable def intE : List LE → List LE → List LE
  | x :: a, y :: b => if cmpLE x y < 0 then intE a (y :: b) else if cmpLE y x < 0 then intE (x :: a) b else x :: intE a b
  | [], _ => []
  | _, [] => []
termination_by a b => a.length + b.length
noncomputable def difE : List LE → List LE → List LE
  | x :: a, y :: b => if cmpLE x y < 0 then x :: difE a (y :: b) else if cmpLE y x < 0 then difE (x :: a) b else difE a b
  | [], _ => []
  | a, [] => a
termination_by a b => a.length + b.length
theorem uni_nil (a : List LE) : uniE a [] = a := by cases a <;> simp [uniE]
theorem nil_uni (b : List LE) : uniE [] b = b := by simp [uniE]
theorem int_nil (a : List LE) : intE a [] = [] := by cases a <;> simp [intE]
theorem nil_int (b : List LE) : intE [] b = [] := by simp [intE]
theorem dif_nil (a : List LE) : difE a [] = a := by cases a <;> simp [difE]
theorem nil_dif (b : List LE) : difE [] b = [] := by simp [difE]
theorem elemLess_a (p q : LE) (hp : fitsLE p) (hq : fitsLE q) : ACalls Tryz.prog 144 [leA p, leA q] (fun r => r = aV (.bool (decide (cmpLE p q < 0)))) := by
  have h := elemCompare_a p q hp hq
  have four : ∀ e : LE, ∃ e0 e1 e2 e3, leA e = .agg [.d e0, .d e1, .d e2, .d e3] := fun e => by cases e <;> exact ⟨_, _, _, _, rfl⟩
  obtain ⟨p0, p1, p2, p3, hp'⟩ := four p
  obtain ⟨q0, q1, q2, q3, hq'⟩ := four q
  rw [hp', hq'] at h ⊢
  refine acalls_ex [] Tryz.func144 (by kernel_rfl) rfl Tryz.ntmps144 Tryz.results144 (Nat.le_of_ble_eq_true (by kernel_rfl)) ?_; intro hok w0 S0
  clear hok
  (repeat' (first | (with_reducible refine br_d (fun _ => ?_) (fun _ => ?_)) | (with_reducible refine br_i (fun _ => ?_) (fun _ => ?_)) | (with_reducible refine nd_v (h) (by first | rfl | (simp -dsimp; done)) ?_) | (with_reducible refine nw_v (h) rfl (by first | rfl | (simp -dsimp; done)) (by first | rfl | (simp -dsimp; done)) ?_) | (with_reducible refine dn_i follows_any (by kernel_rfl) ?_) | (with_reducible exact done_eq rfl) | (simp -dsimp))); (all_goals try with_reducible refine done_eq ?_)
theorem esSize_a (A : List LE) (hA : A.length ≤ 9223372036854775807) : ACalls Tryz.prog 99 [.c (.d (.pt [dLPath A]))] (fun r => r = aI A.length) := by
  refine acalls_ex [] Tryz.func99 (by kernel_rfl) rfl Tryz.ntmps99 Tryz.results99 (Nat.le_of_ble_eq_true (by kernel_rfl)) ?_; intro hok w0 S0
  clear hok
  (repeat' (first | (with_reducible refine br_d (fun _ => ?_) (fun _ => ?_)) | (with_reducible refine br_i (fun _ => ?_) (fun _ => ?_)) | (with_reducible refine dn_i follows_any (by kernel_rfl) ?_) | (with_reducible exact done_eq rfl) | (simp -dsimp [hA]))); (all_goals try with_reducible refine done_eq ?_)
theorem leD_four (e : LE) : ∃ e0 e1 e2 e3, leD e = [e0, e1, e2, e3] ∧ leA e = .agg [.d e0, .d e1, .d e2, .d e3] := by cases e <;> exact ⟨_, _, _, _, rfl, rfl⟩
theorem drop_cons {α : Type} {l : List α} {i : Nat} (h : i < l.length) : l.drop i = l[i] :: l.drop (i + 1) := List.drop_eq_getElem_cons h
theorem esUnion_a (A B : List LE) (hl : (A.length + B.length) * 32 ≤ 140737488351232) (hA : ∀ x ∈ A, fitsLE x) (hB : ∀ x ∈ B, fitsLE x) :
    ACalls Tryz.prog 96 [.c (.d (.pt [dLPath A])), .c (.d (.pt [dLPath B]))] (fun r => r = .c (.d (.pt [dLPath (uniE A B)]))) := by
  have bA : A.length ≤ 9223372036854775807 := by omega
  have bB : B.length ≤ 9223372036854775807 := by omega
  have tA : List.take A.length (A.map leD) = A.map leD := List.take_of_length_le (by simp)
  have tB : List.take B.length (B.map leD) = B.map leD := List.take_of_length_le (by simp)
  refine acalls_ex [(4, ([14], [(0, []), (1, []), (2, []), (3, []), (4, []), (5, []), (6, []), (7, []), (8, []), (9, []), (10, []), (11, []), (12, []), (13, []), (14, [])])), (8, ([14], [(0, []), (1, []), (2, []), (3, []), (4, []), (5, []), (6, []), (7, []), (8, []), (9, []), (10, []), (11, []), (12, []), (13, []), (14, []), (15, [])]))] Tryz.func96 (by kernel_rfl) rfl Tryz.ntmps96 Tryz.results96 (Nat.le_of_ble_eq_true (by kernel_rfl)) ?_; intro hok w0 S0
  clear hok
  (repeat' (first | (with_reducible refine br_d (fun _ => ?_) (fun _ => ?_)) | (with_reducible refine br_i (fun _ => ?_) (fun _ => ?_)) | (with_reducible refine dn_i follows_any (by kernel_rfl) ?_) | (with_reducible exact done_eq rfl) | (simp -dsimp))); (all_goals try with_reducible refine done_eq ?_)
  refine ex_loop (fun x : Nat × Nat × Nat × List LE => ⟨[(0, .c (.d (.pt [dLPath A]))), (1, .c (.d (.pt [dLPath B]))), (5, .c (.own 9 0)), (6, aI x.1), (7, aI x.2.1)], [(9, .cells [.gs 77 x.2.2.1] 153), (77, .arr x.2.2.1 98 (x.2.2.2.map leD))]⟩)
    (fun x => x.1 ≤ A.length ∧ x.2.1 ≤ B.length ∧ x.2.2.2 ++ uniE (A.drop x.1) (B.drop x.2.1) = uniE A B ∧ x.2.2.2.length ≤ x.1 + x.2.1) (fun x => A.length - x.1 + (B.length - x.2.1)) (0, 0, 0, []) ?_ (by simp) ?_
  · refine Weak.trans (Weak.adopt (z := 9) (id := 77) (T := 153) (E := 98) rfl rfl (by decide)) ?_
    exact Weak.same (by simp -dsimp) (by simp -dsimp) (by first | rfl | (simp [closedSt, Av.ids, Ow.ids, Cl.ids, Go.Smd.keys]; done))
  · rintro ⟨i, j, ver, R⟩ ⟨hi, hj, hR, hRl⟩ K hK
    simp only at hi hj hR hRl
    by_cases hlt : i < A.length
    · by_cases hlt2 : j < B.length
      · have hw : IntKind.wrap .i64 ((i : Int) + 1) = ((i + 1 : Nat) : Int) := by rw [wrap_i64] <;> omega
        have hw2 : IntKind.wrap .i64 ((j : Int) + 1) = ((j + 1 : Nat) : Int) := by rw [wrap_i64] <;> omega
        have hb : (R.length + 1) * 32 ≤ 140737488351232 := by omega
        have c1 := elemLess_a _ _ (hA _ (List.getElem_mem hlt)) (hB _ (List.getElem_mem hlt2))
        have c2 := elemLess_a _ _ (hB _ (List.getElem_mem hlt2)) (hA _ (List.getElem_mem hlt))
        obtain ⟨a0, a1, a2, a3, ha, ha'⟩ := leD_four A[i]
        obtain ⟨b0, b1, b2, b3, hb', hb''⟩ := leD_four B[j]
        rw [ha', hb''] at c1 c2
        rw [drop_cons hlt, drop_cons hlt2, uniE] at hR
        by_cases h1 : cmpLE A[i] B[j] < 0
        · rw [if_pos h1, ← drop_cons hlt2] at hR
          rw [decide_eq_true h1] at c1
          (repeat' (first | (with_reducible refine br_d (fun _ => ?_) (fun _ => ?_)) | (with_reducible refine br_i (fun _ => ?_) (fun _ => ?_)) | (with_reducible refine nd_v (c1) (by first | rfl | (simp -dsimp [bA, bB, hlt, hlt2, ha, hb']; done)) ?_) | (with_reducible refine nw_v (c1) rfl (by first | rfl | (simp -dsimp [bA, bB, hlt, hlt2, ha, hb']; done)) (by first | rfl | (simp -dsimp [bA, bB, hlt, hlt2, ha, hb']; done)) ?_) | (with_reducible refine dn_i follows_any (by kernel_rfl) ?_) | (with_reducible exact done_eq rfl) | (simp -dsimp [bA, bB, hlt, hlt2, ha, hb']))); (all_goals try with_reducible refine done_eq ?_)
          refine exD_p ?_
          refine aw_drawn_n follows_any [[], [], [1], [1, 2], [1, 2, 3], [], [5], [5, 6], [5, 6, 7], [], [5, 6, 7, 8, 9], [5, 6, 7, 8, 9, 10], [5, 6, 7, 8, 9, 10, 11], [1, 2, 3, 4, 5, 6, 7, 8, 9, 10, 11, 12], [0, 1, 2, 3, 4, 5, 6, 7, 8, 9, 10, 11, 12, 13], [0, 1, 2, 3, 4, 5, 6, 7, 8, 9, 10, 11, 12, 13, 14], [0, 1, 2, 3, 4, 5, 6, 7, 8, 9, 10, 11, 12, 13, 14, 15]] [0, 1, 2, 3, 4, 5, 6, 7, 8, 9, 10, 11, 12, 13, 14, 15, 16] [12, 13, 16] [([], ⟨[(41, ?m41u1), (42, ?m42u1), (43, ?m43u1), (44, ?m44u1), (45, ?m45u1), (46, ?m46u1), (47, ?m47u1), (48, ?m48u1), (49, ?m49u1), (50, ?m50u1), (51, ?m51u1), (52, ?m52u1), (53, ?m53u1), (54, ?m54u1), (55, ?m55u1), (56, ?m56u1)], ?bu1, ?o0u1⟩), ([12], ⟨[(41, ?m41u1), (42, ?m42u1), (43, ?m43u1), (44, ?m44u1), (45, ?m45u1), (46, ?m46u1), (47, ?m47u1), (48, ?m48u1), (49, ?m49u1), (50, ?m50u1), (51, ?m51u1), (52, ?m52u1), (53, ?m53u1), (54, ?m54u1), (55, ?m55u1), (56, ?m56u1)], ?bu1, ?o1u1⟩), ([12, 13], ⟨[(41, ?m41u1), (42, ?m42u1), (43, ?m43u1), (44, ?m44u1), (45, ?m45u1), (46, ?m46u1), (47, ?m47u1), (48, ?m48u1), (49, ?m49u1), (50, ?m50u1), (51, ?m51u1), (52, ?m52u1), (53, ?m53u1), (54, ?m54u1), (55, ?m55u1), (56, ?m56u1)], ?bu1, ?o2u1⟩), ([12, 13, 16], ⟨[(41, ?m41u1), (42, ?m42u1), (43, ?m43u1), (44, ?m44u1), (45, ?m45u1), (46, ?m46u1), (47, ?m47u1), (48, ?m48u1), (49, ?m49u1), (50, ?m50u1), (51, ?m51u1), (52, ?m52u1), (53, ?m53u1), (54, ?m54u1), (55, ?m55u1), (56, ?m56u1)], ?bu1, ?o3u1⟩)] ?hoku1 rfl rfl ?hbu1 ?hou1 ?hstu1 ?hku1
          case' hbu1 => rfl
          case' hou1 => rfl
          case' hstu1 => refine ⟨⟨?v0u1, ?s0u1⟩, ⟨⟨?v1u1, ?s1u1⟩, ⟨⟨?v2u1, ?s2u1⟩, ⟨⟨?v3u1, ?s3u1⟩, True.intro⟩⟩⟩⟩
          case v0u1 =>
            refine ⟨.inr ⟨_, rfl, effN_self (eff_v rfl rfl (by simp -dsimp [valT, bA, hlt, ha, toDs, hb] <;> with_reducible rfl))⟩, ?_⟩
            refine ⟨.inr ⟨_, rfl, effN_self (eff_v rfl rfl (by simp -dsimp [valT, bA, hlt, ha, toDs, hb] <;> with_reducible rfl))⟩, ?_⟩
            refine ⟨.inr ⟨_, rfl, effN_self (eff_v rfl rfl (by simp -dsimp [valT, bA, hlt, ha, toDs, hb] <;> with_reducible rfl))⟩, ?_⟩
            refine ⟨.inr ⟨_, rfl, effN_self (eff_v rfl rfl (by simp -dsimp [valT, bA, hlt, ha, toDs, hb] <;> with_reducible rfl))⟩, ?_⟩
            refine ⟨.inr ⟨_, rfl, effN_self (eff_v rfl rfl (by simp -dsimp [valT, bA, hlt, ha, toDs, hb] <;> with_reducible rfl))⟩, ?_⟩
            refine ⟨.inr ⟨_, rfl, effN_self (eff_v rfl rfl (by simp -dsimp [valT, bA, hlt, ha, toDs, hb] <;> with_reducible rfl))⟩, ?_⟩
            refine ⟨.inr ⟨_, rfl, effN_self (eff_v rfl rfl (by simp -dsimp [valT, bA, hlt, ha, toDs, hb] <;> with_reducible rfl))⟩, ?_⟩
            refine ⟨.inr ⟨_, rfl, effN_self (eff_v rfl rfl (by simp -dsimp [valT, bA, hlt, ha, toDs, hb] <;> with_reducible rfl))⟩, ?_⟩
            refine ⟨.inr ⟨_, rfl, effN_self (eff_v rfl rfl (by simp -dsimp [valT, bA, hlt, ha, toDs, hb] <;> with_reducible rfl))⟩, ?_⟩
            refine ⟨.inr ⟨_, rfl, effN_self (eff_v rfl rfl (by simp -dsimp [valT, bA, hlt, ha, toDs, hb] <;> with_reducible rfl))⟩, ?_⟩
            refine ⟨.inr ⟨_, rfl, effN_self (eff_v rfl rfl (by simp -dsimp [valT, bA, hlt, ha, toDs, hb] <;> with_reducible rfl))⟩, ?_⟩
            refine ⟨.inr ⟨_, rfl, effN_self (eff_v rfl rfl (by simp -dsimp [valT, bA, hlt, ha, toDs, hb] <;> with_reducible rfl))⟩, ?_⟩
            refine ⟨.inl (by kernel_rfl), ?_⟩
            refine ⟨.inl (by kernel_rfl), ?_⟩
            refine ⟨.inl (by kernel_rfl), ?_⟩
            refine ⟨.inl (by kernel_rfl), ?_⟩
            refine ⟨.inl (by kernel_rfl), ?_⟩
            exact True.intro
          case s0u1 =>
            refine ⟨.inr ⟨_, _, rfl, rfl, effN_of (eff_w (hdk := rfl) (hW := rfl) (hq := by simp -dsimp [valT, bA, hlt, ha, toDs, hb] <;> (first | done | rfl | exact ⟨rfl, rfl⟩ | exact ⟨rfl, rfl, rfl⟩)) (hoo := rfl) (hv := by simp -dsimp [valT, bA, hlt, ha, toDs, hb] <;> with_reducible rfl)) (by simp -dsimp [valT, canonO, insO, bA, hlt, ha, toDs, hb] <;> with_reducible rfl)⟩, ?_⟩
            refine ⟨.inl (by kernel_rfl), ?_⟩
            refine ⟨.inl (by kernel_rfl), ?_⟩
            exact True.intro
          case v1u1 =>
            refine ⟨.inr ⟨_, rfl, effN_self (eff_v rfl rfl (by simp -dsimp [valT, bA, hlt, ha, toDs, hb] <;> with_reducible rfl))⟩, ?_⟩
            refine ⟨.inr ⟨_, rfl, effN_self (eff_v rfl rfl (by simp -dsimp [valT, bA, hlt, ha, toDs, hb] <;> with_reducible rfl))⟩, ?_⟩
            refine ⟨.inr ⟨_, rfl, effN_self (eff_v rfl rfl (by simp -dsimp [valT, bA, hlt, ha, toDs, hb] <;> with_reducible rfl))⟩, ?_⟩
            refine ⟨.inr ⟨_, rfl, effN_self (eff_v rfl rfl (by simp -dsimp [valT, bA, hlt, ha, toDs, hb] <;> with_reducible rfl))⟩, ?_⟩
            refine ⟨.inr ⟨_, rfl, effN_self (eff_v rfl rfl (by simp -dsimp [valT, bA, hlt, ha, toDs, hb] <;> with_reducible rfl))⟩, ?_⟩
            refine ⟨.inl (by kernel_rfl), ?_⟩
            refine ⟨.inl (by kernel_rfl), ?_⟩
            refine ⟨.inl (by kernel_rfl), ?_⟩
            refine ⟨.inl (by kernel_rfl), ?_⟩
            refine ⟨.inl (by kernel_rfl), ?_⟩
            refine ⟨.inl (by kernel_rfl), ?_⟩
            refine ⟨.inl (by kernel_rfl), ?_⟩
            refine ⟨.inl (by kernel_rfl), ?_⟩
            refine ⟨.inl (by kernel_rfl), ?_⟩
            refine ⟨.inl (by kernel_rfl), ?_⟩
            refine ⟨.inl (by kernel_rfl), ?_⟩
            refine ⟨.inl (by kernel_rfl), ?_⟩
            exact True.intro
          case s1u1 =>
            refine ⟨.inl (by kernel_rfl), ?_⟩
            refine ⟨.inr ⟨_, _, rfl, rfl, effN_of (eff_w (hdk := rfl) (hW := rfl) (hq := by simp -dsimp [valT, bA, hlt, ha, toDs, hb] <;> (first | done | rfl | exact ⟨rfl, rfl⟩ | exact ⟨rfl, rfl, rfl⟩)) (hoo := rfl) (hv := by simp -dsimp [valT, bA, hlt, ha, toDs, hb] <;> with_reducible rfl)) (by simp -dsimp [valT, canonO, insO, bA, hlt, ha, toDs, hb] <;> with_reducible rfl)⟩, ?_⟩
            refine ⟨.inl (by kernel_rfl), ?_⟩
            exact True.intro
          case v2u1 =>
            refine ⟨.inr ⟨_, rfl, effN_self (eff_v rfl rfl (by simp -dsimp [valT, bA, hlt, ha, toDs, hb] <;> with_reducible rfl))⟩, ?_⟩
            refine ⟨.inl (by kernel_rfl), ?_⟩
            refine ⟨.inl (by kernel_rfl), ?_⟩
            refine ⟨.inl (by kernel_rfl), ?_⟩
            refine ⟨.inl (by kernel_rfl), ?_⟩
            refine ⟨.inl (by kernel_rfl), ?_⟩
            refine ⟨.inl (by kernel_rfl), ?_⟩
            refine ⟨.inl (by kernel_rfl), ?_⟩
            refine ⟨.inl (by kernel_rfl), ?_⟩
            refine ⟨.inl (by kernel_rfl), ?_⟩
            refine ⟨.inl (by kernel_rfl), ?_⟩
            refine ⟨.inl (by kernel_rfl), ?_⟩
            refine ⟨.inl (by kernel_rfl), ?_⟩
            refine ⟨.inl (by kernel_rfl), ?_⟩
            refine ⟨.inr ⟨_, rfl, effN_self (eff_v rfl rfl (by simp -dsimp [valT, bA, hlt, ha, toDs, hb] <;> with_reducible rfl))⟩, ?_⟩
            refine ⟨.inr ⟨_, rfl, effN_self (eff_v rfl rfl (by simp -dsimp [valT, bA, hlt, ha, toDs, hb] <;> with_reducible rfl))⟩, ?_⟩
            refine ⟨.inl (by kernel_rfl), ?_⟩
            exact True.intro
          case s2u1 =>
            refine ⟨.inl (by kernel_rfl), ?_⟩
            refine ⟨.inl (by kernel_rfl), ?_⟩
            refine ⟨.inr ⟨_, _, rfl, rfl, effN_of (eff_w (hdk := rfl) (hW := rfl) (hq := by simp -dsimp [valT, bA, hlt, ha, toDs, hb] <;> (first | done | rfl | exact ⟨rfl, rfl⟩ | exact ⟨rfl, rfl, rfl⟩)) (hoo := rfl) (hv := by simp -dsimp [valT, bA, hlt, ha, toDs, hb] <;> with_reducible rfl)) (by simp -dsimp [valT, canonO, insO, bA, hlt, ha, toDs, hb] <;> with_reducible rfl)⟩, ?_⟩
            exact True.intro
          case v3u1 =>
            refine ⟨.inl (by kernel_rfl), ?_⟩
            refine ⟨.inl (by kernel_rfl), ?_⟩
            refine ⟨.inl (by kernel_rfl), ?_⟩
            refine ⟨.inl (by kernel_rfl), ?_⟩
            refine ⟨.inl (by kernel_rfl), ?_⟩
            refine ⟨.inl (by kernel_rfl), ?_⟩
            refine ⟨.inl (by kernel_rfl), ?_⟩
            refine ⟨.inl (by kernel_rfl), ?_⟩
            refine ⟨.inl (by kernel_rfl), ?_⟩
            refine ⟨.inl (by kernel_rfl), ?_⟩
            refine ⟨.inl (by kernel_rfl), ?_⟩
            refine ⟨.inl (by kernel_rfl), ?_⟩
            refine ⟨.inl (by kernel_rfl), ?_⟩
            refine ⟨.inl (by kernel_rfl), ?_⟩
            refine ⟨.inl (by kernel_rfl), ?_⟩
            refine ⟨.inl (by kernel_rfl), ?_⟩
            refine ⟨.inl (by kernel_rfl), ?_⟩
            exact True.intro
          case s3u1 =>
            refine ⟨.inl (by kernel_rfl), ?_⟩
            refine ⟨.inl (by kernel_rfl), ?_⟩
            refine ⟨.inl (by kernel_rfl), ?_⟩
            exact True.intro
          case hoku1 => kernel_rfl
          refine ⟨rfl, ?_⟩
          (repeat' (first | (with_reducible refine br_d (fun _ => ?_) (fun _ => ?_)) | (with_reducible refine br_i (fun _ => ?_) (fun _ => ?_)) | (with_reducible refine dn_i follows_any (by kernel_rfl) ?_) | (with_reducible exact done_eq rfl) | (simp -dsimp [hw]))); (all_goals try with_reducible refine done_eq ?_)
          refine hK _ (i + 1, j, ver + 1, R ++ [A[i]]) ?_ ⟨by show i + 1 ≤ _; omega, hj, by rw [← hR]; simp, by simp; omega⟩ (by show A.length - (i + 1) + (B.length - j) < A.length - i + (B.length - j); omega)
          simp only [List.map_append, List.map_cons, List.map_nil, ha]
          exact Weak.same (by simp -dsimp) (by simp -dsimp) (by first | rfl | (simp [closedSt, Av.ids, Ow.ids, Cl.ids, Go.Smd.keys]; done))
        · rw [if_neg h1] at hR
          rw [decide_eq_false h1] at c1
          by_cases h2 : cmpLE B[j] A[i] < 0
          · rw [if_pos h2, ← drop_cons hlt] at hR
            rw [decide_eq_true h2] at c2
            (repeat' (first | (with_reducible refine br_d (fun _ => ?_) (fun _ => ?_)) | (with_reducible refine br_i (fun _ => ?_) (fun _ => ?_)) | (with_reducible refine nd_v (c1) (by first | rfl | (simp -dsimp [bA, bB, hlt, hlt2, ha, hb']; done)) ?_) | (with_reducible refine nw_v (c1) rfl (by first | rfl | (simp -dsimp [bA, bB, hlt, hlt2, ha, hb']; done)) (by first | rfl | (simp -dsimp [bA, bB, hlt, hlt2, ha, hb']; done)) ?_) | (with_reducible refine dn_i follows_any (by kernel_rfl) ?_) | (with_reducible exact done_eq rfl) | (simp -dsimp [bA, bB, hlt, hlt2, ha, hb']))); (all_goals try with_reducible refine done_eq ?_)
            refine exD_p ?_
            refine aw_drawn_n follows_any [[], [], [1], [1, 2], [1, 2, 3], [], [5], [5, 6], [5, 6, 7], [], [5, 6, 7, 8, 9], [5, 6, 7, 8, 9, 10], [5, 6, 7, 8, 9, 10, 11], [1, 2, 3, 4, 5, 6, 7, 8, 9, 10, 11, 12], [0, 1, 2, 3, 4, 5, 6, 7, 8, 9, 10, 11, 12, 13], [0, 1, 2, 3, 4, 5, 6, 7, 8, 9, 10, 11, 12, 13, 14], [0, 1, 2, 3, 4, 5, 6, 7, 8, 9, 10, 11, 12, 13, 14, 15]] [0, 1, 2, 3, 4, 5, 6, 7, 8, 9, 10, 11, 12, 13, 14, 15, 16] [12, 13, 16] [([], ⟨[(59, ?m59u2), (60, ?m60u2), (61, ?m61u2), (62, ?m62u2), (63, ?m63u2), (64, ?m64u2), (65, ?m65u2), (66, ?m66u2), (67, ?m67u2), (68, ?m68u2), (69, ?m69u2), (70, ?m70u2), (71, ?m71u2), (72, ?m72u2), (73, ?m73u2), (74, ?m74u2)], ?bu2, ?o0u2⟩), ([12], ⟨[(59, ?m59u2), (60, ?m60u2), (61, ?m61u2), (62, ?m62u2), (63, ?m63u2), (64, ?m64u2), (65, ?m65u2), (66, ?m66u2), (67, ?m67u2), (68, ?m68u2), (69, ?m69u2), (70, ?m70u2), (71, ?m71u2), (72, ?m72u2), (73, ?m73u2), (74, ?m74u2)], ?bu2, ?o1u2⟩), ([12, 13], ⟨[(59, ?m59u2), (60, ?m60u2), (61, ?m61u2), (62, ?m62u2), (63, ?m63u2), (64, ?m64u2), (65, ?m65u2), (66, ?m66u2), (67, ?m67u2), (68, ?m68u2), (69, ?m69u2), (70, ?m70u2), (71, ?m71u2), (72, ?m72u2), (73, ?m73u2), (74, ?m74u2)], ?bu2, ?o2u2⟩), ([12, 13, 16], ⟨[(59, ?m59u2), (60, ?m60u2), (61, ?m61u2), (62, ?m62u2), (63, ?m63u2), (64, ?m64u2), (65, ?m65u2), (66, ?m66u2), (67, ?m67u2), (68, ?m68u2), (69, ?m69u2), (70, ?m70u2), (71, ?m71u2), (72, ?m72u2), (73, ?m73u2), (74, ?m74u2)], ?bu2, ?o3u2⟩)] ?hoku2 rfl rfl ?hbu2 ?hou2 ?hstu2 ?hku2
            case' hbu2 => rfl
            case' hou2 => rfl
            case' hstu2 => refine ⟨⟨?v0u2, ?s0u2⟩, ⟨⟨?v1u2, ?s1u2⟩, ⟨⟨?v2u2, ?s2u2⟩, ⟨⟨?v3u2, ?s3u2⟩, True.intro⟩⟩⟩⟩
            case v0u2 =>
              refine ⟨.inr ⟨_, rfl, effN_self (eff_v rfl rfl (by simp -dsimp [valT, bB, hlt2, hb', toDs, hb] <;> with_reducible rfl))⟩, ?_⟩
              refine ⟨.inr ⟨_, rfl, effN_self (eff_v rfl rfl (by simp -dsimp [valT, bB, hlt2, hb', toDs, hb] <;> with_reducible rfl))⟩, ?_⟩
              refine ⟨.inr ⟨_, rfl, effN_self (eff_v rfl rfl (by simp -dsimp [valT, bB, hlt2, hb', toDs, hb] <;> with_reducible rfl))⟩, ?_⟩
              refine ⟨.inr ⟨_, rfl, effN_self (eff_v rfl rfl (by simp -dsimp [valT, bB, hlt2, hb', toDs, hb] <;> with_reducible rfl))⟩, ?_⟩
              refine ⟨.inr ⟨_, rfl, effN_self (eff_v rfl rfl (by simp -dsimp [valT, bB, hlt2, hb', toDs, hb] <;> with_reducible rfl))⟩, ?_⟩
              refine ⟨.inr ⟨_, rfl, effN_self (eff_v rfl rfl (by simp -dsimp [valT, bB, hlt2, hb', toDs, hb] <;> with_reducible rfl))⟩, ?_⟩
              refine ⟨.inr ⟨_, rfl, effN_self (eff_v rfl rfl (by simp -dsimp [valT, bB, hlt2, hb', toDs, hb] <;> with_reducible rfl))⟩, ?_⟩
              refine ⟨.inr ⟨_, rfl, effN_self (eff_v rfl rfl (by simp -dsimp [valT, bB, hlt2, hb', toDs, hb] <;> with_reducible rfl))⟩, ?_⟩
              refine ⟨.inr ⟨_, rfl, effN_self (eff_v rfl rfl (by simp -dsimp [valT, bB, hlt2, hb', toDs, hb] <;> with_reducible rfl))⟩, ?_⟩
              refine ⟨.inr ⟨_, rfl, effN_self (eff_v rfl rfl (by simp -dsimp [valT, bB, hlt2, hb', toDs, hb] <;> with_reducible rfl))⟩, ?_⟩
              refine ⟨.inr ⟨_, rfl, effN_self (eff_v rfl rfl (by simp -dsimp [valT, bB, hlt2, hb', toDs, hb] <;> with_reducible rfl))⟩, ?_⟩
              refine ⟨.inr ⟨_, rfl, effN_self (eff_v rfl rfl (by simp -dsimp [valT, bB, hlt2, hb', toDs, hb] <;> with_reducible rfl))⟩, ?_⟩
              refine ⟨.inl (by kernel_rfl), ?_⟩
              refine ⟨.inl (by kernel_rfl), ?_⟩
              refine ⟨.inl (by kernel_rfl), ?_⟩
              refine ⟨.inl (by kernel_rfl), ?_⟩
              refine ⟨.inl (by kernel_rfl), ?_⟩
              exact True.intro
            case s0u2 =>
              refine ⟨.inr ⟨_, _, rfl, rfl, effN_of (eff_w (hdk := rfl) (hW := rfl) (hq := by simp -dsimp [valT, bB, hlt2, hb', toDs, hb] <;> (first | done | rfl | exact ⟨rfl, rfl⟩ | exact ⟨rfl, rfl, rfl⟩)) (hoo := rfl) (hv := by simp -dsimp [valT, bB, hlt2, hb', toDs, hb] <;> with_reducible rfl)) (by simp -dsimp [valT, canonO, insO, bB, hlt2, hb', toDs, hb] <;> with_reducible rfl)⟩, ?_⟩
              refine ⟨.inl (by kernel_rfl), ?_⟩
              refine ⟨.inl (by kernel_rfl), ?_⟩
              exact True.intro
            case v1u2 =>
              refine ⟨.inr ⟨_, rfl, effN_self (eff_v rfl rfl (by simp -dsimp [valT, bB, hlt2, hb', toDs, hb] <;> with_reducible rfl))⟩, ?_⟩
              refine ⟨.inr ⟨_, rfl, effN_self (eff_v rfl rfl (by simp -dsimp [valT, bB, hlt2, hb', toDs, hb] <;> with_reducible rfl))⟩, ?_⟩
              refine ⟨.inr ⟨_, rfl, effN_self (eff_v rfl rfl (by simp -dsimp [valT, bB, hlt2, hb', toDs, hb] <;> with_reducible rfl))⟩, ?_⟩
              refine ⟨.inr ⟨_, rfl, effN_self (eff_v rfl rfl (by simp -dsimp [valT, bB, hlt2, hb', toDs, hb] <;> with_reducible rfl))⟩, ?_⟩
              refine ⟨.inr ⟨_, rfl, effN_self (eff_v rfl rfl (by simp -dsimp [valT, bB, hlt2, hb', toDs, hb] <;> with_reducible rfl))⟩, ?_⟩
              refine ⟨.inl (by kernel_rfl), ?_⟩
              refine ⟨.inl (by kernel_rfl), ?_⟩
              refine ⟨.inl (by kernel_rfl), ?_⟩
              refine ⟨.inl (by kernel_rfl), ?_⟩
              refine ⟨.inl (by kernel_rfl), ?_⟩
              refine ⟨.inl (by kernel_rfl), ?_⟩
              refine ⟨.inl (by kernel_rfl), ?_⟩
              refine ⟨.inl (by kernel_rfl), ?_⟩
              refine ⟨.inl (by kernel_rfl), ?_⟩
              refine ⟨.inl (by kernel_rfl), ?_⟩
              refine ⟨.inl (by kernel_rfl), ?_⟩
              refine ⟨.inl (by kernel_rfl), ?_⟩
              exact True.intro
            case s1u2 =>
              refine ⟨.inl (by kernel_rfl), ?_⟩
              refine ⟨.inr ⟨_, _, rfl, rfl, effN_of (eff_w (hdk := rfl) (hW := rfl) (hq := by simp -dsimp [valT, bB, hlt2, hb', toDs, hb] <;> (first | done | rfl | exact ⟨rfl, rfl⟩ | exact ⟨rfl, rfl, rfl⟩)) (hoo := rfl) (hv := by simp -dsimp [valT, bB, hlt2, hb', toDs, hb] <;> with_reducible rfl)) (by simp -dsimp [valT, canonO, insO, bB, hlt2, hb', toDs, hb] <;> with_reducible rfl)⟩, ?_⟩
              refine ⟨.inl (by kernel_rfl), ?_⟩
              exact True.intro
            case v2u2 =>
              refine ⟨.inr ⟨_, rfl, effN_self (eff_v rfl rfl (by simp -dsimp [valT, bB, hlt2, hb', toDs, hb] <;> with_reducible rfl))⟩, ?_⟩
              refine ⟨.inl (by kernel_rfl), ?_⟩
              refine ⟨.inl (by kernel_rfl), ?_⟩
              refine ⟨.inl (by kernel_rfl), ?_⟩
              refine ⟨.inl (by kernel_rfl), ?_⟩
              refine ⟨.inl (by kernel_rfl), ?_⟩
              refine ⟨.inl (by kernel_rfl), ?_⟩
              refine ⟨.inl (by kernel_rfl), ?_⟩
              refine ⟨.inl (by kernel_rfl), ?_⟩
              refine ⟨.inl (by kernel_rfl), ?_⟩
              refine ⟨.inl (by kernel_rfl), ?_⟩
              refine ⟨.inl (by kernel_rfl), ?_⟩
              refine ⟨.inl (by kernel_rfl), ?_⟩
              refine ⟨.inl (by kernel_rfl), ?_⟩
              refine ⟨.inr ⟨_, rfl, effN_self (eff_v rfl rfl (by simp -dsimp [valT, bB, hlt2, hb', toDs, hb] <;> with_reducible rfl))⟩, ?_⟩
              refine ⟨.inr ⟨_, rfl, effN_self (eff_v rfl rfl (by simp -dsimp [valT, bB, hlt2, hb', toDs, hb] <;> with_reducible rfl))⟩, ?_⟩
              refine ⟨.inl (by kernel_rfl), ?_⟩
              exact True.intro
            case s2u2 =>
              refine ⟨.inl (by kernel_rfl), ?_⟩
              refine ⟨.inl (by kernel_rfl), ?_⟩
              refine ⟨.inr ⟨_, _, rfl, rfl, effN_of (eff_w (hdk := rfl) (hW := rfl) (hq := by simp -dsimp [valT, bB, hlt2, hb', toDs, hb] <;> (first | done | rfl | exact ⟨rfl, rfl⟩ | exact ⟨rfl, rfl, rfl⟩)) (hoo := rfl) (hv := by simp -dsimp [valT, bB, hlt2, hb', toDs, hb] <;> with_reducible rfl)) (by simp -dsimp [valT, canonO, insO, bB, hlt2, hb', toDs, hb] <;> with_reducible rfl)⟩, ?_⟩
              exact True.intro
            case v3u2 =>
              refine ⟨.inl (by kernel_rfl), ?_⟩
              refine ⟨.inl (by kernel_rfl), ?_⟩
              refine ⟨.inl (by kernel_rfl), ?_⟩
              refine ⟨.inl (by kernel_rfl), ?_⟩
              refine ⟨.inl (by kernel_rfl), ?_⟩
              refine ⟨.inl (by kernel_rfl), ?_⟩
              refine ⟨.inl (by kernel_rfl), ?_⟩
              refine ⟨.inl (by kernel_rfl), ?_⟩
              refine ⟨.inl (by kernel_rfl), ?_⟩
              refine ⟨.inl (by kernel_rfl), ?_⟩
              refine ⟨.inl (by kernel_rfl), ?_⟩
              refine ⟨.inl (by kernel_rfl), ?_⟩
              refine ⟨.inl (by kernel_rfl), ?_⟩
              refine ⟨.inl (by kernel_rfl), ?_⟩
              refine ⟨.inl (by kernel_rfl), ?_⟩
              refine ⟨.inl (by kernel_rfl), ?_⟩
              refine ⟨.inl (by kernel_rfl), ?_⟩
              exact True.intro
            case s3u2 =>
              refine ⟨.inl (by kernel_rfl), ?_⟩
              refine ⟨.inl (by kernel_rfl), ?_⟩
              refine ⟨.inl (by kernel_rfl), ?_⟩
              exact True.intro
            case hoku2 => kernel_rfl
            refine ⟨rfl, ?_⟩
            (repeat' (first | (with_reducible refine br_d (fun _ => ?_) (fun _ => ?_)) | (with_reducible refine br_i (fun _ => ?_) (fun _ => ?_)) | (with_reducible refine nd_v (c2) (by first | rfl | (simp -dsimp [bA, bB, hlt, hlt2, ha, hb', hw2]; done)) ?_) | (with_reducible refine nw_v (c2) rfl (by first | rfl | (simp -dsimp [bA, bB, hlt, hlt2, ha, hb', hw2]; done)) (by first | rfl | (simp -dsimp [bA, bB, hlt, hlt2, ha, hb', hw2]; done)) ?_) | (with_reducible refine dn_i follows_any (by kernel_rfl) ?_) | (with_reducible exact done_eq rfl) | (simp -dsimp [bA, bB, hlt, hlt2, ha, hb', hw2]))); (all_goals try with_reducible refine done_eq ?_)
            refine hK _ (i, j + 1, ver + 1, R ++ [B[j]]) ?_ ⟨hi, by show j + 1 ≤ _; omega, by rw [← hR]; simp, by simp; omega⟩ (by show A.length - i + (B.length - (j + 1)) < A.length - i + (B.length - j); omega)
            simp only [List.map_append, List.map_cons, List.map_nil, hb']
            exact Weak.same (by simp -dsimp) (by simp -dsimp) (by first | rfl | (simp [closedSt, Av.ids, Ow.ids, Cl.ids, Go.Smd.keys]; done))
          · rw [if_neg h2] at hR
            rw [decide_eq_false h2] at c2
            (repeat' (first | (with_reducible refine br_d (fun _ => ?_) (fun _ => ?_)) | (with_reducible refine br_i (fun _ => ?_) (fun _ => ?_)) | (with_reducible refine nd_v (c1) (by first | rfl | (simp -dsimp [bA, bB, hlt, hlt2, ha, hb']; done)) ?_) | (with_reducible refine nw_v (c1) rfl (by first | rfl | (simp -dsimp [bA, bB, hlt, hlt2, ha, hb']; done)) (by first | rfl | (simp -dsimp [bA, bB, hlt, hlt2, ha, hb']; done)) ?_) | (with_reducible refine dn_i follows_any (by kernel_rfl) ?_) | (with_reducible exact done_eq rfl) | (simp -dsimp [bA, bB, hlt, hlt2, ha, hb']))); (all_goals try with_reducible refine done_eq ?_)
            refine exD_p ?_
            refine aw_drawn_n follows_any [[], [], [1], [1, 2], [1, 2, 3], [], [5], [5, 6], [5, 6, 7], [], [5, 6, 7, 8, 9], [5, 6, 7, 8, 9, 10], [5, 6, 7, 8, 9, 10, 11], [1, 2, 3, 4, 5, 6, 7, 8, 9, 10, 11, 12], [0, 1, 2, 3, 4, 5, 6, 7, 8, 9, 10, 11, 12, 13], [0, 1, 2, 3, 4, 5, 6, 7, 8, 9, 10, 11, 12, 13, 14], [0, 1, 2, 3, 4, 5, 6, 7, 8, 9, 10, 11, 12, 13, 14, 15]] [0, 1, 2, 3, 4, 5, 6, 7, 8, 9, 10, 11, 12, 13, 14, 15, 16] [12, 13, 16] [([], ⟨[(59, ?m59u3), (60, ?m60u3), (61, ?m61u3), (62, ?m62u3), (63, ?m63u3), (64, ?m64u3), (65, ?m65u3), (66, ?m66u3), (67, ?m67u3), (68, ?m68u3), (69, ?m69u3), (70, ?m70u3), (71, ?m71u3), (72, ?m72u3), (73, ?m73u3), (74, ?m74u3)], ?bu3, ?o0u3⟩), ([12], ⟨[(59, ?m59u3), (60, ?m60u3), (61, ?m61u3), (62, ?m62u3), (63, ?m63u3), (64, ?m64u3), (65, ?m65u3), (66, ?m66u3), (67, ?m67u3), (68, ?m68u3), (69, ?m69u3), (70, ?m70u3), (71, ?m71u3), (72, ?m72u3), (73, ?m73u3), (74, ?m74u3)], ?bu3, ?o1u3⟩), ([12, 13], ⟨[(59, ?m59u3), (60, ?m60u3), (61, ?m61u3), (62, ?m62u3), (63, ?m63u3), (64, ?m64u3), (65, ?m65u3), (66, ?m66u3), (67, ?m67u3), (68, ?m68u3), (69, ?m69u3), (70, ?m70u3), (71, ?m71u3), (72, ?m72u3), (73, ?m73u3), (74, ?m74u3)], ?bu3, ?o2u3⟩), ([12, 13, 16], ⟨[(59, ?m59u3), (60, ?m60u3), (61, ?m61u3), (62, ?m62u3), (63, ?m63u3), (64, ?m64u3), (65, ?m65u3), (66, ?m66u3), (67, ?m67u3), (68, ?m68u3), (69, ?m69u3), (70, ?m70u3), (71, ?m71u3), (72, ?m72u3), (73, ?m73u3), (74, ?m74u3)], ?bu3, ?o3u3⟩)] ?hoku3 rfl rfl ?hbu3 ?hou3 ?hstu3 ?hku3
            case' hbu3 => rfl
            case' hou3 => rfl
            case' hstu3 => refine ⟨⟨?v0u3, ?s0u3⟩, ⟨⟨?v1u3, ?s1u3⟩, ⟨⟨?v2u3, ?s2u3⟩, ⟨⟨?v3u3, ?s3u3⟩, True.intro⟩⟩⟩⟩
            case v0u3 =>
              refine ⟨.inr ⟨_, rfl, effN_self (eff_v rfl rfl (by simp -dsimp [valT, bB, hlt2, hb', toDs, hb] <;> with_reducible rfl))⟩, ?_⟩
              refine ⟨.inr ⟨_, rfl, effN_self (eff_v rfl rfl (by simp -dsimp [valT, bB, hlt2, hb', toDs, hb] <;> with_reducible rfl))⟩, ?_⟩
              refine ⟨.inr ⟨_, rfl, effN_self (eff_v rfl rfl (by simp -dsimp [valT, bB, hlt2, hb', toDs, hb] <;> with_reducible rfl))⟩, ?_⟩
              refine ⟨.inr ⟨_, rfl, effN_self (eff_v rfl rfl (by simp -dsimp [valT, bB, hlt2, hb', toDs, hb] <;> with_reducible rfl))⟩, ?_⟩
              refine ⟨.inr ⟨_, rfl, effN_self (eff_v rfl rfl (by simp -dsimp [valT, bB, hlt2, hb', toDs, hb] <;> with_reducible rfl))⟩, ?_⟩
              refine ⟨.inr ⟨_, rfl, effN_self (eff_v rfl rfl (by simp -dsimp [valT, bB, hlt2, hb', toDs, hb] <;> with_reducible rfl))⟩, ?_⟩
              refine ⟨.inr ⟨_, rfl, effN_self (eff_v rfl rfl (by simp -dsimp [valT, bB, hlt2, hb', toDs, hb] <;> with_reducible rfl))⟩, ?_⟩
              refine ⟨.inr ⟨_, rfl, effN_self (eff_v rfl rfl (by simp -dsimp [valT, bB, hlt2, hb', toDs, hb] <;> with_reducible rfl))⟩, ?_⟩
              refine ⟨.inr ⟨_, rfl, effN_self (eff_v rfl rfl (by simp -dsimp [valT, bB, hlt2, hb', toDs, hb] <;> with_reducible rfl))⟩, ?_⟩
              refine ⟨.inr ⟨_, rfl, effN_self (eff_v rfl rfl (by simp -dsimp [valT, bB, hlt2, hb', toDs, hb] <;> with_reducible rfl))⟩, ?_⟩
              refine ⟨.inr ⟨_, rfl, effN_self (eff_v rfl rfl (by simp -dsimp [valT, bB, hlt2, hb', toDs, hb] <;> with_reducible rfl))⟩, ?_⟩
              refine ⟨.inr ⟨_, rfl, effN_self (eff_v rfl rfl (by simp -dsimp [valT, bB, hlt2, hb', toDs, hb] <;> with_reducible rfl))⟩, ?_⟩
              refine ⟨.inl (by kernel_rfl), ?_⟩
              refine ⟨.inl (by kernel_rfl), ?_⟩
              refine ⟨.inl (by kernel_rfl), ?_⟩
              refine ⟨.inl (by kernel_rfl), ?_⟩
              refine ⟨.inl (by kernel_rfl), ?_⟩
              exact True.intro
            case s0u3 =>
              refine ⟨.inr ⟨_, _, rfl, rfl, effN_of (eff_w (hdk := rfl) (hW := rfl) (hq := by simp -dsimp [valT, bB, hlt2, hb', toDs, hb] <;> (first | done | rfl | exact ⟨rfl, rfl⟩ | exact ⟨rfl, rfl, rfl⟩)) (hoo := rfl) (hv := by simp -dsimp [valT, bB, hlt2, hb', toDs, hb] <;> with_reducible rfl)) (by simp -dsimp [valT, canonO, insO, bB, hlt2, hb', toDs, hb] <;> with_reducible rfl)⟩, ?_⟩
              refine ⟨.inl (by kernel_rfl), ?_⟩
              refine ⟨.inl (by kernel_rfl), ?_⟩
              exact True.intro
            case v1u3 =>
              refine ⟨.inr ⟨_, rfl, effN_self (eff_v rfl rfl (by simp -dsimp [valT, bB, hlt2, hb', toDs, hb] <;> with_reducible rfl))⟩, ?_⟩
              refine ⟨.inr ⟨_, rfl, effN_self (eff_v rfl rfl (by simp -dsimp [valT, bB, hlt2, hb', toDs, hb] <;> with_reducible rfl))⟩, ?_⟩
              refine ⟨.inr ⟨_, rfl, effN_self (eff_v rfl rfl (by simp -dsimp [valT, bB, hlt2, hb', toDs, hb] <;> with_reducible rfl))⟩, ?_⟩
              refine ⟨.inr ⟨_, rfl, effN_self (eff_v rfl rfl (by simp -dsimp [valT, bB, hlt2, hb', toDs, hb] <;> with_reducible rfl))⟩, ?_⟩
              refine ⟨.inr ⟨_, rfl, effN_self (eff_v rfl rfl (by simp -dsimp [valT, bB, hlt2, hb', toDs, hb] <;> with_reducible rfl))⟩, ?_⟩
              refine ⟨.inl (by kernel_rfl), ?_⟩
              refine ⟨.inl (by kernel_rfl), ?_⟩
              refine ⟨.inl (by kernel_rfl), ?_⟩
              refine ⟨.inl (by kernel_rfl), ?_⟩
              refine ⟨.inl (by kernel_rfl), ?_⟩
              refine ⟨.inl (by kernel_rfl), ?_⟩
              refine ⟨.inl (by kernel_rfl), ?_⟩
              refine ⟨.inl (by kernel_rfl), ?_⟩
              refine ⟨.inl (by kernel_rfl), ?_⟩
              refine ⟨.inl (by kernel_rfl), ?_⟩
              refine ⟨.inl (by kernel_rfl), ?_⟩
              refine ⟨.inl (by kernel_rfl), ?_⟩
              exact True.intro
            case s1u3 =>
              refine ⟨.inl (by kernel_rfl), ?_⟩
              refine ⟨.inr ⟨_, _, rfl, rfl, effN_of (eff_w (hdk := rfl) (hW := rfl) (hq := by simp -dsimp [valT, bB, hlt2, hb', toDs, hb] <;> (first | done | rfl | exact ⟨rfl, rfl⟩ | exact ⟨rfl, rfl, rfl⟩)) (hoo := rfl) (hv := by simp -dsimp [valT, bB, hlt2, hb', toDs, hb] <;> with_reducible rfl)) (by simp -dsimp [valT, canonO, insO, bB, hlt2, hb', toDs, hb] <;> with_reducible rfl)⟩, ?_⟩
              refine ⟨.inl (by kernel_rfl), ?_⟩
              exact True.intro
            case v2u3 =>
              refine ⟨.inr ⟨_, rfl, effN_self (eff_v rfl rfl (by simp -dsimp [valT, bB, hlt2, hb', toDs, hb] <;> with_reducible rfl))⟩, ?_⟩
              refine ⟨.inl (by kernel_rfl), ?_⟩
              refine ⟨.inl (by kernel_rfl), ?_⟩
              refine ⟨.inl (by kernel_rfl), ?_⟩
              refine ⟨.inl (by kernel_rfl), ?_⟩
              refine ⟨.inl (by kernel_rfl), ?_⟩
              refine ⟨.inl (by kernel_rfl), ?_⟩
              refine ⟨.inl (by kernel_rfl), ?_⟩
              refine ⟨.inl (by kernel_rfl), ?_⟩
              refine ⟨.inl (by kernel_rfl), ?_⟩
              refine ⟨.inl (by kernel_rfl), ?_⟩
              refine ⟨.inl (by kernel_rfl), ?_⟩
              refine ⟨.inl (by kernel_rfl), ?_⟩
              refine ⟨.inl (by kernel_rfl), ?_⟩
              refine ⟨.inr ⟨_, rfl, effN_self (eff_v rfl rfl (by simp -dsimp [valT, bB, hlt2, hb', toDs, hb] <;> with_reducible rfl))⟩, ?_⟩
              refine ⟨.inr ⟨_, rfl, effN_self (eff_v rfl rfl (by simp -dsimp [valT, bB, hlt2, hb', toDs, hb] <;> with_reducible rfl))⟩, ?_⟩
              refine ⟨.inl (by kernel_rfl), ?_⟩
              exact True.intro
            case s2u3 =>
              refine ⟨.inl (by kernel_rfl), ?_⟩
              refine ⟨.inl (by kernel_rfl), ?_⟩
              refine ⟨.inr ⟨_, _, rfl, rfl, effN_of (eff_w (hdk := rfl) (hW := rfl) (hq := by simp -dsimp [valT, bB, hlt2, hb', toDs, hb] <;> (first | done | rfl | exact ⟨rfl, rfl⟩ | exact ⟨rfl, rfl, rfl⟩)) (hoo := rfl) (hv := by simp -dsimp [valT, bB, hlt2, hb', toDs, hb] <;> with_reducible rfl)) (by simp -dsimp [valT, canonO, insO, bB, hlt2, hb', toDs, hb] <;> with_reducible rfl)⟩, ?_⟩
              exact True.intro
            case v3u3 =>
              refine ⟨.inl (by kernel_rfl), ?_⟩
              refine ⟨.inl (by kernel_rfl), ?_⟩
              refine ⟨.inl (by kernel_rfl), ?_⟩
              refine ⟨.inl (by kernel_rfl), ?_⟩
              refine ⟨.inl (by kernel_rfl), ?_⟩
              refine ⟨.inl (by kernel_rfl), ?_⟩
              refine ⟨.inl (by kernel_rfl), ?_⟩
              refine ⟨.inl (by kernel_rfl), ?_⟩
              refine ⟨.inl (by kernel_rfl), ?_⟩
              refine ⟨.inl (by kernel_rfl), ?_⟩
              refine ⟨.inl (by kernel_rfl), ?_⟩
              refine ⟨.inl (by kernel_rfl), ?_⟩
              refine ⟨.inl (by kernel_rfl), ?_⟩
              refine ⟨.inl (by kernel_rfl), ?_⟩
              refine ⟨.inl (by kernel_rfl), ?_⟩
              refine ⟨.inl (by kernel_rfl), ?_⟩
              refine ⟨.inl (by kernel_rfl), ?_⟩
              exact True.intro
            case s3u3 =>
              refine ⟨.inl (by kernel_rfl), ?_⟩
              refine ⟨.inl (by kernel_rfl), ?_⟩
              refine ⟨.inl (by kernel_rfl), ?_⟩
              exact True.intro
            case hoku3 => kernel_rfl
            refine ⟨rfl, ?_⟩
            (repeat' (first | (with_reducible refine br_d (fun _ => ?_) (fun _ => ?_)) | (with_reducible refine br_i (fun _ => ?_) (fun _ => ?_)) | (with_reducible refine nd_v (c2) (by first | rfl | (simp -dsimp [bA, bB, hlt, hlt2, ha, hb', hw, hw2]; done)) ?_) | (with_reducible refine nw_v (c2) rfl (by first | rfl | (simp -dsimp [bA, bB, hlt, hlt2, ha, hb', hw, hw2]; done)) (by first | rfl | (simp -dsimp [bA, bB, hlt, hlt2, ha, hb', hw, hw2]; done)) ?_) | (with_reducible refine dn_i follows_any (by kernel_rfl) ?_) | (with_reducible exact done_eq rfl) | (simp -dsimp [bA, bB, hlt, hlt2, ha, hb', hw, hw2]))); (all_goals try with_reducible refine done_eq ?_)
            refine hK _ (i + 1, j + 1, ver + 1, R ++ [B[j]]) ?_ ⟨by show i + 1 ≤ _; omega, by show j + 1 ≤ _; omega, by rw [← hR]; simp, by simp; omega⟩ (by show A.length - (i + 1) + (B.length - (j + 1)) < A.length - i + (B.length - j); omega)
            simp only [List.map_append, List.map_cons, List.map_nil, hb']
            exact Weak.same (by simp -dsimp) (by simp -dsimp) (by first | rfl | (simp [closedSt, Av.ids, Ow.ids, Cl.ids, Go.Smd.keys]; done))
      · have hj2 : j = B.length := by omega
        subst hj2
        have hb : (R.length + (A.length - i)) * 32 ≤ 140737488351232 := by omega
        rw [List.drop_of_length_le (Nat.le_refl _), uni_nil] at hR
        (repeat' (first | (with_reducible refine br_d (fun _ => ?_) (fun _ => ?_)) | (with_reducible refine br_i (fun _ => ?_) (fun _ => ?_)) | (with_reducible refine dn_i follows_any (by kernel_rfl) ?_) | (with_reducible exact done_eq rfl) | (simp -dsimp [bA, bB, hlt]))); (all_goals try with_reducible refine done_eq ?_)
        refine exD_p ?_
        refine aw_drawn_n follows_any [[], [], [1], [1, 2], [1, 2, 3], [], [5], [5, 6], [5, 6, 7], [], [5, 6, 7, 8, 9], [1, 2, 3, 4, 5, 6, 7, 8, 9, 10], [0, 1, 2, 3, 4, 5, 6, 7, 8, 9, 10, 11], [0, 1, 2, 3, 4, 5, 6, 7, 8, 9, 10, 11, 12], [0, 1, 2, 3, 4, 5, 6, 7, 8, 9, 10, 11, 12, 13]] [0, 1, 2, 3, 4, 5, 6, 7, 8, 9, 10, 11, 12, 13, 14] [11, 14] [([], ⟨[(102, ?m102u4), (103, ?m103u4), (104, ?m104u4), (105, ?m105u4), (106, ?m106u4), (107, ?m107u4), (108, ?m108u4), (109, ?m109u4), (110, ?m110u4), (111, ?m111u4), (112, ?m112u4), (113, ?m113u4), (114, ?m114u4), (115, ?m115u4)], ?bu4, ?o0u4⟩), ([11], ⟨[(102, ?m102u4), (103, ?m103u4), (104, ?m104u4), (105, ?m105u4), (106, ?m106u4), (107, ?m107u4), (108, ?m108u4), (109, ?m109u4), (110, ?m110u4), (111, ?m111u4), (112, ?m112u4), (113, ?m113u4), (114, ?m114u4), (115, ?m115u4)], ?bu4, ?o1u4⟩), ([11, 14], ⟨[(102, ?m102u4), (103, ?m103u4), (104, ?m104u4), (105, ?m105u4), (106, ?m106u4), (107, ?m107u4), (108, ?m108u4), (109, ?m109u4), (110, ?m110u4), (111, ?m111u4), (112, ?m112u4), (113, ?m113u4), (114, ?m114u4), (115, ?m115u4)], ?bu4, ?o2u4⟩)] ?hoku4 rfl rfl ?hbu4 ?hou4 ?hstu4 ?hku4
        case' hbu4 => rfl
        case' hou4 => rfl
        case' hstu4 => refine ⟨⟨?v0u4, ?s0u4⟩, ⟨⟨?v1u4, ?s1u4⟩, ⟨⟨?v2u4, ?s2u4⟩, True.intro⟩⟩⟩
        case v0u4 =>
          refine ⟨.inr ⟨_, rfl, effN_self (eff_v rfl rfl (by simp -dsimp [valT, bA, hlt, toDs, hb, hi, tA] <;> with_reducible rfl))⟩, ?_⟩
          refine ⟨.inr ⟨_, rfl, effN_self (eff_v rfl rfl (by simp -dsimp [valT, bA, hlt, toDs, hb, hi, tA] <;> with_reducible rfl))⟩, ?_⟩
          refine ⟨.inr ⟨_, rfl, effN_self (eff_v rfl rfl (by simp -dsimp [valT, bA, hlt, toDs, hb, hi, tA] <;> with_reducible rfl))⟩, ?_⟩
          refine ⟨.inr ⟨_, rfl, effN_self (eff_v rfl rfl (by simp -dsimp [valT, bA, hlt, toDs, hb, hi, tA] <;> with_reducible rfl))⟩, ?_⟩
          refine ⟨.inr ⟨_, rfl, effN_self (eff_v rfl rfl (by simp -dsimp [valT, bA, hlt, toDs, hb, hi, tA] <;> with_reducible rfl))⟩, ?_⟩
          refine ⟨.inr ⟨_, rfl, effN_self (eff_v rfl rfl (by simp -dsimp [valT, bA, hlt, toDs, hb, hi, tA] <;> with_reducible rfl))⟩, ?_⟩
          refine ⟨.inr ⟨_, rfl, effN_self (eff_v rfl rfl (by simp -dsimp [valT, bA, hlt, toDs, hb, hi, tA] <;> with_reducible rfl))⟩, ?_⟩
          refine ⟨.inr ⟨_, rfl, effN_self (eff_v rfl rfl (by simp -dsimp [valT, bA, hlt, toDs, hb, hi, tA] <;> with_reducible rfl))⟩, ?_⟩
          refine ⟨.inr ⟨_, rfl, effN_self (eff_v rfl rfl (by simp -dsimp [valT, bA, hlt, toDs, hb, hi, tA] <;> with_reducible rfl))⟩, ?_⟩
          refine ⟨.inr ⟨_, rfl, effN_self (eff_v rfl rfl (by simp -dsimp [valT, bA, hlt, toDs, hb, hi, tA] <;> with_reducible rfl))⟩, ?_⟩
          refine ⟨.inr ⟨_, rfl, effN_self (eff_v rfl rfl (by simp -dsimp [valT, bA, hlt, toDs, hb, hi, tA] <;> with_reducible rfl))⟩, ?_⟩
          refine ⟨.inl (by kernel_rfl), ?_⟩
          refine ⟨.inl (by kernel_rfl), ?_⟩
          refine ⟨.inl (by kernel_rfl), ?_⟩
          refine ⟨.inl (by kernel_rfl), ?_⟩
          exact True.intro
        case s0u4 =>
          refine ⟨.inr ⟨_, _, rfl, rfl, effN_of (eff_w (hdk := rfl) (hW := rfl) (hq := by simp -dsimp [valT, bA, hlt, toDs, hb, hi, tA] <;> (first | done | rfl | exact ⟨rfl, rfl⟩ | exact ⟨rfl, rfl, rfl⟩)) (hoo := rfl) (hv := by simp -dsimp [valT, bA, hlt, toDs, hb, hi, tA] <;> with_reducible rfl)) (by simp -dsimp [valT, canonO, insO, bA, hlt, toDs, hb, hi, tA] <;> with_reducible rfl)⟩, ?_⟩
          refine ⟨.inl (by kernel_rfl), ?_⟩
          exact True.intro
        case v1u4 =>
          refine ⟨.inr ⟨_, rfl, effN_self (eff_v rfl rfl (by simp -dsimp [valT, bA, hlt, toDs, hb, hi, tA] <;> with_reducible rfl))⟩, ?_⟩
          refine ⟨.inl (by kernel_rfl), ?_⟩
          refine ⟨.inl (by kernel_rfl), ?_⟩
          refine ⟨.inl (by kernel_rfl), ?_⟩
          refine ⟨.inl (by kernel_rfl), ?_⟩
          refine ⟨.inl (by kernel_rfl), ?_⟩
          refine ⟨.inl (by kernel_rfl), ?_⟩
          refine ⟨.inl (by kernel_rfl), ?_⟩
          refine ⟨.inl (by kernel_rfl), ?_⟩
          refine ⟨.inl (by kernel_rfl), ?_⟩
          refine ⟨.inl (by kernel_rfl), ?_⟩
          refine ⟨.inl (by kernel_rfl), ?_⟩
          refine ⟨.inr ⟨_, rfl, effN_self (eff_v rfl rfl (by simp -dsimp [valT, bA, hlt, toDs, hb, hi, tA] <;> with_reducible rfl))⟩, ?_⟩
          refine ⟨.inr ⟨_, rfl, effN_self (eff_v rfl rfl (by simp -dsimp [valT, bA, hlt, toDs, hb, hi, tA] <;> with_reducible rfl))⟩, ?_⟩
          refine ⟨.inl (by kernel_rfl), ?_⟩
          exact True.intro
        case s1u4 =>
          refine ⟨.inl (by kernel_rfl), ?_⟩
          refine ⟨.inr ⟨_, _, rfl, rfl, effN_of (eff_w (hdk := rfl) (hW := rfl) (hq := by simp -dsimp [valT, bA, hlt, toDs, hb, hi, tA] <;> (first | done | rfl | exact ⟨rfl, rfl⟩ | exact ⟨rfl, rfl, rfl⟩)) (hoo := rfl) (hv := by simp -dsimp [valT, bA, hlt, toDs, hb, hi, tA] <;> with_reducible rfl)) (by simp -dsimp [valT, canonO, insO, bA, hlt, toDs, hb, hi, tA] <;> with_reducible rfl)⟩, ?_⟩
          exact True.intro
        case v2u4 =>
          refine ⟨.inl (by kernel_rfl), ?_⟩
          refine ⟨.inl (by kernel_rfl), ?_⟩
          refine ⟨.inl (by kernel_rfl), ?_⟩
          refine ⟨.inl (by kernel_rfl), ?_⟩
          refine ⟨.inl (by kernel_rfl), ?_⟩
          refine ⟨.inl (by kernel_rfl), ?_⟩
          refine ⟨.inl (by kernel_rfl), ?_⟩
          refine ⟨.inl (by kernel_rfl), ?_⟩
          refine ⟨.inl (by kernel_rfl), ?_⟩
          refine ⟨.inl (by kernel_rfl), ?_⟩
          refine ⟨.inl (by kernel_rfl), ?_⟩
          refine ⟨.inl (by kernel_rfl), ?_⟩
          refine ⟨.inl (by kernel_rfl), ?_⟩
          refine ⟨.inl (by kernel_rfl), ?_⟩
          refine ⟨.inl (by kernel_rfl), ?_⟩
          exact True.intro
        case s2u4 =>
          refine ⟨.inl (by kernel_rfl), ?_⟩
          refine ⟨.inl (by kernel_rfl), ?_⟩
          exact True.intro
        case hoku4 => kernel_rfl
        refine ⟨rfl, ?_⟩
        (repeat' (first | (with_reducible refine br_d (fun _ => ?_) (fun _ => ?_)) | (with_reducible refine br_i (fun _ => ?_) (fun _ => ?_)) | (with_reducible refine dn_i follows_any (by kernel_rfl) ?_) | (with_reducible exact done_eq rfl) | (simp -dsimp [bA, bB]))); (all_goals try with_reducible refine done_eq ?_)
        rw [← hR]
        simp
    · have hi2 : i = A.length := by omega
      subst hi2
      rw [List.drop_of_length_le (Nat.le_refl _), nil_uni] at hR
      by_cases hlt2 : j < B.length
      · have hb : (R.length + (B.length - j)) * 32 ≤ 140737488351232 := by omega
        (repeat' (first | (with_reducible refine br_d (fun _ => ?_) (fun _ => ?_)) | (with_reducible refine br_i (fun _ => ?_) (fun _ => ?_)) | (with_reducible refine dn_i follows_any (by kernel_rfl) ?_) | (with_reducible exact done_eq rfl) | (simp -dsimp [bA, bB, hlt2]))); (all_goals try with_reducible refine done_eq ?_)
        refine exD_p ?_
        refine aw_drawn_n follows_any [[], [], [1], [1, 2], [1, 2, 3], [], [5], [5, 6], [5, 6, 7], [], [5, 6, 7, 8, 9], [1, 2, 3, 4, 5, 6, 7, 8, 9, 10], [0, 1, 2, 3, 4, 5, 6, 7, 8, 9, 10, 11], [0, 1, 2, 3, 4, 5, 6, 7, 8, 9, 10, 11, 12], [0, 1, 2, 3, 4, 5, 6, 7, 8, 9, 10, 11, 12, 13]] [0, 1, 2, 3, 4, 5, 6, 7, 8, 9, 10, 11, 12, 13, 14] [11, 14] [([], ⟨[(123, ?m123u5), (124, ?m124u5), (125, ?m125u5), (126, ?m126u5), (127, ?m127u5), (128, ?m128u5), (129, ?m129u5), (130, ?m130u5), (131, ?m131u5), (132, ?m132u5), (133, ?m133u5), (134, ?m134u5), (135, ?m135u5), (136, ?m136u5)], ?bu5, ?o0u5⟩), ([11], ⟨[(123, ?m123u5), (124, ?m124u5), (125, ?m125u5), (126, ?m126u5), (127, ?m127u5), (128, ?m128u5), (129, ?m129u5), (130, ?m130u5), (131, ?m131u5), (132, ?m132u5), (133, ?m133u5), (134, ?m134u5), (135, ?m135u5), (136, ?m136u5)], ?bu5, ?o1u5⟩), ([11, 14], ⟨[(123, ?m123u5), (124, ?m124u5), (125, ?m125u5), (126, ?m126u5), (127, ?m127u5), (128, ?m128u5), (129, ?m129u5), (130, ?m130u5), (131, ?m131u5), (132, ?m132u5), (133, ?m133u5), (134, ?m134u5), (135, ?m135u5), (136, ?m136u5)], ?bu5, ?o2u5⟩)] ?hoku5 rfl rfl ?hbu5 ?hou5 ?hstu5 ?hku5
        case' hbu5 => rfl
        case' hou5 => rfl
        case' hstu5 => refine ⟨⟨?v0u5, ?s0u5⟩, ⟨⟨?v1u5, ?s1u5⟩, ⟨⟨?v2u5, ?s2u5⟩, True.intro⟩⟩⟩
        case v0u5 =>
          refine ⟨.inr ⟨_, rfl, effN_self (eff_v rfl rfl (by simp -dsimp [valT, bB, hlt2, toDs, hb, hj, tB] <;> with_reducible rfl))⟩, ?_⟩
          refine ⟨.inr ⟨_, rfl, effN_self (eff_v rfl rfl (by simp -dsimp [valT, bB, hlt2, toDs, hb, hj, tB] <;> with_reducible rfl))⟩, ?_⟩
          refine ⟨.inr ⟨_, rfl, effN_self (eff_v rfl rfl (by simp -dsimp [valT, bB, hlt2, toDs, hb, hj, tB] <;> with_reducible rfl))⟩, ?_⟩
          refine ⟨.inr ⟨_, rfl, effN_self (eff_v rfl rfl (by simp -dsimp [valT, bB, hlt2, toDs, hb, hj, tB] <;> with_reducible rfl))⟩, ?_⟩
          refine ⟨.inr ⟨_, rfl, effN_self (eff_v rfl rfl (by simp -dsimp [valT, bB, hlt2, toDs, hb, hj, tB] <;> with_reducible rfl))⟩, ?_⟩
          refine ⟨.inr ⟨_, rfl, effN_self (eff_v rfl rfl (by simp -dsimp [valT, bB, hlt2, toDs, hb, hj, tB] <;> with_reducible rfl))⟩, ?_⟩
          refine ⟨.inr ⟨_, rfl, effN_self (eff_v rfl rfl (by simp -dsimp [valT, bB, hlt2, toDs, hb, hj, tB] <;> with_reducible rfl))⟩, ?_⟩
          refine ⟨.inr ⟨_, rfl, effN_self (eff_v rfl rfl (by simp -dsimp [valT, bB, hlt2, toDs, hb, hj, tB] <;> with_reducible rfl))⟩, ?_⟩
          refine ⟨.inr ⟨_, rfl, effN_self (eff_v rfl rfl (by simp -dsimp [valT, bB, hlt2, toDs, hb, hj, tB] <;> with_reducible rfl))⟩, ?_⟩
          refine ⟨.inr ⟨_, rfl, effN_self (eff_v rfl rfl (by simp -dsimp [valT, bB, hlt2, toDs, hb, hj, tB] <;> with_reducible rfl))⟩, ?_⟩
          refine ⟨.inr ⟨_, rfl, effN_self (eff_v rfl rfl (by simp -dsimp [valT, bB, hlt2, toDs, hb, hj, tB] <;> with_reducible rfl))⟩, ?_⟩
          refine ⟨.inl (by kernel_rfl), ?_⟩
          refine ⟨.inl (by kernel_rfl), ?_⟩
          refine ⟨.inl (by kernel_rfl), ?_⟩
          refine ⟨.inl (by kernel_rfl), ?_⟩
          exact True.intro
        case s0u5 =>
          refine ⟨.inr ⟨_, _, rfl, rfl, effN_of (eff_w (hdk := rfl) (hW := rfl) (hq := by simp -dsimp [valT, bB, hlt2, toDs, hb, hj, tB] <;> (first | done | rfl | exact ⟨rfl, rfl⟩ | exact ⟨rfl, rfl, rfl⟩)) (hoo := rfl) (hv := by simp -dsimp [valT, bB, hlt2, toDs, hb, hj, tB] <;> with_reducible rfl)) (by simp -dsimp [valT, canonO, insO, bB, hlt2, toDs, hb, hj, tB] <;> with_reducible rfl)⟩, ?_⟩
          refine ⟨.inl (by kernel_rfl), ?_⟩
          exact True.intro
        case v1u5 =>
          refine ⟨.inr ⟨_, rfl, effN_self (eff_v rfl rfl (by simp -dsimp [valT, bB, hlt2, toDs, hb, hj, tB] <;> with_reducible rfl))⟩, ?_⟩
          refine ⟨.inl (by kernel_rfl), ?_⟩
          refine ⟨.inl (by kernel_rfl), ?_⟩
          refine ⟨.inl (by kernel_rfl), ?_⟩
          refine ⟨.inl (by kernel_rfl), ?_⟩
          refine ⟨.inl (by kernel_rfl), ?_⟩
          refine ⟨.inl (by kernel_rfl), ?_⟩
          refine ⟨.inl (by kernel_rfl), ?_⟩
          refine ⟨.inl (by kernel_rfl), ?_⟩
          refine ⟨.inl (by kernel_rfl), ?_⟩
          refine ⟨.inl (by kernel_rfl), ?_⟩
          refine ⟨.inl (by kernel_rfl), ?_⟩
          refine ⟨.inr ⟨_, rfl, effN_self (eff_v rfl rfl (by simp -dsimp [valT, bB, hlt2, toDs, hb, hj, tB] <;> with_reducible rfl))⟩, ?_⟩
          refine ⟨.inr ⟨_, rfl, effN_self (eff_v rfl rfl (by simp -dsimp [valT, bB, hlt2, toDs, hb, hj, tB] <;> with_reducible rfl))⟩, ?_⟩
          refine ⟨.inl (by kernel_rfl), ?_⟩
          exact True.intro
        case s1u5 =>
          refine ⟨.inl (by kernel_rfl), ?_⟩
          refine ⟨.inr ⟨_, _, rfl, rfl, effN_of (eff_w (hdk := rfl) (hW := rfl) (hq := by simp -dsimp [valT, bB, hlt2, toDs, hb, hj, tB] <;> (first | done | rfl | exact ⟨rfl, rfl⟩ | exact ⟨rfl, rfl, rfl⟩)) (hoo := rfl) (hv := by simp -dsimp [valT, bB, hlt2, toDs, hb, hj, tB] <;> with_reducible rfl)) (by simp -dsimp [valT, canonO, insO, bB, hlt2, toDs, hb, hj, tB] <;> with_reducible rfl)⟩, ?_⟩
          exact True.intro
        case v2u5 =>
          refine ⟨.inl (by kernel_rfl), ?_⟩
          refine ⟨.inl (by kernel_rfl), ?_⟩
          refine ⟨.inl (by kernel_rfl), ?_⟩
          refine ⟨.inl (by kernel_rfl), ?_⟩
          refine ⟨.inl (by kernel_rfl), ?_⟩
          refine ⟨.inl (by kernel_rfl), ?_⟩
          refine ⟨.inl (by kernel_rfl), ?_⟩
          refine ⟨.inl (by kernel_rfl), ?_⟩
          refine ⟨.inl (by kernel_rfl), ?_⟩
          refine ⟨.inl (by kernel_rfl), ?_⟩
          refine ⟨.inl (by kernel_rfl), ?_⟩
          refine ⟨.inl (by kernel_rfl), ?_⟩
          refine ⟨.inl (by kernel_rfl), ?_⟩
          refine ⟨.inl (by kernel_rfl), ?_⟩
          refine ⟨.inl (by kernel_rfl), ?_⟩
          exact True.intro
        case s2u5 =>
          refine ⟨.inl (by kernel_rfl), ?_⟩
          refine ⟨.inl (by kernel_rfl), ?_⟩
          exact True.intro
        case hoku5 => kernel_rfl
        refine ⟨rfl, ?_⟩
        (repeat' (first | (with_reducible refine br_d (fun _ => ?_) (fun _ => ?_)) | (with_reducible refine br_i (fun _ => ?_) (fun _ => ?_)) | (with_reducible refine dn_i follows_any (by kernel_rfl) ?_) | (with_reducible exact done_eq rfl) | (simp -dsimp [bA, bB]))); (all_goals try with_reducible refine done_eq ?_)
        rw [← hR]
        simp
      · have hj2 : j = B.length := by omega
        subst hj2
        (repeat' (first | (with_reducible refine br_d (fun _ => ?_) (fun _ => ?_)) | (with_reducible refine br_i (fun _ => ?_) (fun _ => ?_)) | (with_reducible refine dn_i follows_any (by kernel_rfl) ?_) | (with_reducible exact done_eq rfl) | (simp -dsimp [bA, bB]))); (all_goals try with_reducible refine done_eq ?_)
        rw [← hR]
        simp
end Go.Smd
end
