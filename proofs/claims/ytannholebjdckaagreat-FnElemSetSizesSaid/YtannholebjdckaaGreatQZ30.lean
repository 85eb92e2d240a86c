/- Part 30 of the proof: Ew. -/
import Derived.Test.YtannholebjdckaaGreatQZ29
set_option linter.unusedVariables false
section
set_option linter.unusedSimpArgs false
set_option maxRecDepth 100000
set_option maxHeartbeats 8000000
namespace Go.Smd
open Go.RowKit Go.Proofs
theorem esIntersection_a (A B : List LE) (hl : (A.length + B.length) * 32 ≤ 140737488351232) (hA : ∀ x ∈ A, fitsLE x) (hB : ∀ x ∈ B, fitsLE x) :
    ACalls Tryz.prog 97 [.c (.d (.pt [dLPath A])), .c (.d (.pt [dLPath B]))] (fun r => r = .c (.d (.pt [dLPath (intE A B)]))) := by
  have bA : A.length ≤ 9223372036854775807 := by omega
  have bB : B.length ≤ 9223372036854775807 := by omega
  have tA : List.take A.length (A.map leD) = A.map leD := List.take_of_length_le (by simp)
  refine acalls_ex [(4, ([14], [(0, []), (1, []), (2, []), (3, []), (4, []), (5, []), (6, []), (7, []), (8, []), (9, []), (10, []), (11, []), (12, []), (13, []), (14, [])])), (6, ([14], [(0, []), (1, []), (2, []), (3, []), (4, []), (5, []), (6, []), (7, []), (8, []), (9, []), (10, []), (11, []), (12, []), (13, []), (14, []), (15, [])]))] Tryz.func97 (by kernel_rfl) rfl Tryz.ntmps97 Tryz.results97 (Nat.le_of_ble_eq_true (by kernel_rfl)) ?_; intro hok w0 S0
  clear hok
  (repeat' (first | (with_reducible refine br_d (fun _ => ?_) (fun _ => ?_)) | (with_reducible refine br_i (fun _ => ?_) (fun _ => ?_)) | (with_reducible refine dn_i follows_any (by kernel_rfl) ?_) | (with_reducible exact done_eq rfl) | (simp -dsimp))); (all_goals try with_reducible refine done_eq ?_)
  refine ex_loop (fun x : Nat × Nat × Nat × List LE => ⟨[(0, .c (.d (.pt [dLPath A]))), (1, .c (.d (.pt [dLPath B]))), (5, .c (.own 9 0)), (6, aI x.1), (7, aI x.2.1)], [(9, .cells [.gs 77 x.2.2.1] 153), (77, .arr x.2.2.1 98 (x.2.2.2.map leD))]⟩)
    (fun x => x.1 ≤ A.length ∧ x.2.1 ≤ B.length ∧ x.2.2.2 ++ intE (A.drop x.1) (B.drop x.2.1) = intE A B ∧ x.2.2.2.length ≤ x.1) (fun x => A.length - x.1 + (B.length - x.2.1)) (0, 0, 0, []) ?_ (by simp) ?_
  · refine Weak.trans (Weak.adopt (z := 9) (id := 77) (T := 153) (E := 98) rfl rfl (by decide)) ?_
    exact Weak.same (by simp -dsimp) (by simp -dsimp) (by first | rfl | (simp [closedSt, Av.ids, Ow.ids, Cl.ids, Go.Smd.keys]; done))
  · rintro ⟨i, j, ver, R⟩ ⟨hi, hj, hR, hRl⟩ K hK
    simp only at hi hj hR hRl
    by_cases hlt : i < A.length
    · by_cases hlt2 : j < B.length
      · have hw : IntKind.wrap .i64 ((i : Int) + 1) = ((i + 1 : Nat) : Int) := by rw [wrap_i64] <;> omega
        have hw2 : IntKind.wrap .i64 ((j : Int) + 1) = ((j + 1 : Nat) : Int) := by rw [wrap_i64] <;> omega
        have hb : (R.length + 1) * 32 ≤ 140737488351232 := by omega
        have c1 := elemLess_a _ _ (hA _ (List.getElem_mem hlt)) (hB _ (List.getElem_mem hlt2))
        have c2 := elemLess_a _ _ (hB _ (List.getElem_mem hlt2)) (hA _ (List.getElem_mem hlt))
        obtain ⟨a0, a1, a2, a3, ha, ha'⟩ := leD_four A[i]
        obtain ⟨b0, b1, b2, b3, hb', hb''⟩ := leD_four B[j]
        rw [ha', hb''] at c1 c2
        rw [drop_cons hlt, drop_cons hlt2, intE] at hR
        by_cases h1 : cmpLE A[i] B[j] < 0
        · rw [if_pos h1, ← drop_cons hlt2] at hR
          rw [decide_eq_true h1] at c1
          (repeat' (first | (with_reducible refine br_d (fun _ => ?_) (fun _ => ?_)) | (with_reducible refine br_i (fun _ => ?_) (fun _ => ?_)) | (with_reducible refine nd_v (c1) (by first | rfl | (simp -dsimp [bA, bB, hlt, hlt2, ha, hb', hw, hw2]; done)) ?_) | (with_reducible refine nw_v (c1) rfl (by first | rfl | (simp -dsimp [bA, bB, hlt, hlt2, ha, hb', hw, hw2]; done)) (by first | rfl | (simp -dsimp [bA, bB, hlt, hlt2, ha, hb', hw, hw2]; done)) ?_) | (with_reducible refine dn_i follows_any (by kernel_rfl) ?_) | (with_reducible exact done_eq rfl) | (simp -dsimp [bA, bB, hlt, hlt2, ha, hb', hw, hw2]))); (all_goals try with_reducible refine done_eq ?_)
          refine hK _ (i + 1, j, ver, R) ?_ ⟨by show i + 1 ≤ _; omega, hj, by rw [← hR], by show R.length ≤ i + 1; omega⟩ (by show A.length - (i + 1) + (B.length - j) < A.length - i + (B.length - j); omega)
          exact Weak.same (by simp -dsimp) (by simp -dsimp) (by first | rfl | (simp [closedSt, Av.ids, Ow.ids, Cl.ids, Go.Smd.keys]; done))
        · rw [if_neg h1] at hR
          rw [decide_eq_false h1] at c1
          by_cases h2 : cmpLE B[j] A[i] < 0
          · rw [if_pos h2, ← drop_cons hlt] at hR
            rw [decide_eq_true h2] at c2
            (repeat' (first | (with_reducible refine br_d (fun _ => ?_) (fun _ => ?_)) | (with_reducible refine br_i (fun _ => ?_) (fun _ => ?_)) | (with_reducible refine nd_v (c1) (by first | rfl | (simp -dsimp [bA, bB, hlt, hlt2, ha, hb', hw, hw2]; done)) ?_) | (with_reducible refine nw_v (c1) rfl (by first | rfl | (simp -dsimp [bA, bB, hlt, hlt2, ha, hb', hw, hw2]; done)) (by first | rfl | (simp -dsimp [bA, bB, hlt, hlt2, ha, hb', hw, hw2]; done)) ?_) | (with_reducible refine nd_v (c2) (by first | rfl | (simp -dsimp [bA, bB, hlt, hlt2, ha, hb', hw, hw2]; done)) ?_) | (with_reducible refine nw_v (c2) rfl (by first | rfl | (simp -dsimp [bA, bB, hlt, hlt2, ha, hb', hw, hw2]; done)) (by first | rfl | (simp -dsimp [bA, bB, hlt, hlt2, ha, hb', hw, hw2]; done)) ?_) | (with_reducible refine dn_i follows_any (by kernel_rfl) ?_) | (with_reducible exact done_eq rfl) | (simp -dsimp [bA, bB, hlt, hlt2, ha, hb', hw, hw2]))); (all_goals try with_reducible refine done_eq ?_)
            refine hK _ (i, j + 1, ver, R) ?_ ⟨hi, by show j + 1 ≤ _; omega, by rw [← hR], by show R.length ≤ i; omega⟩ (by show A.length - i + (B.length - (j + 1)) < A.length - i + (B.length - j); omega)
            exact Weak.same (by simp -dsimp) (by simp -dsimp) (by first | rfl | (simp [closedSt, Av.ids, Ow.ids, Cl.ids, Go.Smd.keys]; done))
          · rw [if_neg h2] at hR
            rw [decide_eq_false h2] at c2
            (repeat' (first | (with_reducible refine br_d (fun _ => ?_) (fun _ => ?_)) | (with_reducible refine br_i (fun _ => ?_) (fun _ => ?_)) | (with_reducible refine nd_v (c1) (by first | rfl | (simp -dsimp [bA, bB, hlt, hlt2, ha, hb', hw, hw2]; done)) ?_) | (with_reducible refine nw_v (c1) rfl (by first | rfl | (simp -dsimp [bA, bB, hlt, hlt2, ha, hb', hw, hw2]; done)) (by first | rfl | (simp -dsimp [bA, bB, hlt, hlt2, ha, hb', hw, hw2]; done)) ?_) | (with_reducible refine nd_v (c2) (by first | rfl | (simp -dsimp [bA, bB, hlt, hlt2, ha, hb', hw, hw2]; done)) ?_) | (with_reducible refine nw_v (c2) rfl (by first | rfl | (simp -dsimp [bA, bB, hlt, hlt2, ha, hb', hw, hw2]; done)) (by first | rfl | (simp -dsimp [bA, bB, hlt, hlt2, ha, hb', hw, hw2]; done)) ?_) | (with_reducible refine dn_i follows_any (by kernel_rfl) ?_) | (with_reducible exact done_eq rfl) | (simp -dsimp [bA, bB, hlt, hlt2, ha, hb', hw, hw2]))); (all_goals try with_reducible refine done_eq ?_)
            refine exD_p ?_
            refine aw_drawn_n follows_any [[], [], [1], [1, 2], [1, 2, 3], [], [5], [5, 6], [5, 6, 7], [], [5, 6, 7, 8, 9], [5, 6, 7, 8, 9, 10], [5, 6, 7, 8, 9, 10, 11], [1, 2, 3, 4, 5, 6, 7, 8, 9, 10, 11, 12], [0, 1, 2, 3, 4, 5, 6, 7, 8, 9, 10, 11, 12, 13], [0, 1, 2, 3, 4, 5, 6, 7, 8, 9, 10, 11, 12, 13, 14], [0, 1, 2, 3, 4, 5, 6, 7, 8, 9, 10, 11, 12, 13, 14, 15]] [0, 1, 2, 3, 4, 5, 6, 7, 8, 9, 10, 11, 12, 13, 14, 15, 16] [12, 13, 16] [([], ⟨[(59, ?m59u1), (60, ?m60u1), (61, ?m61u1), (62, ?m62u1), (63, ?m63u1), (64, ?m64u1), (65, ?m65u1), (66, ?m66u1), (67, ?m67u1), (68, ?m68u1), (69, ?m69u1), (70, ?m70u1), (71, ?m71u1), (72, ?m72u1), (73, ?m73u1), (74, ?m74u1)], ?bu1, ?o0u1⟩), ([12], ⟨[(59, ?m59u1), (60, ?m60u1), (61, ?m61u1), (62, ?m62u1), (63, ?m63u1), (64, ?m64u1), (65, ?m65u1), (66, ?m66u1), (67, ?m67u1), (68, ?m68u1), (69, ?m69u1), (70, ?m70u1), (71, ?m71u1), (72, ?m72u1), (73, ?m73u1), (74, ?m74u1)], ?bu1, ?o1u1⟩), ([12, 13], ⟨[(59, ?m59u1), (60, ?m60u1), (61, ?m61u1), (62, ?m62u1), (63, ?m63u1), (64, ?m64u1), (65, ?m65u1), (66, ?m66u1), (67, ?m67u1), (68, ?m68u1), (69, ?m69u1), (70, ?m70u1), (71, ?m71u1), (72, ?m72u1), (73, ?m73u1), (74, ?m74u1)], ?bu1, ?o2u1⟩), ([12, 13, 16], ⟨[(59, ?m59u1), (60, ?m60u1), (61, ?m61u1), (62, ?m62u1), (63, ?m63u1), (64, ?m64u1), (65, ?m65u1), (66, ?m66u1), (67, ?m67u1), (68, ?m68u1), (69, ?m69u1), (70, ?m70u1), (71, ?m71u1), (72, ?m72u1), (73, ?m73u1), (74, ?m74u1)], ?bu1, ?o3u1⟩)] ?hoku1 rfl rfl ?hbu1 ?hou1 ?hstu1 ?hku1
            case' hbu1 => rfl
            case' hou1 => rfl
            case' hstu1 => refine ⟨⟨?v0u1, ?s0u1⟩, ⟨⟨?v1u1, ?s1u1⟩, ⟨⟨?v2u1, ?s2u1⟩, ⟨⟨?v3u1, ?s3u1⟩, True.intro⟩⟩⟩⟩
            case v0u1 =>
              refine ⟨.inr ⟨_, rfl, effN_self (eff_v rfl rfl (by simp -dsimp [valT, bA, hlt, ha, toDs, hb] <;> with_reducible rfl))⟩, ?_⟩
              refine ⟨.inr ⟨_, rfl, effN_self (eff_v rfl rfl (by simp -dsimp [valT, bA, hlt, ha, toDs, hb] <;> with_reducible rfl))⟩, ?_⟩
              refine ⟨.inr ⟨_, rfl, effN_self (eff_v rfl rfl (by simp -dsimp [valT, bA, hlt, ha, toDs, hb] <;> with_reducible rfl))⟩, ?_⟩
              refine ⟨.inr ⟨_, rfl, effN_self (eff_v rfl rfl (by simp -dsimp [valT, bA, hlt, ha, toDs, hb] <;> with_reducible rfl))⟩, ?_⟩
              refine ⟨.inr ⟨_, rfl, effN_self (eff_v rfl rfl (by simp -dsimp [valT, bA, hlt, ha, toDs, hb] <;> with_reducible rfl))⟩, ?_⟩
              refine ⟨.inr ⟨_, rfl, effN_self (eff_v rfl rfl (by simp -dsimp [valT, bA, hlt, ha, toDs, hb] <;> with_reducible rfl))⟩, ?_⟩
              refine ⟨.inr ⟨_, rfl, effN_self (eff_v rfl rfl (by simp -dsimp [valT, bA, hlt, ha, toDs, hb] <;> with_reducible rfl))⟩, ?_⟩
              refine ⟨.inr ⟨_, rfl, effN_self (eff_v rfl rfl (by simp -dsimp [valT, bA, hlt, ha, toDs, hb] <;> with_reducible rfl))⟩, ?_⟩
              refine ⟨.inr ⟨_, rfl, effN_self (eff_v rfl rfl (by simp -dsimp [valT, bA, hlt, ha, toDs, hb] <;> with_reducible rfl))⟩, ?_⟩
              refine ⟨.inr ⟨_, rfl, effN_self (eff_v rfl rfl (by simp -dsimp [valT, bA, hlt, ha, toDs, hb] <;> with_reducible rfl))⟩, ?_⟩
              refine ⟨.inr ⟨_, rfl, effN_self (eff_v rfl rfl (by simp -dsimp [valT, bA, hlt, ha, toDs, hb] <;> with_reducible rfl))⟩, ?_⟩
              refine ⟨.inr ⟨_, rfl, effN_self (eff_v rfl rfl (by simp -dsimp [valT, bA, hlt, ha, toDs, hb] <;> with_reducible rfl))⟩, ?_⟩
              refine ⟨.inl (by kernel_rfl), ?_⟩
              refine ⟨.inl (by kernel_rfl), ?_⟩
              refine ⟨.inl (by kernel_rfl), ?_⟩
              refine ⟨.inl (by kernel_rfl), ?_⟩
              refine ⟨.inl (by kernel_rfl), ?_⟩
              exact True.intro
            case s0u1 =>
              refine ⟨.inr ⟨_, _, rfl, rfl, effN_of (eff_w (hdk := rfl) (hW := rfl) (hq := by simp -dsimp [valT, bA, hlt, ha, toDs, hb] <;> (first | done | rfl | exact ⟨rfl, rfl⟩ | exact ⟨rfl, rfl, rfl⟩)) (hoo := rfl) (hv := by simp -dsimp [valT, bA, hlt, ha, toDs, hb] <;> with_reducible rfl)) (by simp -dsimp [valT, canonO, insO, bA, hlt, ha, toDs, hb] <;> with_reducible rfl)⟩, ?_⟩
              refine ⟨.inl (by kernel_rfl), ?_⟩
              refine ⟨.inl (by kernel_rfl), ?_⟩
              exact True.intro
            case v1u1 =>
              refine ⟨.inr ⟨_, rfl, effN_self (eff_v rfl rfl (by simp -dsimp [valT, bA, hlt, ha, toDs, hb] <;> with_reducible rfl))⟩, ?_⟩
              refine ⟨.inr ⟨_, rfl, effN_self (eff_v rfl rfl (by simp -dsimp [valT, bA, hlt, ha, toDs, hb] <;> with_reducible rfl))⟩, ?_⟩
              refine ⟨.inr ⟨_, rfl, effN_self (eff_v rfl rfl (by simp -dsimp [valT, bA, hlt, ha, toDs, hb] <;> with_reducible rfl))⟩, ?_⟩
              refine ⟨.inr ⟨_, rfl, effN_self (eff_v rfl rfl (by simp -dsimp [valT, bA, hlt, ha, toDs, hb] <;> with_reducible rfl))⟩, ?_⟩
              refine ⟨.inr ⟨_, rfl, effN_self (eff_v rfl rfl (by simp -dsimp [valT, bA, hlt, ha, toDs, hb] <;> with_reducible rfl))⟩, ?_⟩
              refine ⟨.inl (by kernel_rfl), ?_⟩
              refine ⟨.inl (by kernel_rfl), ?_⟩
              refine ⟨.inl (by kernel_rfl), ?_⟩
              refine ⟨.inl (by kernel_rfl), ?_⟩
              refine ⟨.inl (by kernel_rfl), ?_⟩
              refine ⟨.inl (by kernel_rfl), ?_⟩
              refine ⟨.inl (by kernel_rfl), ?_⟩
              refine ⟨.inl (by kernel_rfl), ?_⟩
              refine ⟨.inl (by kernel_rfl), ?_⟩
              refine ⟨.inl (by kernel_rfl), ?_⟩
              refine ⟨.inl (by kernel_rfl), ?_⟩
              refine ⟨.inl (by kernel_rfl), ?_⟩
              exact True.intro
            case s1u1 =>
              refine ⟨.inl (by kernel_rfl), ?_⟩
              refine ⟨.inr ⟨_, _, rfl, rfl, effN_of (eff_w (hdk := rfl) (hW := rfl) (hq := by simp -dsimp [valT, bA, hlt, ha, toDs, hb] <;> (first | done | rfl | exact ⟨rfl, rfl⟩ | exact ⟨rfl, rfl, rfl⟩)) (hoo := rfl) (hv := by simp -dsimp [valT, bA, hlt, ha, toDs, hb] <;> with_reducible rfl)) (by simp -dsimp [valT, canonO, insO, bA, hlt, ha, toDs, hb] <;> with_reducible rfl)⟩, ?_⟩
              refine ⟨.inl (by kernel_rfl), ?_⟩
              exact True.intro
            case v2u1 =>
              refine ⟨.inr ⟨_, rfl, effN_self (eff_v rfl rfl (by simp -dsimp [valT, bA, hlt, ha, toDs, hb] <;> with_reducible rfl))⟩, ?_⟩
              refine ⟨.inl (by kernel_rfl), ?_⟩
              refine ⟨.inl (by kernel_rfl), ?_⟩
              refine ⟨.inl (by kernel_rfl), ?_⟩
              refine ⟨.inl (by kernel_rfl), ?_⟩
              refine ⟨.inl (by kernel_rfl), ?_⟩
              refine ⟨.inl (by kernel_rfl), ?_⟩
              refine ⟨.inl (by kernel_rfl), ?_⟩
              refine ⟨.inl (by kernel_rfl), ?_⟩
              refine ⟨.inl (by kernel_rfl), ?_⟩
              refine ⟨.inl (by kernel_rfl), ?_⟩
              refine ⟨.inl (by kernel_rfl), ?_⟩
              refine ⟨.inl (by kernel_rfl), ?_⟩
              refine ⟨.inl (by kernel_rfl), ?_⟩
              refine ⟨.inr ⟨_, rfl, effN_self (eff_v rfl rfl (by simp -dsimp [valT, bA, hlt, ha, toDs, hb] <;> with_reducible rfl))⟩, ?_⟩
              refine ⟨.inr ⟨_, rfl, effN_self (eff_v rfl rfl (by simp -dsimp [valT, bA, hlt, ha, toDs, hb] <;> with_reducible rfl))⟩, ?_⟩
              refine ⟨.inl (by kernel_rfl), ?_⟩
              exact True.intro
            case s2u1 =>
              refine ⟨.inl (by kernel_rfl), ?_⟩
              refine ⟨.inl (by kernel_rfl), ?_⟩
              refine ⟨.inr ⟨_, _, rfl, rfl, effN_of (eff_w (hdk := rfl) (hW := rfl) (hq := by simp -dsimp [valT, bA, hlt, ha, toDs, hb] <;> (first | done | rfl | exact ⟨rfl, rfl⟩ | exact ⟨rfl, rfl, rfl⟩)) (hoo := rfl) (hv := by simp -dsimp [valT, bA, hlt, ha, toDs, hb] <;> with_reducible rfl)) (by simp -dsimp [valT, canonO, insO, bA, hlt, ha, toDs, hb] <;> with_reducible rfl)⟩, ?_⟩
              exact True.intro
            case v3u1 =>
              refine ⟨.inl (by kernel_rfl), ?_⟩
              refine ⟨.inl (by kernel_rfl), ?_⟩
              refine ⟨.inl (by kernel_rfl), ?_⟩
              refine ⟨.inl (by kernel_rfl), ?_⟩
              refine ⟨.inl (by kernel_rfl), ?_⟩
              refine ⟨.inl (by kernel_rfl), ?_⟩
              refine ⟨.inl (by kernel_rfl), ?_⟩
              refine ⟨.inl (by kernel_rfl), ?_⟩
              refine ⟨.inl (by kernel_rfl), ?_⟩
              refine ⟨.inl (by kernel_rfl), ?_⟩
              refine ⟨.inl (by kernel_rfl), ?_⟩
              refine ⟨.inl (by kernel_rfl), ?_⟩
              refine ⟨.inl (by kernel_rfl), ?_⟩
              refine ⟨.inl (by kernel_rfl), ?_⟩
              refine ⟨.inl (by kernel_rfl), ?_⟩
              refine ⟨.inl (by kernel_rfl), ?_⟩
              refine ⟨.inl (by kernel_rfl), ?_⟩
              exact True.intro
            case s3u1 =>
              refine ⟨.inl (by kernel_rfl), ?_⟩
              refine ⟨.inl (by kernel_rfl), ?_⟩
              refine ⟨.inl (by kernel_rfl), ?_⟩
              exact True.intro
            case hoku1 => kernel_rfl
            refine ⟨rfl, ?_⟩
            (repeat' (first | (with_reducible refine br_d (fun _ => ?_) (fun _ => ?_)) | (with_reducible refine br_i (fun _ => ?_) (fun _ => ?_)) | (with_reducible refine dn_i follows_any (by kernel_rfl) ?_) | (with_reducible exact done_eq rfl) | (simp -dsimp [hw, hw2]))); (all_goals try with_reducible refine done_eq ?_)
            refine hK _ (i + 1, j + 1, ver + 1, R ++ [A[i]]) ?_ ⟨by show i + 1 ≤ _; omega, by show j + 1 ≤ _; omega, by rw [← hR]; simp, by simp; omega⟩ (by show A.length - (i + 1) + (B.length - (j + 1)) < A.length - i + (B.length - j); omega)
            simp only [List.map_append, List.map_cons, List.map_nil, ha]
            exact Weak.same (by simp -dsimp) (by simp -dsimp) (by first | rfl | (simp [closedSt, Av.ids, Ow.ids, Cl.ids, Go.Smd.keys]; done))
      · have hj2 : j = B.length := by omega
        subst hj2
        rw [List.drop_of_length_le (Nat.le_refl B.length), int_nil] at hR
        (repeat' (first | (with_reducible refine br_d (fun _ => ?_) (fun _ => ?_)) | (with_reducible refine br_i (fun _ => ?_) (fun _ => ?_)) | (with_reducible refine dn_i follows_any (by kernel_rfl) ?_) | (with_reducible exact done_eq rfl) | (simp -dsimp [bA, bB, hlt]))); (all_goals try with_reducible refine done_eq ?_)
        rw [← hR]
        simp
    · have hi2 : i = A.length := by omega
      subst hi2
      rw [List.drop_of_length_le (Nat.le_refl A.length), nil_int] at hR
      (repeat' (first | (with_reducible refine br_d (fun _ => ?_) (fun _ => ?_)) | (with_reducible refine br_i (fun _ => ?_) (fun _ => ?_)) | (with_reducible refine dn_i follows_any (by kernel_rfl) ?_) | (with_reducible exact done_eq rfl) | (simp -dsimp [bA, bB]))); (all_goals try with_reducible refine done_eq ?_)
      rw [← hR]
      simp
theorem esDifference_a (A B : List LE) (hl : (A.length + B.length) * 32 ≤ 140737488351232) (hA : ∀ x ∈ A, fitsLE x) (hB : ∀ x ∈ B, fitsLE x) :
    ACalls Tryz.prog 98 [.c (.d (.pt [dLPath A])), .c (.d (.pt [dLPath B]))] (fun r => r = .c (.d (.pt [dLPath (difE A B)]))) := by
  have bA : A.length ≤ 9223372036854775807 := by omega
  have bB : B.length ≤ 9223372036854775807 := by omega
  have tA : List.take A.length (A.map leD) = A.map leD := List.take_of_length_le (by simp)
  refine acalls_ex [(4, ([14], [(0, []), (1, []), (2, []), (3, []), (4, []), (5, []), (6, []), (7, []), (8, []), (9, []), (10, []), (11, []), (12, []), (13, []), (14, [])])), (7, ([14], [(0, []), (1, []), (2, []), (3, []), (4, []), (5, []), (6, []), (7, []), (8, []), (9, []), (10, []), (11, []), (12, []), (13, []), (14, []), (15, [])]))] Tryz.func98 (by kernel_rfl) rfl Tryz.ntmps98 Tryz.results98 (Nat.le_of_ble_eq_true (by kernel_rfl)) ?_; intro hok w0 S0
  clear hok
  (repeat' (first | (with_reducible refine br_d (fun _ => ?_) (fun _ => ?_)) | (with_reducible refine br_i (fun _ => ?_) (fun _ => ?_)) | (with_reducible refine dn_i follows_any (by kernel_rfl) ?_) | (with_reducible exact done_eq rfl) | (simp -dsimp))); (all_goals try with_reducible refine done_eq ?_)
  refine ex_loop (fun x : Nat × Nat × Nat × List LE => ⟨[(0, .c (.d (.pt [dLPath A]))), (1, .c (.d (.pt [dLPath B]))), (5, .c (.own 9 0)), (6, aI x.1), (7, aI x.2.1)], [(9, .cells [.gs 77 x.2.2.1] 153), (77, .arr x.2.2.1 98 (x.2.2.2.map leD))]⟩)
    (fun x => x.1 ≤ A.length ∧ x.2.1 ≤ B.length ∧ x.2.2.2 ++ difE (A.drop x.1) (B.drop x.2.1) = difE A B ∧ x.2.2.2.length ≤ x.1) (fun x => A.length - x.1 + (B.length - x.2.1)) (0, 0, 0, []) ?_ (by simp) ?_
  · refine Weak.trans (Weak.adopt (z := 9) (id := 77) (T := 153) (E := 98) rfl rfl (by decide)) ?_
    exact Weak.same (by simp -dsimp) (by simp -dsimp) (by first | rfl | (simp [closedSt, Av.ids, Ow.ids, Cl.ids, Go.Smd.keys]; done))
  · rintro ⟨i, j, ver, R⟩ ⟨hi, hj, hR, hRl⟩ K hK
    simp only at hi hj hR hRl
    by_cases hlt : i < A.length
    · by_cases hlt2 : j < B.length
      · have hw : IntKind.wrap .i64 ((i : Int) + 1) = ((i + 1 : Nat) : Int) := by rw [wrap_i64] <;> omega
        have hw2 : IntKind.wrap .i64 ((j : Int) + 1) = ((j + 1 : Nat) : Int) := by rw [wrap_i64] <;> omega
        have hb : (R.length + 1) * 32 ≤ 140737488351232 := by omega
        have c1 := elemLess_a _ _ (hA _ (List.getElem_mem hlt)) (hB _ (List.getElem_mem hlt2))
        have c2 := elemLess_a _ _ (hB _ (List.getElem_mem hlt2)) (hA _ (List.getElem_mem hlt))
        obtain ⟨a0, a1, a2, a3, ha, ha'⟩ := leD_four A[i]
        obtain ⟨b0, b1, b2, b3, hb', hb''⟩ := leD_four B[j]
        rw [ha', hb''] at c1 c2
        rw [drop_cons hlt, drop_cons hlt2, difE] at hR
        by_cases h1 : cmpLE A[i] B[j] < 0
        · rw [if_pos h1, ← drop_cons hlt2] at hR
          rw [decide_eq_true h1] at c1
          (repeat' (first | (with_reducible refine br_d (fun _ => ?_) (fun _ => ?_)) | (with_reducible refine br_i (fun _ => ?_) (fun _ => ?_)) | (with_reducible refine nd_v (c1) (by first | rfl | (simp -dsimp [bA, bB, hlt, hlt2, ha, hb', hw, hw2]; done)) ?_) | (with_reducible refine nw_v (c1) rfl (by first | rfl | (simp -dsimp [bA, bB, hlt, hlt2, ha, hb', hw, hw2]; done)) (by first | rfl | (simp -dsimp [bA, bB, hlt, hlt2, ha, hb', hw, hw2]; done)) ?_) | (with_reducible refine dn_i follows_any (by kernel_rfl) ?_) | (with_reducible exact done_eq rfl) | (simp -dsimp [bA, bB, hlt, hlt2, ha, hb', hw, hw2]))); (all_goals try with_reducible refine done_eq ?_)
          refine exD_p ?_
          refine aw_drawn_n follows_any [[], [], [1], [1, 2], [1, 2, 3], [], [5], [5, 6], [5, 6, 7], [], [5, 6, 7, 8, 9], [5, 6, 7, 8, 9, 10], [5, 6, 7, 8, 9, 10, 11], [1, 2, 3, 4, 5, 6, 7, 8, 9, 10, 11, 12], [0, 1, 2, 3, 4, 5, 6, 7, 8, 9, 10, 11, 12, 13], [0, 1, 2, 3, 4, 5, 6, 7, 8, 9, 10, 11, 12, 13, 14], [0, 1, 2, 3, 4, 5, 6, 7, 8, 9, 10, 11, 12, 13, 14, 15]] [0, 1, 2, 3, 4, 5, 6, 7, 8, 9, 10, 11, 12, 13, 14, 15, 16] [12, 13, 16] [([], ⟨[(41, ?m41u2), (42, ?m42u2), (43, ?m43u2), (44, ?m44u2), (45, ?m45u2), (46, ?m46u2), (47, ?m47u2), (48, ?m48u2), (49, ?m49u2), (50, ?m50u2), (51, ?m51u2), (52, ?m52u2), (53, ?m53u2), (54, ?m54u2), (55, ?m55u2), (56, ?m56u2)], ?bu2, ?o0u2⟩), ([12], ⟨[(41, ?m41u2), (42, ?m42u2), (43, ?m43u2), (44, ?m44u2), (45, ?m45u2), (46, ?m46u2), (47, ?m47u2), (48, ?m48u2), (49, ?m49u2), (50, ?m50u2), (51, ?m51u2), (52, ?m52u2), (53, ?m53u2), (54, ?m54u2), (55, ?m55u2), (56, ?m56u2)], ?bu2, ?o1u2⟩), ([12, 13], ⟨[(41, ?m41u2), (42, ?m42u2), (43, ?m43u2), (44, ?m44u2), (45, ?m45u2), (46, ?m46u2), (47, ?m47u2), (48, ?m48u2), (49, ?m49u2), (50, ?m50u2), (51, ?m51u2), (52, ?m52u2), (53, ?m53u2), (54, ?m54u2), (55, ?m55u2), (56, ?m56u2)], ?bu2, ?o2u2⟩), ([12, 13, 16], ⟨[(41, ?m41u2), (42, ?m42u2), (43, ?m43u2), (44, ?m44u2), (45, ?m45u2), (46, ?m46u2), (47, ?m47u2), (48, ?m48u2), (49, ?m49u2), (50, ?m50u2), (51, ?m51u2), (52, ?m52u2), (53, ?m53u2), (54, ?m54u2), (55, ?m55u2), (56, ?m56u2)], ?bu2, ?o3u2⟩)] ?hoku2 rfl rfl ?hbu2 ?hou2 ?hstu2 ?hku2
          case' hbu2 => rfl
          case' hou2 => rfl
          case' hstu2 => refine ⟨⟨?v0u2, ?s0u2⟩, ⟨⟨?v1u2, ?s1u2⟩, ⟨⟨?v2u2, ?s2u2⟩, ⟨⟨?v3u2, ?s3u2⟩, True.intro⟩⟩⟩⟩
          case v0u2 =>
            refine ⟨.inr ⟨_, rfl, effN_self (eff_v rfl rfl (by simp -dsimp [valT, bA, hlt, ha, toDs, hb] <;> with_reducible rfl))⟩, ?_⟩
            refine ⟨.inr ⟨_, rfl, effN_self (eff_v rfl rfl (by simp -dsimp [valT, bA, hlt, ha, toDs, hb] <;> with_reducible rfl))⟩, ?_⟩
            refine ⟨.inr ⟨_, rfl, effN_self (eff_v rfl rfl (by simp -dsimp [valT, bA, hlt, ha, toDs, hb] <;> with_reducible rfl))⟩, ?_⟩
            refine ⟨.inr ⟨_, rfl, effN_self (eff_v rfl rfl (by simp -dsimp [valT, bA, hlt, ha, toDs, hb] <;> with_reducible rfl))⟩, ?_⟩
            refine ⟨.inr ⟨_, rfl, effN_self (eff_v rfl rfl (by simp -dsimp [valT, bA, hlt, ha, toDs, hb] <;> with_reducible rfl))⟩, ?_⟩
            refine ⟨.inr ⟨_, rfl, effN_self (eff_v rfl rfl (by simp -dsimp [valT, bA, hlt, ha, toDs, hb] <;> with_reducible rfl))⟩, ?_⟩
            refine ⟨.inr ⟨_, rfl, effN_self (eff_v rfl rfl (by simp -dsimp [valT, bA, hlt, ha, toDs, hb] <;> with_reducible rfl))⟩, ?_⟩
            refine ⟨.inr ⟨_, rfl, effN_self (eff_v rfl rfl (by simp -dsimp [valT, bA, hlt, ha, toDs, hb] <;> with_reducible rfl))⟩, ?_⟩
            refine ⟨.inr ⟨_, rfl, effN_self (eff_v rfl rfl (by simp -dsimp [valT, bA, hlt, ha, toDs, hb] <;> with_reducible rfl))⟩, ?_⟩
            refine ⟨.inr ⟨_, rfl, effN_self (eff_v rfl rfl (by simp -dsimp [valT, bA, hlt, ha, toDs, hb] <;> with_reducible rfl))⟩, ?_⟩
            refine ⟨.inr ⟨_, rfl, effN_self (eff_v rfl rfl (by simp -dsimp [valT, bA, hlt, ha, toDs, hb] <;> with_reducible rfl))⟩, ?_⟩
            refine ⟨.inr ⟨_, rfl, effN_self (eff_v rfl rfl (by simp -dsimp [valT, bA, hlt, ha, toDs, hb] <;> with_reducible rfl))⟩, ?_⟩
            refine ⟨.inl (by kernel_rfl), ?_⟩
            refine ⟨.inl (by kernel_rfl), ?_⟩
            refine ⟨.inl (by kernel_rfl), ?_⟩
            refine ⟨.inl (by kernel_rfl), ?_⟩
            refine ⟨.inl (by kernel_rfl), ?_⟩
            exact True.intro
          case s0u2 =>
            refine ⟨.inr ⟨_, _, rfl, rfl, effN_of (eff_w (hdk := rfl) (hW := rfl) (hq := by simp -dsimp [valT, bA, hlt, ha, toDs, hb] <;> (first | done | rfl | exact ⟨rfl, rfl⟩ | exact ⟨rfl, rfl, rfl⟩)) (hoo := rfl) (hv := by simp -dsimp [valT, bA, hlt, ha, toDs, hb] <;> with_reducible rfl)) (by simp -dsimp [valT, canonO, insO, bA, hlt, ha, toDs, hb] <;> with_reducible rfl)⟩, ?_⟩
            refine ⟨.inl (by kernel_rfl), ?_⟩
            refine ⟨.inl (by kernel_rfl), ?_⟩
            exact True.intro
          case v1u2 =>
            refine ⟨.inr ⟨_, rfl, effN_self (eff_v rfl rfl (by simp -dsimp [valT, bA, hlt, ha, toDs, hb] <;> with_reducible rfl))⟩, ?_⟩
            refine ⟨.inr ⟨_, rfl, effN_self (eff_v rfl rfl (by simp -dsimp [valT, bA, hlt, ha, toDs, hb] <;> with_reducible rfl))⟩, ?_⟩
            refine ⟨.inr ⟨_, rfl, effN_self (eff_v rfl rfl (by simp -dsimp [valT, bA, hlt, ha, toDs, hb] <;> with_reducible rfl))⟩, ?_⟩
            refine ⟨.inr ⟨_, rfl, effN_self (eff_v rfl rfl (by simp -dsimp [valT, bA, hlt, ha, toDs, hb] <;> with_reducible rfl))⟩, ?_⟩
            refine ⟨.inr ⟨_, rfl, effN_self (eff_v rfl rfl (by simp -dsimp [valT, bA, hlt, ha, toDs, hb] <;> with_reducible rfl))⟩, ?_⟩
            refine ⟨.inl (by kernel_rfl), ?_⟩
            refine ⟨.inl (by kernel_rfl), ?_⟩
            refine ⟨.inl (by kernel_rfl), ?_⟩
            refine ⟨.inl (by kernel_rfl), ?_⟩
            refine ⟨.inl (by kernel_rfl), ?_⟩
            refine ⟨.inl (by kernel_rfl), ?_⟩
            refine ⟨.inl (by kernel_rfl), ?_⟩
            refine ⟨.inl (by kernel_rfl), ?_⟩
            refine ⟨.inl (by kernel_rfl), ?_⟩
            refine ⟨.inl (by kernel_rfl), ?_⟩
            refine ⟨.inl (by kernel_rfl), ?_⟩
            refine ⟨.inl (by kernel_rfl), ?_⟩
            exact True.intro
          case s1u2 =>
            refine ⟨.inl (by kernel_rfl), ?_⟩
            refine ⟨.inr ⟨_, _, rfl, rfl, effN_of (eff_w (hdk := rfl) (hW := rfl) (hq := by simp -dsimp [valT, bA, hlt, ha, toDs, hb] <;> (first | done | rfl | exact ⟨rfl, rfl⟩ | exact ⟨rfl, rfl, rfl⟩)) (hoo := rfl) (hv := by simp -dsimp [valT, bA, hlt, ha, toDs, hb] <;> with_reducible rfl)) (by simp -dsimp [valT, canonO, insO, bA, hlt, ha, toDs, hb] <;> with_reducible rfl)⟩, ?_⟩
            refine ⟨.inl (by kernel_rfl), ?_⟩
            exact True.intro
          case v2u2 =>
            refine ⟨.inr ⟨_, rfl, effN_self (eff_v rfl rfl (by simp -dsimp [valT, bA, hlt, ha, toDs, hb] <;> with_reducible rfl))⟩, ?_⟩
            refine ⟨.inl (by kernel_rfl), ?_⟩
            refine ⟨.inl (by kernel_rfl), ?_⟩
            refine ⟨.inl (by kernel_rfl), ?_⟩
            refine ⟨.inl (by kernel_rfl), ?_⟩
            refine ⟨.inl (by kernel_rfl), ?_⟩
            refine ⟨.inl (by kernel_rfl), ?_⟩
            refine ⟨.inl (by kernel_rfl), ?_⟩
            refine ⟨.inl (by kernel_rfl), ?_⟩
            refine ⟨.inl (by kernel_rfl), ?_⟩
            refine ⟨.inl (by kernel_rfl), ?_⟩
            refine ⟨.inl (by kernel_rfl), ?_⟩
            refine ⟨.inl (by kernel_rfl), ?_⟩
            refine ⟨.inl (by kernel_rfl), ?_⟩
            refine ⟨.inr ⟨_, rfl, effN_self (eff_v rfl rfl (by simp -dsimp [valT, bA, hlt, ha, toDs, hb] <;> with_reducible rfl))⟩, ?_⟩
            refine ⟨.inr ⟨_, rfl, effN_self (eff_v rfl rfl (by simp -dsimp [valT, bA, hlt, ha, toDs, hb] <;> with_reducible rfl))⟩, ?_⟩
            refine ⟨.inl (by kernel_rfl), ?_⟩
            exact True.intro
          case s2u2 =>
            refine ⟨.inl (by kernel_rfl), ?_⟩
            refine ⟨.inl (by kernel_rfl), ?_⟩
            refine ⟨.inr ⟨_, _, rfl, rfl, effN_of (eff_w (hdk := rfl) (hW := rfl) (hq := by simp -dsimp [valT, bA, hlt, ha, toDs, hb] <;> (first | done | rfl | exact ⟨rfl, rfl⟩ | exact ⟨rfl, rfl, rfl⟩)) (hoo := rfl) (hv := by simp -dsimp [valT, bA, hlt, ha, toDs, hb] <;> with_reducible rfl)) (by simp -dsimp [valT, canonO, insO, bA, hlt, ha, toDs, hb] <;> with_reducible rfl)⟩, ?_⟩
            exact True.intro
          case v3u2 =>
            refine ⟨.inl (by kernel_rfl), ?_⟩
            refine ⟨.inl (by kernel_rfl), ?_⟩
            refine ⟨.inl (by kernel_rfl), ?_⟩
            refine ⟨.inl (by kernel_rfl), ?_⟩
            refine ⟨.inl (by kernel_rfl), ?_⟩
            refine ⟨.inl (by kernel_rfl), ?_⟩
            refine ⟨.inl (by kernel_rfl), ?_⟩
            refine ⟨.inl (by kernel_rfl), ?_⟩
            refine ⟨.inl (by kernel_rfl), ?_⟩
            refine ⟨.inl (by kernel_rfl), ?_⟩
            refine ⟨.inl (by kernel_rfl), ?_⟩
            refine ⟨.inl (by kernel_rfl), ?_⟩
            refine ⟨.inl (by kernel_rfl), ?_⟩
            refine ⟨.inl (by kernel_rfl), ?_⟩
            refine ⟨.inl (by kernel_rfl), ?_⟩
            refine ⟨.inl (by kernel_rfl), ?_⟩
            refine ⟨.inl (by kernel_rfl), ?_⟩
            exact True.intro
          case s3u2 =>
            refine ⟨.inl (by kernel_rfl), ?_⟩
            refine ⟨.inl (by kernel_rfl), ?_⟩
            refine ⟨.inl (by kernel_rfl), ?_⟩
            exact True.intro
          case hoku2 => kernel_rfl
          refine ⟨rfl, ?_⟩
          (repeat' (first | (with_reducible refine br_d (fun _ => ?_) (fun _ => ?_)) | (with_reducible refine br_i (fun _ => ?_) (fun _ => ?_)) | (with_reducible refine dn_i follows_any (by kernel_rfl) ?_) | (with_reducible exact done_eq rfl) | (simp -dsimp [hw]))); (all_goals try with_reducible refine done_eq ?_)
          refine hK _ (i + 1, j, ver + 1, R ++ [A[i]]) ?_ ⟨by show i + 1 ≤ _; omega, hj, by rw [← hR]; simp, by simp; omega⟩ (by show A.length - (i + 1) + (B.length - j) < A.length - i + (B.length - j); omega)
          simp only [List.map_append, List.map_cons, List.map_nil, ha]
          exact Weak.same (by simp -dsimp) (by simp -dsimp) (by first | rfl | (simp [closedSt, Av.ids, Ow.ids, Cl.ids, Go.Smd.keys]; done))
        · rw [if_neg h1] at hR
          rw [decide_eq_false h1] at c1
          by_cases h2 : cmpLE B[j] A[i] < 0
          · rw [if_pos h2, ← drop_cons hlt] at hR
            rw [decide_eq_true h2] at c2
            (repeat' (first | (with_reducible refine br_d (fun _ => ?_) (fun _ => ?_)) | (with_reducible refine br_i (fun _ => ?_) (fun _ => ?_)) | (with_reducible refine nd_v (c1) (by first | rfl | (simp -dsimp [bA, bB, hlt, hlt2, ha, hb', hw, hw2]; done)) ?_) | (with_reducible refine nw_v (c1) rfl (by first | rfl | (simp -dsimp [bA, bB, hlt, hlt2, ha, hb', hw, hw2]; done)) (by first | rfl | (simp -dsimp [bA, bB, hlt, hlt2, ha, hb', hw, hw2]; done)) ?_) | (with_reducible refine nd_v (c2) (by first | rfl | (simp -dsimp [bA, bB, hlt, hlt2, ha, hb', hw, hw2]; done)) ?_) | (with_reducible refine nw_v (c2) rfl (by first | rfl | (simp -dsimp [bA, bB, hlt, hlt2, ha, hb', hw, hw2]; done)) (by first | rfl | (simp -dsimp [bA, bB, hlt, hlt2, ha, hb', hw, hw2]; done)) ?_) | (with_reducible refine dn_i follows_any (by kernel_rfl) ?_) | (with_reducible exact done_eq rfl) | (simp -dsimp [bA, bB, hlt, hlt2, ha, hb', hw, hw2]))); (all_goals try with_reducible refine done_eq ?_)
            refine hK _ (i, j + 1, ver, R) ?_ ⟨hi, by show j + 1 ≤ _; omega, by rw [← hR], by show R.length ≤ i; omega⟩ (by show A.length - i + (B.length - (j + 1)) < A.length - i + (B.length - j); omega)
            exact Weak.same (by simp -dsimp) (by simp -dsimp) (by first | rfl | (simp [closedSt, Av.ids, Ow.ids, Cl.ids, Go.Smd.keys]; done))
          · rw [if_neg h2] at hR
            rw [decide_eq_false h2] at c2
            (repeat' (first | (with_reducible refine br_d (fun _ => ?_) (fun _ => ?_)) | (with_reducible refine br_i (fun _ => ?_) (fun _ => ?_)) | (with_reducible refine nd_v (c1) (by first | rfl | (simp -dsimp [bA, bB, hlt, hlt2, ha, hb', hw, hw2]; done)) ?_) | (with_reducible refine nw_v (c1) rfl (by first | rfl | (simp -dsimp [bA, bB, hlt, hlt2, ha, hb', hw, hw2]; done)) (by first | rfl | (simp -dsimp [bA, bB, hlt, hlt2, ha, hb', hw, hw2]; done)) ?_) | (with_reducible refine nd_v (c2) (by first | rfl | (simp -dsimp [bA, bB, hlt, hlt2, ha, hb', hw, hw2]; done)) ?_) | (with_reducible refine nw_v (c2) rfl (by first | rfl | (simp -dsimp [bA, bB, hlt, hlt2, ha, hb', hw, hw2]; done)) (by first | rfl | (simp -dsimp [bA, bB, hlt, hlt2, ha, hb', hw, hw2]; done)) ?_) | (with_reducible refine dn_i follows_any (by kernel_rfl) ?_) | (with_reducible exact done_eq rfl) | (simp -dsimp [bA, bB, hlt, hlt2, ha, hb', hw, hw2]))); (all_goals try with_reducible refine done_eq ?_)
            refine hK _ (i + 1, j + 1, ver, R) ?_ ⟨by show i + 1 ≤ _; omega, by show j + 1 ≤ _; omega, by rw [← hR], by show R.length ≤ i + 1; omega⟩ (by show A.length - (i + 1) + (B.length - (j + 1)) < A.length - i + (B.length - j); omega)
            exact Weak.same (by simp -dsimp) (by simp -dsimp) (by first | rfl | (simp [closedSt, Av.ids, Ow.ids, Cl.ids, Go.Smd.keys]; done))
      · have hj2 : j = B.length := by omega
        subst hj2
        have hb : (R.length + (A.length - i)) * 32 ≤ 140737488351232 := by omega
        rw [List.drop_of_length_le (Nat.le_refl B.length), dif_nil] at hR
        (repeat' (first | (with_reducible refine br_d (fun _ => ?_) (fun _ => ?_)) | (with_reducible refine br_i (fun _ => ?_) (fun _ => ?_)) | (with_reducible refine dn_i follows_any (by kernel_rfl) ?_) | (with_reducible exact done_eq rfl) | (simp -dsimp [bA, bB, hlt]))); (all_goals try with_reducible refine done_eq ?_)
        refine exD_p ?_
        refine aw_drawn_n follows_any [[], [], [1], [1, 2], [1, 2, 3], [], [5], [5, 6], [5, 6, 7], [], [5, 6, 7, 8, 9], [1, 2, 3, 4, 5, 6, 7, 8, 9, 10], [0, 1, 2, 3, 4, 5, 6, 7, 8, 9, 10, 11], [0, 1, 2, 3, 4, 5, 6, 7, 8, 9, 10, 11, 12], [0, 1, 2, 3, 4, 5, 6, 7, 8, 9, 10, 11, 12, 13]] [0, 1, 2, 3, 4, 5, 6, 7, 8, 9, 10, 11, 12, 13, 14] [11, 14] [([], ⟨[(86, ?m86u3), (87, ?m87u3), (88, ?m88u3), (89, ?m89u3), (90, ?m90u3), (91, ?m91u3), (92, ?m92u3), (93, ?m93u3), (94, ?m94u3), (95, ?m95u3), (96, ?m96u3), (97, ?m97u3), (98, ?m98u3), (99, ?m99u3)], ?bu3, ?o0u3⟩), ([11], ⟨[(86, ?m86u3), (87, ?m87u3), (88, ?m88u3), (89, ?m89u3), (90, ?m90u3), (91, ?m91u3), (92, ?m92u3), (93, ?m93u3), (94, ?m94u3), (95, ?m95u3), (96, ?m96u3), (97, ?m97u3), (98, ?m98u3), (99, ?m99u3)], ?bu3, ?o1u3⟩), ([11, 14], ⟨[(86, ?m86u3), (87, ?m87u3), (88, ?m88u3), (89, ?m89u3), (90, ?m90u3), (91, ?m91u3), (92, ?m92u3), (93, ?m93u3), (94, ?m94u3), (95, ?m95u3), (96, ?m96u3), (97, ?m97u3), (98, ?m98u3), (99, ?m99u3)], ?bu3, ?o2u3⟩)] ?hoku3 rfl rfl ?hbu3 ?hou3 ?hstu3 ?hku3
        case' hbu3 => rfl
        case' hou3 => rfl
        case' hstu3 => refine ⟨⟨?v0u3, ?s0u3⟩, ⟨⟨?v1u3, ?s1u3⟩, ⟨⟨?v2u3, ?s2u3⟩, True.intro⟩⟩⟩
        case v0u3 =>
          refine ⟨.inr ⟨_, rfl, effN_self (eff_v rfl rfl (by simp -dsimp [valT, bA, hlt, toDs, hb, hi, tA] <;> with_reducible rfl))⟩, ?_⟩
          refine ⟨.inr ⟨_, rfl, effN_self (eff_v rfl rfl (by simp -dsimp [valT, bA, hlt, toDs, hb, hi, tA] <;> with_reducible rfl))⟩, ?_⟩
          refine ⟨.inr ⟨_, rfl, effN_self (eff_v rfl rfl (by simp -dsimp [valT, bA, hlt, toDs, hb, hi, tA] <;> with_reducible rfl))⟩, ?_⟩
          refine ⟨.inr ⟨_, rfl, effN_self (eff_v rfl rfl (by simp -dsimp [valT, bA, hlt, toDs, hb, hi, tA] <;> with_reducible rfl))⟩, ?_⟩
          refine ⟨.inr ⟨_, rfl, effN_self (eff_v rfl rfl (by simp -dsimp [valT, bA, hlt, toDs, hb, hi, tA] <;> with_reducible rfl))⟩, ?_⟩
          refine ⟨.inr ⟨_, rfl, effN_self (eff_v rfl rfl (by simp -dsimp [valT, bA, hlt, toDs, hb, hi, tA] <;> with_reducible rfl))⟩, ?_⟩
          refine ⟨.inr ⟨_, rfl, effN_self (eff_v rfl rfl (by simp -dsimp [valT, bA, hlt, toDs, hb, hi, tA] <;> with_reducible rfl))⟩, ?_⟩
          refine ⟨.inr ⟨_, rfl, effN_self (eff_v rfl rfl (by simp -dsimp [valT, bA, hlt, toDs, hb, hi, tA] <;> with_reducible rfl))⟩, ?_⟩
          refine ⟨.inr ⟨_, rfl, effN_self (eff_v rfl rfl (by simp -dsimp [valT, bA, hlt, toDs, hb, hi, tA] <;> with_reducible rfl))⟩, ?_⟩
          refine ⟨.inr ⟨_, rfl, effN_self (eff_v rfl rfl (by simp -dsimp [valT, bA, hlt, toDs, hb, hi, tA] <;> with_reducible rfl))⟩, ?_⟩
          refine ⟨.inr ⟨_, rfl, effN_self (eff_v rfl rfl (by simp -dsimp [valT, bA, hlt, toDs, hb, hi, tA] <;> with_reducible rfl))⟩, ?_⟩
          refine ⟨.inl (by kernel_rfl), ?_⟩
          refine ⟨.inl (by kernel_rfl), ?_⟩
          refine ⟨.inl (by kernel_rfl), ?_⟩
          refine ⟨.inl (by kernel_rfl), ?_⟩
          exact True.intro
        case s0u3 =>
          refine ⟨.inr ⟨_, _, rfl, rfl, effN_of (eff_w (hdk := rfl) (hW := rfl) (hq := by simp -dsimp [valT, bA, hlt, toDs, hb, hi, tA] <;> (first | done | rfl | exact ⟨rfl, rfl⟩ | exact ⟨rfl, rfl, rfl⟩)) (hoo := rfl) (hv := by simp -dsimp [valT, bA, hlt, toDs, hb, hi, tA] <;> with_reducible rfl)) (by simp -dsimp [valT, canonO, insO, bA, hlt, toDs, hb, hi, tA] <;> with_reducible rfl)⟩, ?_⟩
          refine ⟨.inl (by kernel_rfl), ?_⟩
          exact True.intro
        case v1u3 =>
          refine ⟨.inr ⟨_, rfl, effN_self (eff_v rfl rfl (by simp -dsimp [valT, bA, hlt, toDs, hb, hi, tA] <;> with_reducible rfl))⟩, ?_⟩
          refine ⟨.inl (by kernel_rfl), ?_⟩
          refine ⟨.inl (by kernel_rfl), ?_⟩
          refine ⟨.inl (by kernel_rfl), ?_⟩
          refine ⟨.inl (by kernel_rfl), ?_⟩
          refine ⟨.inl (by kernel_rfl), ?_⟩
          refine ⟨.inl (by kernel_rfl), ?_⟩
          refine ⟨.inl (by kernel_rfl), ?_⟩
          refine ⟨.inl (by kernel_rfl), ?_⟩
          refine ⟨.inl (by kernel_rfl), ?_⟩
          refine ⟨.inl (by kernel_rfl), ?_⟩
          refine ⟨.inl (by kernel_rfl), ?_⟩
          refine ⟨.inr ⟨_, rfl, effN_self (eff_v rfl rfl (by simp -dsimp [valT, bA, hlt, toDs, hb, hi, tA] <;> with_reducible rfl))⟩, ?_⟩
          refine ⟨.inr ⟨_, rfl, effN_self (eff_v rfl rfl (by simp -dsimp [valT, bA, hlt, toDs, hb, hi, tA] <;> with_reducible rfl))⟩, ?_⟩
          refine ⟨.inl (by kernel_rfl), ?_⟩
          exact True.intro
        case s1u3 =>
          refine ⟨.inl (by kernel_rfl), ?_⟩
          refine ⟨.inr ⟨_, _, rfl, rfl, effN_of (eff_w (hdk := rfl) (hW := rfl) (hq := by simp -dsimp [valT, bA, hlt, toDs, hb, hi, tA] <;> (first | done | rfl | exact ⟨rfl, rfl⟩ | exact ⟨rfl, rfl, rfl⟩)) (hoo := rfl) (hv := by simp -dsimp [valT, bA, hlt, toDs, hb, hi, tA] <;> with_reducible rfl)) (by simp -dsimp [valT, canonO, insO, bA, hlt, toDs, hb, hi, tA] <;> with_reducible rfl)⟩, ?_⟩
          exact True.intro
        case v2u3 =>
          refine ⟨.inl (by kernel_rfl), ?_⟩
          refine ⟨.inl (by kernel_rfl), ?_⟩
          refine ⟨.inl (by kernel_rfl), ?_⟩
          refine ⟨.inl (by kernel_rfl), ?_⟩
          refine ⟨.inl (by kernel_rfl), ?_⟩
          refine ⟨.inl (by kernel_rfl), ?_⟩
          refine ⟨.inl (by kernel_rfl), ?_⟩
          refine ⟨.inl (by kernel_rfl), ?_⟩
          refine ⟨.inl (by kernel_rfl), ?_⟩
          refine ⟨.inl (by kernel_rfl), ?_⟩
          refine ⟨.inl (by kernel_rfl), ?_⟩
          refine ⟨.inl (by kernel_rfl), ?_⟩
          refine ⟨.inl (by kernel_rfl), ?_⟩
          refine ⟨.inl (by kernel_rfl), ?_⟩
          refine ⟨.inl (by kernel_rfl), ?_⟩
          exact True.intro
        case s2u3 =>
          refine ⟨.inl (by kernel_rfl), ?_⟩
          refine ⟨.inl (by kernel_rfl), ?_⟩
          exact True.intro
        case hoku3 => kernel_rfl
        refine ⟨rfl, ?_⟩
        (repeat' (first | (with_reducible refine br_d (fun _ => ?_) (fun _ => ?_)) | (with_reducible refine br_i (fun _ => ?_) (fun _ => ?_)) | (with_reducible refine dn_i follows_any (by kernel_rfl) ?_) | (with_reducible exact done_eq rfl) | (simp -dsimp [bA, bB]))); (all_goals try with_reducible refine done_eq ?_)
        rw [← hR]
        simp
    · have hi2 : i = A.length := by omega
      subst hi2
      rw [List.drop_of_length_le (Nat.le_refl A.length), nil_dif] at hR
      (repeat' (first | (with_reducible refine br_d (fun _ => ?_) (fun _ => ?_)) | (with_reducible refine br_i (fun _ => ?_) (fun _ => ?_)) | (with_reducible refine dn_i follows_any (by kernel_rfl) ?_) | (with_reducible exact done_eq rfl) | (simp -dsimp [bA, bB]))); (all_goals try with_reducible refine done_eq ?_)
      rw [← hR]
      simp
theorem esEquals_a (A B : List LE) (bA : A.length ≤ 9223372036854775807) (bB : B.length ≤ 9223372036854775807) (hA : ∀ x ∈ A, fitsLE x) (hB : ∀ x ∈ B, fitsLE x) (he : A.length = B.length) (hq : ∀ (k : Nat) (h : k < A.length) (h' : k < B.length), eqLE A[k] B[k] = true) :
    ACalls Tryz.prog 100 [.c (.d (.pt [dLPath A])), .c (.d (.pt [dLPath B]))] (fun r => r = aV (.bool true)) := by
  refine acalls_ex [(1, ([], [(0, []), (1, []), (2, []), (3, []), (4, []), (5, []), (6, []), (7, []), (8, []), (9, []), (10, [])])), (6, ([14], [(0, []), (1, []), (2, []), (3, []), (4, []), (5, []), (6, []), (7, []), (8, []), (9, []), (10, []), (11, []), (12, []), (13, []), (14, []), (15, [])]))] Tryz.func100 (by kernel_rfl) rfl Tryz.ntmps100 Tryz.results100 (Nat.le_of_ble_eq_true (by kernel_rfl)) ?_; intro hok w0 S0
  clear hok
  (repeat' (first | (with_reducible refine br_d (fun _ => ?_) (fun _ => ?_)) | (with_reducible refine br_i (fun _ => ?_) (fun _ => ?_)) | (with_reducible refine dn_i follows_any (by kernel_rfl) ?_) | (with_reducible exact done_eq rfl) | (simp -dsimp [bA, bB, he]))); (all_goals try with_reducible refine done_eq ?_)
  refine ex_loop (fun i : Nat => ⟨[(0, .c (.d (.pt [dLPath A]))), (1, .c (.d (.pt [dLPath B]))), (21, aI B.length), (22, aI i)], []⟩) (fun i => i ≤ B.length) (fun i => B.length - i) 0 ?_ (Nat.zero_le _) ?_
  · exact Weak.same (by simp -dsimp) (by simp -dsimp) (by first | rfl | (simp [closedSt, Av.ids, Ow.ids, Cl.ids, Go.Smd.keys]; done))
  · rintro i hi K hK
    by_cases hlt2 : i < B.length
    · have hlt : i < A.length := by omega
      have hw : IntKind.wrap .i64 ((i : Int) + 1) = ((i + 1 : Nat) : Int) := by rw [wrap_i64] <;> omega
      have c1 := elemEquals_a _ _ (hA _ (List.getElem_mem hlt)) (hB _ (List.getElem_mem hlt2))
      rw [hq i hlt hlt2] at c1
      obtain ⟨a0, a1, a2, a3, ha, ha'⟩ := leD_four A[i]
      obtain ⟨b0, b1, b2, b3, hb', hb''⟩ := leD_four B[i]
      rw [ha', hb''] at c1
      (repeat' (first | (with_reducible refine br_d (fun _ => ?_) (fun _ => ?_)) | (with_reducible refine br_i (fun _ => ?_) (fun _ => ?_)) | (with_reducible refine nd_v (c1) (by first | rfl | (simp -dsimp [bA, bB, hlt, hlt2, ha, hb', hw]; done)) ?_) | (with_reducible refine nw_v (c1) rfl (by first | rfl | (simp -dsimp [bA, bB, hlt, hlt2, ha, hb', hw]; done)) (by first | rfl | (simp -dsimp [bA, bB, hlt, hlt2, ha, hb', hw]; done)) ?_) | (with_reducible refine dn_i follows_any (by kernel_rfl) ?_) | (with_reducible exact done_eq rfl) | (simp -dsimp [bA, bB, hlt, hlt2, ha, hb', hw]))); (all_goals try with_reducible refine done_eq ?_)
      refine hK _ (i + 1) ?_ (by omega) (by omega)
      exact Weak.same (by simp -dsimp) (by simp -dsimp) (by first | rfl | (simp [closedSt, Av.ids, Ow.ids, Cl.ids, Go.Smd.keys]; done))
    · (repeat' (first | (with_reducible refine br_d (fun _ => ?_) (fun _ => ?_)) | (with_reducible refine br_i (fun _ => ?_) (fun _ => ?_)) | (with_reducible refine dn_i follows_any (by kernel_rfl) ?_) | (with_reducible exact done_eq rfl) | (simp -dsimp [hlt2]))); (all_goals try with_reducible refine done_eq ?_)
end Go.Smd
end
