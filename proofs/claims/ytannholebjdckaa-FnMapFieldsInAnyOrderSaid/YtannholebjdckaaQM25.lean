/- Part 25 of the proof: Mp. -/
import Derived.Test.YtannholebjdckaaQM24
set_option linter.unusedVariables false
section
set_option linter.unusedSimpArgs false
set_option maxRecDepth 100000
set_option maxHeartbeats 8000000
namespace Go.Smd
open Go.RowKit Go.Proofs
@[simp ↓] theorem clo_bsl {σ : St} {d : Option Tmp} {T : TypeId} {n : Nat} {xs : Array (Nat × Operand)} {ty : TypeId} {pos : String} {af : Array Edge} {g : Option (Nat × Bool)} : cloA σ ⟨d, .buildSlice T n xs, ty, pos, af, g⟩ = none := _root_.id rfl
theorem sameValue_m (g : GV) : ACalls Try.prog 20 [gvA g, gvA g] (fun r => r = aV (.bool true)) := by
  have h1 := clean_a g
  obtain ⟨a1, a2, a3, a4, a5, a6⟩ := g
  obtain ⟨b1, b2, b3, b4, b5, b6, hcl⟩ : ∃ b1 b2 b3 b4 b5 b6, clean (.mk a1 a2 a3 a4 a5 a6) = .mk b1 b2 b3 b4 b5 b6 := by cases clean (.mk a1 a2 a3 a4 a5 a6); exact ⟨_, _, _, _, _, _, rfl⟩
  rw [hcl, gvA_x, gvA_x] at h1
  rw [gvA_x]
  refine acalls_ex [(1, ([3, 4], [(0, []), (2, []), (1, []), (3, []), (4, []), (5, [])]))] Try.func20 (by kernel_rfl) rfl Try.ntmps20 Try.results20 (Nat.le_of_ble_eq_true (by kernel_rfl)) ?_; intro hok w0 S0
  clear hok
  (repeat' (first
                                                            | (with_reducible refine br_d (fun _ => ?_) (fun _ => ?_))
                                                            | (with_reducible refine br_i (fun _ => ?_) (fun _ => ?_))
                                                            | (with_reducible refine nd_v (h1) (by first | rfl | (simp -dsimp; done)) ?_)
                                                            | (with_reducible refine nw_v (h1) rfl (by first | rfl | (simp -dsimp; done)) (by first | rfl | (simp -dsimp; done)) ?_)
                                                            | (with_reducible refine nd_v (identical_x _ _ _ _ _ _) (by first | rfl | (simp -dsimp; done)) ?_)
                                                            | (with_reducible refine nw_v (identical_x _ _ _ _ _ _) rfl (by first | rfl | (simp -dsimp; done)) (by first | rfl | (simp -dsimp; done)) ?_)
                                                            | ((with_reducible apply nd_next); (case hx => simp -dsimp; first | done | with_reducible rfl); (case hid => simp -dsimp; first | done | with_reducible rfl | exact ⟨rfl, rfl, rfl⟩ | exact ⟨rfl, rfl⟩); (case' h1 => intro _ _ _); (case' h0 => intro _))
                                                            | ((with_reducible apply nd_entry); (case hx => simp -dsimp; first | done | with_reducible rfl); (case hid => simp -dsimp; first | done | with_reducible rfl | exact ⟨rfl, rfl, rfl⟩ | exact ⟨rfl, rfl⟩))
                                                            | ((with_reducible apply nd_range); (case hx => simp -dsimp; with_reducible rfl); (case hT => simp -dsimp); (case hnd => assumption); (case hz => simp -dsimp))
                                                            | (with_reducible refine dn_i follows_any (by kernel_rfl) ?_)
                                                            | (with_reducible exact done_eq rfl)
                                                            | (simp -dsimp))); (all_goals try with_reducible refine done_eq ?_)
theorem implSame_a (g : GV) {a b : Int} {c : Nat} {d : ByteArray} {e : List ByteArray} {f : List GV} (h : clean g = .mk a b c d e f) : ACalls Try.prog 21 [gvA g] (fun r => r = gvX a b c d e f) := by
  have h1 := toValue_a g
  obtain ⟨a1, a2, a3, a4, a5, a6⟩ := g
  rw [gvA_x] at h1 ⊢
  refine acalls_ex [] Try.func21 (by kernel_rfl) rfl Try.ntmps21 Try.results21 (Nat.le_of_ble_eq_true (by kernel_rfl)) ?_; intro hok w0 S0
  have hF := gv_fits (by rw [gvA_x]; exact hok _ (List.mem_cons_self ..) : okA Try.prog (gvA (.mk a1 a2 a3 a4 a5 a6)))
  clear hok
  have h2 := fromValue_x (treeOf (.mk a1 a2 a3 a4 a5 a6)) hF (by rw [from_tree, h])
  (repeat' (first
                                                            | (with_reducible refine br_d (fun _ => ?_) (fun _ => ?_))
                                                            | (with_reducible refine br_i (fun _ => ?_) (fun _ => ?_))
                                                            | (with_reducible refine nd_v (h1) (by first | rfl | (simp -dsimp; done)) ?_)
                                                            | (with_reducible refine nw_v (h1) rfl (by first | rfl | (simp -dsimp; done)) (by first | rfl | (simp -dsimp; done)) ?_)
                                                            | (with_reducible refine nd_v (h2) (by first | rfl | (simp -dsimp; done)) ?_)
                                                            | (with_reducible refine nw_v (h2) rfl (by first | rfl | (simp -dsimp; done)) (by first | rfl | (simp -dsimp; done)) ?_)
                                                            | ((with_reducible apply nd_next); (case hx => simp -dsimp; first | done | with_reducible rfl); (case hid => simp -dsimp; first | done | with_reducible rfl | exact ⟨rfl, rfl, rfl⟩ | exact ⟨rfl, rfl⟩); (case' h1 => intro _ _ _); (case' h0 => intro _))
                                                            | ((with_reducible apply nd_entry); (case hx => simp -dsimp; first | done | with_reducible rfl); (case hid => simp -dsimp; first | done | with_reducible rfl | exact ⟨rfl, rfl, rfl⟩ | exact ⟨rfl, rfl⟩))
                                                            | ((with_reducible apply nd_range); (case hx => simp -dsimp; with_reducible rfl); (case hT => simp -dsimp); (case hnd => assumption); (case hz => simp -dsimp))
                                                            | (with_reducible refine dn_i follows_any (by kernel_rfl) ?_)
                                                            | (with_reducible exact done_eq rfl)
                                                            | (simp -dsimp))); (all_goals try with_reducible refine done_eq ?_)
abbrev cW (k : Int) (ks : Cl) (l : Cl) : Ow := .cells [.d (dI k), .d (dI 0), .d (dF 0), .d (dS ⟨#[]⟩), ks, l] 29
theorem anyMap_a (v : GV) (turn : Int) (fs : List (ByteArray × GV)) (hcl : clean v = mkMap fs) (hs : Sorted fs) (hc : ∀ p ∈ fs, clean p.2 = p.2 ∧ Fits (treeOf p.2)) (hl : fs.length ≤ 2147483647) (h5 : fits5 v = true) (ho : orderly (mkMap fs) = true) :
    ACalls Try.prog 5 [gvA v, aI turn] (fun r => r = aV (.bool true)) := by
  have q1 := zzFits5_a v
  have q2 := clean_a v
  have q3 := orderly_a (mkMap fs)
  rw [h5] at q1
  rw [ho] at q3
  rw [hcl] at q2
  have em : mkMap fs = .mk 6 0 0 ⟨#[]⟩ (fs.map (·.1)) (fs.map (·.2)) := rfl
  obtain ⟨s, hsd⟩ : ∃ s : Nat, s = (turn.emod fs.length).toNat := ⟨_, rfl⟩
  obtain ⟨A, hA⟩ : ∃ A, A = turned fs s := ⟨_, rfl⟩
  have hp : A.Perm fs := by rw [hA]; exact turned_perm fs s
  obtain ⟨t1, t2, t3⟩ := turned_same hp hs hc (by omega) ho
  have q4 := equalValues_a (mkMap fs) (.mk 6 0 0 ⟨#[]⟩ (A.map (·.1)) (A.map (·.2)))
  have q5 := compareValues_a (.mk 6 0 0 ⟨#[]⟩ (A.map (·.1)) (A.map (·.2))) (mkMap fs)
  have q6 := implSame_a (.mk 6 0 0 ⟨#[]⟩ (A.map (·.1)) (A.map (·.2))) (t3.trans em)
  have q7 := sameValue_m (mkMap fs)
  rw [t1] at q4
  rw [t2] at q5
  have hAl : A.length = fs.length := hp.length_eq
  have hat : ∀ i, i < fs.length → ∃ j, ∃ h : j < fs.length, ((i : Int) + ((turn.tmod fs.length + fs.length).tmod fs.length)).tmod fs.length = (j : Int) ∧ A[i]? = some fs[j] := fun i hi => by
    have hn : 0 < fs.length := by omega
    have hlt : (i + s) % fs.length < fs.length := Nat.mod_lt _ hn
    refine ⟨(i + s) % fs.length, hlt, by rw [hsd]; exact at_is fs.length i turn hn, ?_⟩
    rw [hA]
    have hslt : s < fs.length := by
      have h1 := Int.emod_nonneg turn (show (fs.length : Int) ≠ 0 by omega)
      have h2 := Int.emod_lt_of_pos turn (show (0 : Int) < fs.length by omega)
      rw [hsd]
      show ((turn % (fs.length : Int)).toNat) < fs.length
      omega
    exact turned_at fs s i hslt hi hlt
  clear hc hs ho hcl t1 t2 t3 hA hsd h5
  rw [em, gvA_x] at q2 q3 q4 q5 q7
  rw [gvA_x] at q4 q5 q6
  obtain ⟨va, vb, vc, vd, ve, vf⟩ := v
  rw [gvA_x] at q1 q2 ⊢
  obtain ⟨ks, hks⟩ : ∃ ks : List ByteArray, ks = fs.map (·.1) := ⟨_, rfl⟩
  obtain ⟨L, hL⟩ : ∃ L : List GV, L = fs.map (·.2) := ⟨_, rfl⟩
  obtain ⟨Ak, hAk⟩ : ∃ ks : List ByteArray, ks = A.map (·.1) := ⟨_, rfl⟩
  obtain ⟨AL, hAL⟩ : ∃ L : List GV, L = A.map (·.2) := ⟨_, rfl⟩
  rw [← hks, ← hL] at q2 q3 q4 q5 q6 q7
  rw [← hAk, ← hAL] at q4 q5 q6
  have hkl : ks.length = fs.length := by rw [hks, List.length_map]
  have hLl : L.length = fs.length := by rw [hL, List.length_map]
  have hAkl : Ak.length = fs.length := by rw [hAk, List.length_map, hAl]
  have hALl : AL.length = fs.length := by rw [hAL, List.length_map, hAl]
  have hix : ∀ i, i < ks.length → ∃ j k a b c d e f, ∃ (h1 : j < ks.length) (h2 : j < L.length), ((i : Int) + ((turn.tmod ks.length + ks.length).tmod ks.length)).tmod ks.length = (j : Int) ∧ ks[j] = k ∧ L[j] = GV.mk a b c d e f ∧ Ak[i]? = some k ∧ AL[i]? = some (.mk a b c d e f) := fun i hi => by
    obtain ⟨j, h, e1, e2⟩ := hat i (by omega)
    obtain ⟨a, b, c, d, e, f, hg⟩ : ∃ a b c d e f, fs[j].2 = GV.mk a b c d e f := by cases fs[j].2; exact ⟨_, _, _, _, _, _, rfl⟩
    rw [← hkl] at e1
    refine ⟨j, fs[j].1, a, b, c, d, e, f, by omega, by omega, e1, by subst hks; simp, by subst hL; simp [hg], by rw [hAk, List.getElem?_map, e2]; rfl, by rw [hAL, List.getElem?_map, e2, ← hg]; rfl⟩
  clear hat hp em hks hL hAk hAL
  have b1 : ks.length ≤ 9223372036854775807 := by omega
  refine acalls_ex [(12, ([2, 6, 13], [(0, []), (1, []), (2, []), (3, []), (4, []), (5, []), (6, []), (7, []), (8, []), (9, []), (10, []), (12, []), (11, []), (13, []), (14, []), (15, [])]))] Try.func5 (by kernel_rfl) rfl Try.ntmps5 Try.results5 (Nat.le_of_ble_eq_true (by kernel_rfl)) ?_; intro hok w0 S0
  clear hok
  (repeat' (first
                                                            | (with_reducible refine br_d (fun _ => ?_) (fun _ => ?_))
                                                            | (with_reducible refine br_i (fun _ => ?_) (fun _ => ?_))
                                                            | (with_reducible refine nd_v (q1) (by first | rfl | (simp -dsimp [b1]; done)) ?_)
                                                            | (with_reducible refine nw_v (q1) rfl (by first | rfl | (simp -dsimp [b1]; done)) (by first | rfl | (simp -dsimp [b1]; done)) ?_)
                                                            | (with_reducible refine nd_v (q2) (by first | rfl | (simp -dsimp [b1]; done)) ?_)
                                                            | (with_reducible refine nw_v (q2) rfl (by first | rfl | (simp -dsimp [b1]; done)) (by first | rfl | (simp -dsimp [b1]; done)) ?_)
                                                            | (with_reducible refine nd_v (q3) (by first | rfl | (simp -dsimp [b1]; done)) ?_)
                                                            | (with_reducible refine nw_v (q3) rfl (by first | rfl | (simp -dsimp [b1]; done)) (by first | rfl | (simp -dsimp [b1]; done)) ?_)
                                                            | ((with_reducible apply nd_next); (case hx => simp -dsimp [b1]; first | done | with_reducible rfl); (case hid => simp -dsimp [b1]; first | done | with_reducible rfl | exact ⟨rfl, rfl, rfl⟩ | exact ⟨rfl, rfl⟩); (case' h1 => intro _ _ _); (case' h0 => intro _))
                                                            | ((with_reducible apply nd_entry); (case hx => simp -dsimp [b1]; first | done | with_reducible rfl); (case hid => simp -dsimp [b1]; first | done | with_reducible rfl | exact ⟨rfl, rfl, rfl⟩ | exact ⟨rfl, rfl⟩))
                                                            | ((with_reducible apply nd_range); (case hx => simp -dsimp [b1]; with_reducible rfl); (case hT => simp -dsimp [b1]); (case hnd => assumption); (case hz => simp -dsimp [b1]))
                                                            | (with_reducible refine dn_i follows_any (by kernel_rfl) ?_)
                                                            | (with_reducible exact done_eq rfl)
                                                            | (simp -dsimp [b1]))); (all_goals try with_reducible refine done_eq ?_)
  refine exD_p ?_
  refine aw_drawn_n follows_any [[], [], [1], [1, 2], [], [0, 4], [0, 1, 2, 3, 4, 5]] [0, 1, 2, 3, 4, 5, 6] [4, 5] [([], ⟨[(23, ?m23u1), (24, ?m24u1), (25, ?m25u1), (26, ?m26u1), (6, ?m6u1), (7, ?m7u1)], ?bu1, ?o0u1⟩), ([4], ⟨[(23, ?m23u1), (24, ?m24u1), (25, ?m25u1), (26, ?m26u1), (6, ?m6u1), (7, ?m7u1)], ?bu1, ?o1u1⟩), ([4, 5], ⟨[(23, ?m23u1), (24, ?m24u1), (25, ?m25u1), (26, ?m26u1), (6, ?m6u1), (7, ?m7u1)], ?bu1, ?o2u1⟩)] ?hoku1 rfl rfl ?hbu1 ?hou1 ?hstu1 ?hku1
  case' hbu1 => rfl
  case' hou1 => rfl
  case' hstu1 => refine ⟨⟨?v0u1, ?s0u1⟩, ⟨⟨?v1u1, ?s1u1⟩, ⟨⟨?v2u1, ?s2u1⟩, True.intro⟩⟩⟩
  case v0u1 =>
    refine ⟨.inr ⟨_, rfl, effN_self (eff_c (d := 23) (mapValue_n) rfl rfl rfl (by simp -dsimp [valT, b1] <;> (first | done | rfl | exact ⟨rfl, rfl⟩ | exact ⟨rfl, rfl, rfl⟩)) (by simp -dsimp [valT, b1]) (by simp -dsimp [valT, b1] <;> with_reducible rfl))⟩, ?_⟩
    refine ⟨.inr ⟨_, rfl, effN_self (eff_v rfl rfl (by simp -dsimp [valT, b1] <;> with_reducible rfl))⟩, ?_⟩
    refine ⟨.inr ⟨_, rfl, effN_self (eff_v rfl rfl (by simp -dsimp [valT, b1] <;> with_reducible rfl))⟩, ?_⟩
    refine ⟨.inr ⟨_, rfl, effN_self (eff_v rfl rfl (by simp -dsimp [valT, b1] <;> with_reducible rfl))⟩, ?_⟩
    refine ⟨.inl (by kernel_rfl), ?_⟩
    refine ⟨.inl (by kernel_rfl), ?_⟩
    refine ⟨.inl (by kernel_rfl), ?_⟩
    exact True.intro
  case s0u1 =>
    refine ⟨.inr ⟨_, _, rfl, rfl, effN_of (eff_w (hdk := rfl) (hW := rfl) (hq := by simp -dsimp [valT, b1] <;> (first | done | rfl | exact ⟨rfl, rfl⟩ | exact ⟨rfl, rfl, rfl⟩)) (hoo := rfl) (hv := by simp -dsimp [valT, b1] <;> with_reducible rfl)) (by simp -dsimp [valT, canonO, insO, b1] <;> with_reducible rfl)⟩, ?_⟩
    refine ⟨.inl (by kernel_rfl), ?_⟩
    exact True.intro
  case v1u1 =>
    refine ⟨.inr ⟨_, rfl, effN_self (eff_c (d := 23) (mapValue_n) rfl rfl rfl (by simp -dsimp [valT, b1] <;> (first | done | rfl | exact ⟨rfl, rfl⟩ | exact ⟨rfl, rfl, rfl⟩)) (by simp -dsimp [valT, b1]) (by simp -dsimp [valT, b1] <;> with_reducible rfl))⟩, ?_⟩
    refine ⟨.inr ⟨_, rfl, effN_self (eff_v rfl rfl (by simp -dsimp [valT, b1] <;> with_reducible rfl))⟩, ?_⟩
    refine ⟨.inr ⟨_, rfl, effN_self (eff_v rfl rfl (by simp -dsimp [valT, b1] <;> with_reducible rfl))⟩, ?_⟩
    refine ⟨.inr ⟨_, rfl, effN_self (eff_v rfl rfl (by simp -dsimp [valT, b1] <;> with_reducible rfl))⟩, ?_⟩
    refine ⟨.inl (by kernel_rfl), ?_⟩
    refine ⟨.inl (by kernel_rfl), ?_⟩
    refine ⟨.inl (by kernel_rfl), ?_⟩
    exact True.intro
  case s1u1 =>
    refine ⟨.inl (by kernel_rfl), ?_⟩
    refine ⟨.inr ⟨_, _, rfl, rfl, effN_of (eff_w (hdk := rfl) (hW := rfl) (hq := by simp -dsimp [valT, b1] <;> (first | done | rfl | exact ⟨rfl, rfl⟩ | exact ⟨rfl, rfl, rfl⟩)) (hoo := rfl) (hv := by simp -dsimp [valT, b1] <;> with_reducible rfl)) (by simp -dsimp [valT, canonO, insO, b1] <;> with_reducible rfl)⟩, ?_⟩
    exact True.intro
  case v2u1 =>
    refine ⟨.inl (by kernel_rfl), ?_⟩
    refine ⟨.inr ⟨_, rfl, effN_self (eff_v rfl rfl (by simp -dsimp [valT, b1] <;> with_reducible rfl))⟩, ?_⟩
    refine ⟨.inr ⟨_, rfl, effN_self (eff_v rfl rfl (by simp -dsimp [valT, b1] <;> with_reducible rfl))⟩, ?_⟩
    refine ⟨.inr ⟨_, rfl, effN_self (eff_v rfl rfl (by simp -dsimp [valT, b1] <;> with_reducible rfl))⟩, ?_⟩
    refine ⟨.inl (by kernel_rfl), ?_⟩
    refine ⟨.inl (by kernel_rfl), ?_⟩
    refine ⟨.inr ⟨_, rfl, effN_self (eff_v rfl rfl (by simp -dsimp [valT, b1] <;> with_reducible rfl))⟩, ?_⟩
    exact True.intro
  case s2u1 =>
    refine ⟨.inl (by kernel_rfl), ?_⟩
    refine ⟨.inl (by kernel_rfl), ?_⟩
    exact True.intro
  case hoku1 => kernel_rfl
  refine ⟨rfl, ?_⟩
  (repeat' (first
                                                            | (with_reducible refine br_d (fun _ => ?_) (fun _ => ?_))
                                                            | (with_reducible refine br_i (fun _ => ?_) (fun _ => ?_))
                                                            | (with_reducible refine nd_v (q1) (by first | rfl | (simp -dsimp [b1]; done)) ?_)
                                                            | (with_reducible refine nw_v (q1) rfl (by first | rfl | (simp -dsimp [b1]; done)) (by first | rfl | (simp -dsimp [b1]; done)) ?_)
                                                            | (with_reducible refine nd_v (q2) (by first | rfl | (simp -dsimp [b1]; done)) ?_)
                                                            | (with_reducible refine nw_v (q2) rfl (by first | rfl | (simp -dsimp [b1]; done)) (by first | rfl | (simp -dsimp [b1]; done)) ?_)
                                                            | (with_reducible refine nd_v (q3) (by first | rfl | (simp -dsimp [b1]; done)) ?_)
                                                            | (with_reducible refine nw_v (q3) rfl (by first | rfl | (simp -dsimp [b1]; done)) (by first | rfl | (simp -dsimp [b1]; done)) ?_)
                                                            | ((with_reducible apply nd_next); (case hx => simp -dsimp [b1]; first | done | with_reducible rfl); (case hid => simp -dsimp [b1]; first | done | with_reducible rfl | exact ⟨rfl, rfl, rfl⟩ | exact ⟨rfl, rfl⟩); (case' h1 => intro _ _ _); (case' h0 => intro _))
                                                            | ((with_reducible apply nd_entry); (case hx => simp -dsimp [b1]; first | done | with_reducible rfl); (case hid => simp -dsimp [b1]; first | done | with_reducible rfl | exact ⟨rfl, rfl, rfl⟩ | exact ⟨rfl, rfl⟩))
                                                            | ((with_reducible apply nd_range); (case hx => simp -dsimp [b1]; with_reducible rfl); (case hT => simp -dsimp [b1]); (case hnd => assumption); (case hz => simp -dsimp [b1]))
                                                            | (with_reducible refine dn_i follows_any (by kernel_rfl) ?_)
                                                            | (with_reducible exact done_eq rfl)
                                                            | (simp -dsimp [b1]))); (all_goals try with_reducible refine done_eq ?_)
  refine ex_loop (fun i : Nat => if i = 0 then ⟨[(1, aI turn), (5, .c (.own 5 0)), (6, .c (.own 6 0)), (7, aI ks.length), (8, aI 0)], [(5, cW 6 (.d (dStrs ks)) (.d (dGVs L))), (6, cW 6 aNil aNil)]⟩
      else ⟨[(1, aI turn), (5, .c (.own 5 0)), (6, .c (.own 6 0)), (7, aI ks.length), (8, aI i)], [(5, cW 6 (.d (dStrs ks)) (.d (dGVs L))), (6, cW 6 (.gs 51 i) (.gs 60 i)), (51, .arr i tStr (sRow (Ak.take i))), (60, .arr i 29 ((AL.take i).map gvD))]⟩) (fun i => i ≤ ks.length) (fun i => ks.length - i) 0 ?_ (Nat.zero_le _) ?_
  · rw [if_pos rfl]
    exact Weak.same (by simp -dsimp) (by simp -dsimp) (by first | rfl | (simp [closedSt, Av.ids, Ow.ids, Cl.ids, Go.Smd.keys]; done))
  · intro i hi K hK
    by_cases hlt : i < ks.length
    · have h3 : (i : Int) < ks.length := by omega
      have hne : ¬ (ks.length : Int) = 0 := by omega
      have hpos : (0 : Int) < ks.length := by omega
      have m1 := Int.tmod_lt_of_pos turn hpos
      have m2 := Int.lt_tmod_of_pos turn hpos
      have m3 := Int.tmod_lt_of_pos (turn.tmod ks.length + ks.length) hpos
      have m4 := Int.tmod_nonneg (b := (ks.length : Int)) (show 0 ≤ turn.tmod ks.length + ks.length by omega)
      have hr1 : ∀ {P : Program} {T : TypeId} {ox oy : Operand}, binA P .rem T ox oy (.c (.d (.v (.int .i64 turn)))) (.c (.d (.v (.int .i64 ks.length)))) = some (.c (.d (.v (.int .i64 (turn.tmod ks.length))))) := rem_i hne (by omega) (by omega)
      have hr2 : ∀ {P : Program} {T : TypeId} {ox oy : Operand}, binA P .rem T ox oy (.c (.d (.v (.int .i64 (turn.tmod ks.length + ks.length))))) (.c (.d (.v (.int .i64 ks.length)))) = some (.c (.d (.v (.int .i64 ((turn.tmod ks.length + ks.length).tmod ks.length))))) := rem_i hne (by omega) (by omega)
      obtain ⟨j, k, a, b, c, d, e, f, j1, j2, hat, hkj, hLj, hAk, hAL⟩ := hix i hlt
      have hr3 : ∀ {P : Program} {T : TypeId} {ox oy : Operand}, binA P .rem T ox oy (.c (.d (.v (.int .i64 (i + (turn.tmod ks.length + ks.length).tmod ks.length))))) (.c (.d (.v (.int .i64 ks.length)))) = some (.c (.d (.v (.int .i64 j)))) := fun {P T ox oy} => by
        rw [← hat]; exact rem_i hne (by rw [hat]; omega) (by rw [hat]; omega)
      have hw1 : IntKind.wrap .i64 (turn.tmod ks.length + ks.length) = turn.tmod ks.length + ks.length := by rw [wrap_i64] <;> omega
      have hw2 : IntKind.wrap .i64 (i + (turn.tmod ks.length + ks.length).tmod ks.length) = i + (turn.tmod ks.length + ks.length).tmod ks.length := by rw [wrap_i64] <;> omega
      have hw3 : IntKind.wrap .i64 ((i : Int) + 1) = (i : Int) + 1 := by rw [wrap_i64] <;> omega
      have j0 : (0 : Int) ≤ (j : Int) := by omega
      have j3 : (j : Int) < ks.length := by omega
      have j4 : (j : Int) < L.length := by omega
      have k1 : i < Ak.length := by omega
      have k2 : i < AL.length := by omega
      have ek : Ak.take (i + 1) = Ak.take i ++ [k] := by
        rw [List.take_succ_eq_append_getElem k1]
        rw [List.getElem?_eq_getElem k1] at hAk
        rw [Option.some.inj hAk]
      have eL : (AL.take (i + 1)).map gvD = (AL.take i).map gvD ++ [[dI a, dI b, dF c, dS d, dStrs e, dGVs f]] := by
        rw [List.take_succ_eq_append_getElem k2]
        rw [List.getElem?_eq_getElem k2] at hAL
        rw [Option.some.inj hAL, List.map_append]
        simp only [List.map_cons, List.map_nil, gvD_mk]
      by_cases h0 : i = 0
      · subst h0
        simp only [List.take_zero, List.map_nil, List.nil_append] at ek eL
        rw [if_pos rfl]
        simp only [Int.natCast_zero, Int.zero_add] at hr3 hw2 h3
        (repeat' (first
                                                            | (with_reducible refine br_d (fun _ => ?_) (fun _ => ?_))
                                                            | (with_reducible refine br_i (fun _ => ?_) (fun _ => ?_))
                                                            | ((with_reducible apply nd_next); (case hx => simp -dsimp [b1, h3, hlt, hr1, hr2, hr3, hw1, hw2]; first | done | with_reducible rfl); (case hid => simp -dsimp [b1, h3, hlt, hr1, hr2, hr3, hw1, hw2]; first | done | with_reducible rfl | exact ⟨rfl, rfl, rfl⟩ | exact ⟨rfl, rfl⟩); (case' h1 => intro _ _ _); (case' h0 => intro _))
                                                            | ((with_reducible apply nd_entry); (case hx => simp -dsimp [b1, h3, hlt, hr1, hr2, hr3, hw1, hw2]; first | done | with_reducible rfl); (case hid => simp -dsimp [b1, h3, hlt, hr1, hr2, hr3, hw1, hw2]; first | done | with_reducible rfl | exact ⟨rfl, rfl, rfl⟩ | exact ⟨rfl, rfl⟩))
                                                            | ((with_reducible apply nd_range); (case hx => simp -dsimp [b1, h3, hlt, hr1, hr2, hr3, hw1, hw2]; with_reducible rfl); (case hT => simp -dsimp [b1, h3, hlt, hr1, hr2, hr3, hw1, hw2]); (case hnd => assumption); (case hz => simp -dsimp [b1, h3, hlt, hr1, hr2, hr3, hw1, hw2]))
                                                            | (with_reducible refine dn_i follows_any (by kernel_rfl) ?_)
                                                            | (with_reducible exact done_eq rfl)
                                                            | (simp -dsimp [b1, h3, hlt, hr1, hr2, hr3, hw1, hw2]))); (all_goals try with_reducible refine done_eq ?_)
        refine exD_p ?_
        refine aw_drawn_n follows_any [[], [0], [], [2], [], [2, 3, 4], [2, 3, 4, 5], [2, 3, 4, 5, 6], [0, 1, 2, 3, 4, 5, 6, 7], [], [9], [], [11], [], [11, 12, 13], [11, 12, 13, 14], [11, 12, 13, 14, 15], [0, 1, 2, 3, 4, 5, 6, 7, 8, 9, 10, 11, 12, 13, 14, 15, 16], [0, 1, 2, 3, 4, 5, 6, 7, 8, 9, 10], [0, 1, 2, 3, 4, 5, 6, 7, 8, 9, 10, 11, 12, 13, 14, 15, 16, 17, 18], [0, 1, 2, 3, 4, 5, 6, 7, 8, 9, 10, 11, 12, 13, 14, 15, 16, 17, 18, 19], [0, 1, 2, 3, 4, 5, 6, 7, 8, 9, 10, 11, 12, 13, 14, 15, 16, 17, 18, 19, 20]] [0, 1, 2, 3, 4, 5, 6, 7, 8, 9, 10, 11, 12, 13, 14, 15, 16, 17, 18, 19, 20, 21] [7, 8, 16, 17, 19, 21] [([], ⟨[(43, ?m43u2), (44, ?m44u2), (45, ?m45u2), (46, ?m46u2), (47, ?m47u2), (48, ?m48u2), (49, ?m49u2), (50, ?m50u2), (51, ?m51u2), (52, ?m52u2), (53, ?m53u2), (54, ?m54u2), (55, ?m55u2), (56, ?m56u2), (57, ?m57u2), (58, ?m58u2), (59, ?m59u2), (60, ?m60u2), (61, ?m61u2), (62, ?m62u2)], ?bu2, ?o0u2⟩), ([7], ⟨[(43, ?m43u2), (44, ?m44u2), (45, ?m45u2), (46, ?m46u2), (47, ?m47u2), (48, ?m48u2), (49, ?m49u2), (50, ?m50u2), (51, ?m51u2), (52, ?m52u2), (53, ?m53u2), (54, ?m54u2), (55, ?m55u2), (56, ?m56u2), (57, ?m57u2), (58, ?m58u2), (59, ?m59u2), (60, ?m60u2), (61, ?m61u2), (62, ?m62u2)], ?bu2, ?o1u2⟩), ([16], ⟨[(43, ?m43u2), (44, ?m44u2), (45, ?m45u2), (46, ?m46u2), (47, ?m47u2), (48, ?m48u2), (49, ?m49u2), (50, ?m50u2), (51, ?m51u2), (52, ?m52u2), (53, ?m53u2), (54, ?m54u2), (55, ?m55u2), (56, ?m56u2), (57, ?m57u2), (58, ?m58u2), (59, ?m59u2), (60, ?m60u2), (61, ?m61u2), (62, ?m62u2)], ?bu2, ?o2u2⟩), ([7, 8], ⟨[(43, ?m43u2), (44, ?m44u2), (45, ?m45u2), (46, ?m46u2), (47, ?m47u2), (48, ?m48u2), (49, ?m49u2), (50, ?m50u2), (51, ?m51u2), (52, ?m52u2), (53, ?m53u2), (54, ?m54u2), (55, ?m55u2), (56, ?m56u2), (57, ?m57u2), (58, ?m58u2), (59, ?m59u2), (60, ?m60u2), (61, ?m61u2), (62, ?m62u2)], ?bu2, ?o3u2⟩), ([7, 16], ⟨[(43, ?m43u2), (44, ?m44u2), (45, ?m45u2), (46, ?m46u2), (47, ?m47u2), (48, ?m48u2), (49, ?m49u2), (50, ?m50u2), (51, ?m51u2), (52, ?m52u2), (53, ?m53u2), (54, ?m54u2), (55, ?m55u2), (56, ?m56u2), (57, ?m57u2), (58, ?m58u2), (59, ?m59u2), (60, ?m60u2), (61, ?m61u2), (62, ?m62u2)], ?bu2, ?o4u2⟩), ([7, 8, 16], ⟨[(43, ?m43u2), (44, ?m44u2), (45, ?m45u2), (46, ?m46u2), (47, ?m47u2), (48, ?m48u2), (49, ?m49u2), (50, ?m50u2), (51, ?m51u2), (52, ?m52u2), (53, ?m53u2), (54, ?m54u2), (55, ?m55u2), (56, ?m56u2), (57, ?m57u2), (58, ?m58u2), (59, ?m59u2), (60, ?m60u2), (61, ?m61u2), (62, ?m62u2)], ?bu2, ?o5u2⟩), ([7, 8, 16, 17], ⟨[(43, ?m43u2), (44, ?m44u2), (45, ?m45u2), (46, ?m46u2), (47, ?m47u2), (48, ?m48u2), (49, ?m49u2), (50, ?m50u2), (51, ?m51u2), (52, ?m52u2), (53, ?m53u2), (54, ?m54u2), (55, ?m55u2), (56, ?m56u2), (57, ?m57u2), (58, ?m58u2), (59, ?m59u2), (60, ?m60u2), (61, ?m61u2), (62, ?m62u2)], ?bu2, ?o6u2⟩), ([7, 8, 16, 17, 19], ⟨[(43, ?m43u2), (44, ?m44u2), (45, ?m45u2), (46, ?m46u2), (47, ?m47u2), (48, ?m48u2), (49, ?m49u2), (50, ?m50u2), (51, ?m51u2), (52, ?m52u2), (53, ?m53u2), (54, ?m54u2), (55, ?m55u2), (56, ?m56u2), (57, ?m57u2), (58, ?m58u2), (59, ?m59u2), (60, ?m60u2), (61, ?m61u2), (62, ?m62u2)], ?bu2, ?o7u2⟩), ([7, 8, 16, 17, 19, 21], ⟨[(43, ?m43u2), (44, ?m44u2), (45, ?m45u2), (46, ?m46u2), (47, ?m47u2), (48, ?m48u2), (49, ?m49u2), (50, ?m50u2), (51, ?m51u2), (52, ?m52u2), (53, ?m53u2), (54, ?m54u2), (55, ?m55u2), (56, ?m56u2), (57, ?m57u2), (58, ?m58u2), (59, ?m59u2), (60, ?m60u2), (61, ?m61u2), (62, ?m62u2)], ?bu2, ?o8u2⟩)] ?hoku2 rfl rfl ?hbu2 ?hou2 ?hstu2 ?hku2
        case' hbu2 => rfl
        case' hou2 => rfl
        case' hstu2 => refine ⟨⟨?v0u2, ?s0u2⟩, ⟨⟨?v1u2, ?s1u2⟩, ⟨⟨?v2u2, ?s2u2⟩, ⟨⟨?v3u2, ?s3u2⟩, ⟨⟨?v4u2, ?s4u2⟩, ⟨⟨?v5u2, ?s5u2⟩, ⟨⟨?v6u2, ?s6u2⟩, ⟨⟨?v7u2, ?s7u2⟩, ⟨⟨?v8u2, ?s8u2⟩, True.intro⟩⟩⟩⟩⟩⟩⟩⟩⟩
        case v0u2 =>
          refine ⟨.inr ⟨_, rfl, effN_self (eff_v rfl rfl (by simp -dsimp [valT, b1, j0, j1, j2, j3, j4, hkj, hLj, toDs, w1, gvD_mk] <;> with_reducible rfl))⟩, ?_⟩
          refine ⟨.inr ⟨_, rfl, effN_self (eff_v rfl rfl (by simp -dsimp [valT, b1, j0, j1, j2, j3, j4, hkj, hLj, toDs, w1, gvD_mk] <;> with_reducible rfl))⟩, ?_⟩
          refine ⟨.inr ⟨_, rfl, effN_self (eff_v rfl rfl (by simp -dsimp [valT, b1, j0, j1, j2, j3, j4, hkj, hLj, toDs, w1, gvD_mk] <;> with_reducible rfl))⟩, ?_⟩
          refine ⟨.inr ⟨_, rfl, effN_self (eff_v rfl rfl (by simp -dsimp [valT, b1, j0, j1, j2, j3, j4, hkj, hLj, toDs, w1, gvD_mk] <;> with_reducible rfl))⟩, ?_⟩
          refine ⟨.inr ⟨_, rfl, effN_self (eff_v rfl rfl (by simp -dsimp [valT, b1, j0, j1, j2, j3, j4, hkj, hLj, toDs, w1, gvD_mk] <;> with_reducible rfl))⟩, ?_⟩
          refine ⟨.inr ⟨_, rfl, effN_self (eff_v rfl rfl (by simp -dsimp [valT, b1, j0, j1, j2, j3, j4, hkj, hLj, toDs, w1, gvD_mk] <;> with_reducible rfl))⟩, ?_⟩
          refine ⟨.inr ⟨_, rfl, effN_self (eff_v rfl rfl (by simp -dsimp [valT, b1, j0, j1, j2, j3, j4, hkj, hLj, toDs, w1, gvD_mk] <;> with_reducible rfl))⟩, ?_⟩
          refine ⟨.inl (by kernel_rfl), ?_⟩
          refine ⟨.inl (by kernel_rfl), ?_⟩
          refine ⟨.inr ⟨_, rfl, effN_self (eff_v rfl rfl (by simp -dsimp [valT, b1, j0, j1, j2, j3, j4, hkj, hLj, toDs, w1, gvD_mk] <;> with_reducible rfl))⟩, ?_⟩
          refine ⟨.inr ⟨_, rfl, effN_self (eff_v rfl rfl (by simp -dsimp [valT, b1, j0, j1, j2, j3, j4, hkj, hLj, toDs, w1, gvD_mk] <;> with_reducible rfl))⟩, ?_⟩
          refine ⟨.inr ⟨_, rfl, effN_self (eff_v rfl rfl (by simp -dsimp [valT, b1, j0, j1, j2, j3, j4, hkj, hLj, toDs, w1, gvD_mk] <;> with_reducible rfl))⟩, ?_⟩
          refine ⟨.inr ⟨_, rfl, effN_self (eff_v rfl rfl (by simp -dsimp [valT, b1, j0, j1, j2, j3, j4, hkj, hLj, toDs, w1, gvD_mk] <;> with_reducible rfl))⟩, ?_⟩
          refine ⟨.inr ⟨_, rfl, effN_self (eff_v rfl rfl (by simp -dsimp [valT, b1, j0, j1, j2, j3, j4, hkj, hLj, toDs, w1, gvD_mk] <;> with_reducible rfl))⟩, ?_⟩
          refine ⟨.inr ⟨_, rfl, effN_self (eff_v rfl rfl (by simp -dsimp [valT, b1, j0, j1, j2, j3, j4, hkj, hLj, toDs, w1, gvD_mk] <;> with_reducible rfl))⟩, ?_⟩
          refine ⟨.inr ⟨_, rfl, effN_self (eff_v rfl rfl (by simp -dsimp [valT, b1, j0, j1, j2, j3, j4, hkj, hLj, toDs, w1, gvD_mk] <;> with_reducible rfl))⟩, ?_⟩
          refine ⟨.inl (by kernel_rfl), ?_⟩
          refine ⟨.inl (by kernel_rfl), ?_⟩
          refine ⟨.inl (by kernel_rfl), ?_⟩
          refine ⟨.inl (by kernel_rfl), ?_⟩
          refine ⟨.inl (by kernel_rfl), ?_⟩
          refine ⟨.inl (by kernel_rfl), ?_⟩
          exact True.intro
        case s0u2 =>
          refine ⟨.inr ⟨_, _, rfl, rfl, effN_of (eff_w (hdk := rfl) (hW := rfl) (hq := by simp -dsimp [valT, b1, j0, j1, j2, j3, j4, hkj, hLj, toDs, w1, gvD_mk] <;> (first | done | rfl | exact ⟨rfl, rfl⟩ | exact ⟨rfl, rfl, rfl⟩)) (hoo := rfl) (hv := by simp -dsimp [valT, b1, j0, j1, j2, j3, j4, hkj, hLj, toDs, w1, gvD_mk] <;> with_reducible rfl)) (by simp -dsimp [valT, canonO, insO, b1, j0, j1, j2, j3, j4, hkj, hLj, toDs, w1, gvD_mk] <;> with_reducible rfl)⟩, ?_⟩
          refine ⟨.inl (by kernel_rfl), ?_⟩
          refine ⟨.inr ⟨_, _, rfl, rfl, effN_of (eff_w (hdk := rfl) (hW := rfl) (hq := by simp -dsimp [valT, b1, j0, j1, j2, j3, j4, hkj, hLj, toDs, w1, gvD_mk] <;> (first | done | rfl | exact ⟨rfl, rfl⟩ | exact ⟨rfl, rfl, rfl⟩)) (hoo := rfl) (hv := by simp -dsimp [valT, b1, j0, j1, j2, j3, j4, hkj, hLj, toDs, w1, gvD_mk] <;> with_reducible rfl)) (by simp -dsimp [valT, canonO, insO, b1, j0, j1, j2, j3, j4, hkj, hLj, toDs, w1, gvD_mk] <;> with_reducible rfl)⟩, ?_⟩
          refine ⟨.inl (by kernel_rfl), ?_⟩
          refine ⟨.inl (by kernel_rfl), ?_⟩
          refine ⟨.inl (by kernel_rfl), ?_⟩
          exact True.intro
        case v1u2 =>
          refine ⟨.inr ⟨_, rfl, effN_self (eff_v rfl rfl (by simp -dsimp [valT, b1, j0, j1, j2, j3, j4, hkj, hLj, toDs, w1, gvD_mk] <;> with_reducible rfl))⟩, ?_⟩
          refine ⟨.inr ⟨_, rfl, effN_self (eff_v rfl rfl (by simp -dsimp [valT, b1, j0, j1, j2, j3, j4, hkj, hLj, toDs, w1, gvD_mk] <;> with_reducible rfl))⟩, ?_⟩
          refine ⟨.inl (by kernel_rfl), ?_⟩
          refine ⟨.inl (by kernel_rfl), ?_⟩
          refine ⟨.inl (by kernel_rfl), ?_⟩
          refine ⟨.inl (by kernel_rfl), ?_⟩
          refine ⟨.inl (by kernel_rfl), ?_⟩
          refine ⟨.inl (by kernel_rfl), ?_⟩
          refine ⟨.inl (by kernel_rfl), ?_⟩
          refine ⟨.inr ⟨_, rfl, effN_self (eff_v rfl rfl (by simp -dsimp [valT, b1, j0, j1, j2, j3, j4, hkj, hLj, toDs, w1, gvD_mk] <;> with_reducible rfl))⟩, ?_⟩
          refine ⟨.inr ⟨_, rfl, effN_self (eff_v rfl rfl (by simp -dsimp [valT, b1, j0, j1, j2, j3, j4, hkj, hLj, toDs, w1, gvD_mk] <;> with_reducible rfl))⟩, ?_⟩
          refine ⟨.inr ⟨_, rfl, effN_self (eff_v rfl rfl (by simp -dsimp [valT, b1, j0, j1, j2, j3, j4, hkj, hLj, toDs, w1, gvD_mk] <;> with_reducible rfl))⟩, ?_⟩
          refine ⟨.inr ⟨_, rfl, effN_self (eff_v rfl rfl (by simp -dsimp [valT, b1, j0, j1, j2, j3, j4, hkj, hLj, toDs, w1, gvD_mk] <;> with_reducible rfl))⟩, ?_⟩
          refine ⟨.inr ⟨_, rfl, effN_self (eff_v rfl rfl (by simp -dsimp [valT, b1, j0, j1, j2, j3, j4, hkj, hLj, toDs, w1, gvD_mk] <;> with_reducible rfl))⟩, ?_⟩
          refine ⟨.inr ⟨_, rfl, effN_self (eff_v rfl rfl (by simp -dsimp [valT, b1, j0, j1, j2, j3, j4, hkj, hLj, toDs, w1, gvD_mk] <;> with_reducible rfl))⟩, ?_⟩
          refine ⟨.inr ⟨_, rfl, effN_self (eff_v rfl rfl (by simp -dsimp [valT, b1, j0, j1, j2, j3, j4, hkj, hLj, toDs, w1, gvD_mk] <;> with_reducible rfl))⟩, ?_⟩
          refine ⟨.inl (by kernel_rfl), ?_⟩
          refine ⟨.inl (by kernel_rfl), ?_⟩
          refine ⟨.inl (by kernel_rfl), ?_⟩
          refine ⟨.inl (by kernel_rfl), ?_⟩
          refine ⟨.inl (by kernel_rfl), ?_⟩
          refine ⟨.inl (by kernel_rfl), ?_⟩
          exact True.intro
        case s1u2 =>
          refine ⟨.inl (by kernel_rfl), ?_⟩
          refine ⟨.inr ⟨_, _, rfl, rfl, effN_of (eff_w (hdk := rfl) (hW := rfl) (hq := by simp -dsimp [valT, b1, j0, j1, j2, j3, j4, hkj, hLj, toDs, w1, gvD_mk] <;> (first | done | rfl | exact ⟨rfl, rfl⟩ | exact ⟨rfl, rfl, rfl⟩)) (hoo := rfl) (hv := by simp -dsimp [valT, b1, j0, j1, j2, j3, j4, hkj, hLj, toDs, w1, gvD_mk] <;> with_reducible rfl)) (by simp -dsimp [valT, canonO, insO, b1, j0, j1, j2, j3, j4, hkj, hLj, toDs, w1, gvD_mk] <;> with_reducible rfl)⟩, ?_⟩
          refine ⟨.inr ⟨_, _, rfl, rfl, effN_of (eff_w (hdk := rfl) (hW := rfl) (hq := by simp -dsimp [valT, b1, j0, j1, j2, j3, j4, hkj, hLj, toDs, w1, gvD_mk] <;> (first | done | rfl | exact ⟨rfl, rfl⟩ | exact ⟨rfl, rfl, rfl⟩)) (hoo := rfl) (hv := by simp -dsimp [valT, b1, j0, j1, j2, j3, j4, hkj, hLj, toDs, w1, gvD_mk] <;> with_reducible rfl)) (by simp -dsimp [valT, canonO, insO, b1, j0, j1, j2, j3, j4, hkj, hLj, toDs, w1, gvD_mk] <;> with_reducible rfl)⟩, ?_⟩
          refine ⟨.inl (by kernel_rfl), ?_⟩
          refine ⟨.inl (by kernel_rfl), ?_⟩
          refine ⟨.inl (by kernel_rfl), ?_⟩
          exact True.intro
        case v2u2 =>
          refine ⟨.inr ⟨_, rfl, effN_self (eff_v rfl rfl (by simp -dsimp [valT, b1, j0, j1, j2, j3, j4, hkj, hLj, toDs, w1, gvD_mk] <;> with_reducible rfl))⟩, ?_⟩
          refine ⟨.inr ⟨_, rfl, effN_self (eff_v rfl rfl (by simp -dsimp [valT, b1, j0, j1, j2, j3, j4, hkj, hLj, toDs, w1, gvD_mk] <;> with_reducible rfl))⟩, ?_⟩
          refine ⟨.inr ⟨_, rfl, effN_self (eff_v rfl rfl (by simp -dsimp [valT, b1, j0, j1, j2, j3, j4, hkj, hLj, toDs, w1, gvD_mk] <;> with_reducible rfl))⟩, ?_⟩
          refine ⟨.inr ⟨_, rfl, effN_self (eff_v rfl rfl (by simp -dsimp [valT, b1, j0, j1, j2, j3, j4, hkj, hLj, toDs, w1, gvD_mk] <;> with_reducible rfl))⟩, ?_⟩
          refine ⟨.inr ⟨_, rfl, effN_self (eff_v rfl rfl (by simp -dsimp [valT, b1, j0, j1, j2, j3, j4, hkj, hLj, toDs, w1, gvD_mk] <;> with_reducible rfl))⟩, ?_⟩
          refine ⟨.inr ⟨_, rfl, effN_self (eff_v rfl rfl (by simp -dsimp [valT, b1, j0, j1, j2, j3, j4, hkj, hLj, toDs, w1, gvD_mk] <;> with_reducible rfl))⟩, ?_⟩
          refine ⟨.inr ⟨_, rfl, effN_self (eff_v rfl rfl (by simp -dsimp [valT, b1, j0, j1, j2, j3, j4, hkj, hLj, toDs, w1, gvD_mk] <;> with_reducible rfl))⟩, ?_⟩
          refine ⟨.inl (by kernel_rfl), ?_⟩
          refine ⟨.inl (by kernel_rfl), ?_⟩
          refine ⟨.inr ⟨_, rfl, effN_self (eff_v rfl rfl (by simp -dsimp [valT, b1, j0, j1, j2, j3, j4, hkj, hLj, toDs, w1, gvD_mk] <;> with_reducible rfl))⟩, ?_⟩
          refine ⟨.inr ⟨_, rfl, effN_self (eff_v rfl rfl (by simp -dsimp [valT, b1, j0, j1, j2, j3, j4, hkj, hLj, toDs, w1, gvD_mk] <;> with_reducible rfl))⟩, ?_⟩
          refine ⟨.inl (by kernel_rfl), ?_⟩
          refine ⟨.inl (by kernel_rfl), ?_⟩
          refine ⟨.inl (by kernel_rfl), ?_⟩
          refine ⟨.inl (by kernel_rfl), ?_⟩
          refine ⟨.inl (by kernel_rfl), ?_⟩
          refine ⟨.inl (by kernel_rfl), ?_⟩
          refine ⟨.inl (by kernel_rfl), ?_⟩
          refine ⟨.inl (by kernel_rfl), ?_⟩
          refine ⟨.inl (by kernel_rfl), ?_⟩
          refine ⟨.inl (by kernel_rfl), ?_⟩
          refine ⟨.inl (by kernel_rfl), ?_⟩
          exact True.intro
        case s2u2 =>
          refine ⟨.inr ⟨_, _, rfl, rfl, effN_of (eff_w (hdk := rfl) (hW := rfl) (hq := by simp -dsimp [valT, b1, j0, j1, j2, j3, j4, hkj, hLj, toDs, w1, gvD_mk] <;> (first | done | rfl | exact ⟨rfl, rfl⟩ | exact ⟨rfl, rfl, rfl⟩)) (hoo := rfl) (hv := by simp -dsimp [valT, b1, j0, j1, j2, j3, j4, hkj, hLj, toDs, w1, gvD_mk] <;> with_reducible rfl)) (by simp -dsimp [valT, canonO, insO, b1, j0, j1, j2, j3, j4, hkj, hLj, toDs, w1, gvD_mk] <;> with_reducible rfl)⟩, ?_⟩
          refine ⟨.inl (by kernel_rfl), ?_⟩
          refine ⟨.inl (by kernel_rfl), ?_⟩
          refine ⟨.inl (by kernel_rfl), ?_⟩
          refine ⟨.inl (by kernel_rfl), ?_⟩
          refine ⟨.inl (by kernel_rfl), ?_⟩
          exact True.intro
        case v3u2 =>
          refine ⟨.inl (by kernel_rfl), ?_⟩
          refine ⟨.inl (by kernel_rfl), ?_⟩
          refine ⟨.inl (by kernel_rfl), ?_⟩
          refine ⟨.inl (by kernel_rfl), ?_⟩
          refine ⟨.inl (by kernel_rfl), ?_⟩
          refine ⟨.inl (by kernel_rfl), ?_⟩
          refine ⟨.inl (by kernel_rfl), ?_⟩
          refine ⟨.inl (by kernel_rfl), ?_⟩
          refine ⟨.inl (by kernel_rfl), ?_⟩
          refine ⟨.inr ⟨_, rfl, effN_self (eff_v rfl rfl (by simp -dsimp [valT, b1, j0, j1, j2, j3, j4, hkj, hLj, toDs, w1, gvD_mk] <;> with_reducible rfl))⟩, ?_⟩
          refine ⟨.inr ⟨_, rfl, effN_self (eff_v rfl rfl (by simp -dsimp [valT, b1, j0, j1, j2, j3, j4, hkj, hLj, toDs, w1, gvD_mk] <;> with_reducible rfl))⟩, ?_⟩
          refine ⟨.inr ⟨_, rfl, effN_self (eff_v rfl rfl (by simp -dsimp [valT, b1, j0, j1, j2, j3, j4, hkj, hLj, toDs, w1, gvD_mk] <;> with_reducible rfl))⟩, ?_⟩
          refine ⟨.inr ⟨_, rfl, effN_self (eff_v rfl rfl (by simp -dsimp [valT, b1, j0, j1, j2, j3, j4, hkj, hLj, toDs, w1, gvD_mk] <;> with_reducible rfl))⟩, ?_⟩
          refine ⟨.inr ⟨_, rfl, effN_self (eff_v rfl rfl (by simp -dsimp [valT, b1, j0, j1, j2, j3, j4, hkj, hLj, toDs, w1, gvD_mk] <;> with_reducible rfl))⟩, ?_⟩
          refine ⟨.inr ⟨_, rfl, effN_self (eff_v rfl rfl (by simp -dsimp [valT, b1, j0, j1, j2, j3, j4, hkj, hLj, toDs, w1, gvD_mk] <;> with_reducible rfl))⟩, ?_⟩
          refine ⟨.inr ⟨_, rfl, effN_self (eff_v rfl rfl (by simp -dsimp [valT, b1, j0, j1, j2, j3, j4, hkj, hLj, toDs, w1, gvD_mk] <;> with_reducible rfl))⟩, ?_⟩
          refine ⟨.inl (by kernel_rfl), ?_⟩
          refine ⟨.inl (by kernel_rfl), ?_⟩
          refine ⟨.inr ⟨_, rfl, effN_self (eff_v rfl rfl (by simp -dsimp [valT, b1, j0, j1, j2, j3, j4, hkj, hLj, toDs, w1, gvD_mk] <;> with_reducible rfl))⟩, ?_⟩
          refine ⟨.inl (by kernel_rfl), ?_⟩
          refine ⟨.inl (by kernel_rfl), ?_⟩
          refine ⟨.inl (by kernel_rfl), ?_⟩
          exact True.intro
        case s3u2 =>
          refine ⟨.inl (by kernel_rfl), ?_⟩
          refine ⟨.inl (by kernel_rfl), ?_⟩
          refine ⟨.inr ⟨_, _, rfl, rfl, effN_of (eff_w (hdk := rfl) (hW := rfl) (hq := by simp -dsimp [valT, b1, j0, j1, j2, j3, j4, hkj, hLj, toDs, w1, gvD_mk] <;> (first | done | rfl | exact ⟨rfl, rfl⟩ | exact ⟨rfl, rfl, rfl⟩)) (hoo := rfl) (hv := by simp -dsimp [valT, b1, j0, j1, j2, j3, j4, hkj, hLj, toDs, w1, gvD_mk] <;> with_reducible rfl)) (by simp -dsimp [valT, canonO, insO, b1, j0, j1, j2, j3, j4, hkj, hLj, toDs, w1, gvD_mk] <;> with_reducible rfl)⟩, ?_⟩
          refine ⟨.inl (by kernel_rfl), ?_⟩
          refine ⟨.inl (by kernel_rfl), ?_⟩
          refine ⟨.inl (by kernel_rfl), ?_⟩
          exact True.intro
        case v4u2 =>
          refine ⟨.inr ⟨_, rfl, effN_self (eff_v rfl rfl (by simp -dsimp [valT, b1, j0, j1, j2, j3, j4, hkj, hLj, toDs, w1, gvD_mk] <;> with_reducible rfl))⟩, ?_⟩
          refine ⟨.inr ⟨_, rfl, effN_self (eff_v rfl rfl (by simp -dsimp [valT, b1, j0, j1, j2, j3, j4, hkj, hLj, toDs, w1, gvD_mk] <;> with_reducible rfl))⟩, ?_⟩
          refine ⟨.inl (by kernel_rfl), ?_⟩
          refine ⟨.inl (by kernel_rfl), ?_⟩
          refine ⟨.inl (by kernel_rfl), ?_⟩
          refine ⟨.inl (by kernel_rfl), ?_⟩
          refine ⟨.inl (by kernel_rfl), ?_⟩
          refine ⟨.inl (by kernel_rfl), ?_⟩
          refine ⟨.inl (by kernel_rfl), ?_⟩
          refine ⟨.inr ⟨_, rfl, effN_self (eff_v rfl rfl (by simp -dsimp [valT, b1, j0, j1, j2, j3, j4, hkj, hLj, toDs, w1, gvD_mk] <;> with_reducible rfl))⟩, ?_⟩
          refine ⟨.inr ⟨_, rfl, effN_self (eff_v rfl rfl (by simp -dsimp [valT, b1, j0, j1, j2, j3, j4, hkj, hLj, toDs, w1, gvD_mk] <;> with_reducible rfl))⟩, ?_⟩
          refine ⟨.inl (by kernel_rfl), ?_⟩
          refine ⟨.inl (by kernel_rfl), ?_⟩
          refine ⟨.inl (by kernel_rfl), ?_⟩
          refine ⟨.inl (by kernel_rfl), ?_⟩
          refine ⟨.inl (by kernel_rfl), ?_⟩
          refine ⟨.inl (by kernel_rfl), ?_⟩
          refine ⟨.inl (by kernel_rfl), ?_⟩
          refine ⟨.inl (by kernel_rfl), ?_⟩
          refine ⟨.inl (by kernel_rfl), ?_⟩
          refine ⟨.inl (by kernel_rfl), ?_⟩
          refine ⟨.inl (by kernel_rfl), ?_⟩
          exact True.intro
        case s4u2 =>
          refine ⟨.inl (by kernel_rfl), ?_⟩
          refine ⟨.inr ⟨_, _, rfl, rfl, effN_of (eff_w (hdk := rfl) (hW := rfl) (hq := by simp -dsimp [valT, b1, j0, j1, j2, j3, j4, hkj, hLj, toDs, w1, gvD_mk] <;> (first | done | rfl | exact ⟨rfl, rfl⟩ | exact ⟨rfl, rfl, rfl⟩)) (hoo := rfl) (hv := by simp -dsimp [valT, b1, j0, j1, j2, j3, j4, hkj, hLj, toDs, w1, gvD_mk] <;> with_reducible rfl)) (by simp -dsimp [valT, canonO, insO, b1, j0, j1, j2, j3, j4, hkj, hLj, toDs, w1, gvD_mk] <;> with_reducible rfl)⟩, ?_⟩
          refine ⟨.inl (by kernel_rfl), ?_⟩
          refine ⟨.inl (by kernel_rfl), ?_⟩
          refine ⟨.inl (by kernel_rfl), ?_⟩
          refine ⟨.inl (by kernel_rfl), ?_⟩
          exact True.intro
        case v5u2 =>
          refine ⟨.inl (by kernel_rfl), ?_⟩
          refine ⟨.inl (by kernel_rfl), ?_⟩
          refine ⟨.inl (by kernel_rfl), ?_⟩
          refine ⟨.inl (by kernel_rfl), ?_⟩
          refine ⟨.inl (by kernel_rfl), ?_⟩
          refine ⟨.inl (by kernel_rfl), ?_⟩
          refine ⟨.inl (by kernel_rfl), ?_⟩
          refine ⟨.inl (by kernel_rfl), ?_⟩
          refine ⟨.inl (by kernel_rfl), ?_⟩
          refine ⟨.inr ⟨_, rfl, effN_self (eff_v rfl rfl (by simp -dsimp [valT, b1, j0, j1, j2, j3, j4, hkj, hLj, toDs, w1, gvD_mk] <;> with_reducible rfl))⟩, ?_⟩
          refine ⟨.inr ⟨_, rfl, effN_self (eff_v rfl rfl (by simp -dsimp [valT, b1, j0, j1, j2, j3, j4, hkj, hLj, toDs, w1, gvD_mk] <;> with_reducible rfl))⟩, ?_⟩
          refine ⟨.inl (by kernel_rfl), ?_⟩
          refine ⟨.inl (by kernel_rfl), ?_⟩
          refine ⟨.inl (by kernel_rfl), ?_⟩
          refine ⟨.inl (by kernel_rfl), ?_⟩
          refine ⟨.inl (by kernel_rfl), ?_⟩
          refine ⟨.inl (by kernel_rfl), ?_⟩
          refine ⟨.inl (by kernel_rfl), ?_⟩
          refine ⟨.inr ⟨_, rfl, effN_self (eff_v rfl rfl (by simp -dsimp [valT, b1, j0, j1, j2, j3, j4, hkj, hLj, toDs, w1, gvD_mk] <;> with_reducible rfl))⟩, ?_⟩
          refine ⟨.inl (by kernel_rfl), ?_⟩
          refine ⟨.inl (by kernel_rfl), ?_⟩
          refine ⟨.inl (by kernel_rfl), ?_⟩
          exact True.intro
        case s5u2 =>
          refine ⟨.inl (by kernel_rfl), ?_⟩
          refine ⟨.inl (by kernel_rfl), ?_⟩
          refine ⟨.inl (by kernel_rfl), ?_⟩
          refine ⟨.inr ⟨_, _, rfl, rfl, effN_of (eff_w (hdk := rfl) (hW := rfl) (hq := by simp -dsimp [valT, b1, j0, j1, j2, j3, j4, hkj, hLj, toDs, w1, gvD_mk] <;> (first | done | rfl | exact ⟨rfl, rfl⟩ | exact ⟨rfl, rfl, rfl⟩)) (hoo := rfl) (hv := by simp -dsimp [valT, b1, j0, j1, j2, j3, j4, hkj, hLj, toDs, w1, gvD_mk] <;> with_reducible rfl)) (by simp -dsimp [valT, canonO, insO, b1, j0, j1, j2, j3, j4, hkj, hLj, toDs, w1, gvD_mk] <;> with_reducible rfl)⟩, ?_⟩
          refine ⟨.inl (by kernel_rfl), ?_⟩
          refine ⟨.inl (by kernel_rfl), ?_⟩
          exact True.intro
        case v6u2 =>
          refine ⟨.inl (by kernel_rfl), ?_⟩
          refine ⟨.inl (by kernel_rfl), ?_⟩
          refine ⟨.inl (by kernel_rfl), ?_⟩
          refine ⟨.inl (by kernel_rfl), ?_⟩
          refine ⟨.inl (by kernel_rfl), ?_⟩
          refine ⟨.inl (by kernel_rfl), ?_⟩
          refine ⟨.inl (by kernel_rfl), ?_⟩
          refine ⟨.inl (by kernel_rfl), ?_⟩
          refine ⟨.inl (by kernel_rfl), ?_⟩
          refine ⟨.inl (by kernel_rfl), ?_⟩
          refine ⟨.inl (by kernel_rfl), ?_⟩
          refine ⟨.inl (by kernel_rfl), ?_⟩
          refine ⟨.inl (by kernel_rfl), ?_⟩
          refine ⟨.inl (by kernel_rfl), ?_⟩
          refine ⟨.inl (by kernel_rfl), ?_⟩
          refine ⟨.inl (by kernel_rfl), ?_⟩
          refine ⟨.inl (by kernel_rfl), ?_⟩
          refine ⟨.inl (by kernel_rfl), ?_⟩
          refine ⟨.inr ⟨_, rfl, effN_self (eff_v rfl rfl (by simp -dsimp [valT, b1, j0, j1, j2, j3, j4, hkj, hLj, toDs, w1, gvD_mk] <;> with_reducible rfl))⟩, ?_⟩
          refine ⟨.inl (by kernel_rfl), ?_⟩
          refine ⟨.inl (by kernel_rfl), ?_⟩
          refine ⟨.inl (by kernel_rfl), ?_⟩
          exact True.intro
        case s6u2 =>
          refine ⟨.inl (by kernel_rfl), ?_⟩
          refine ⟨.inl (by kernel_rfl), ?_⟩
          refine ⟨.inl (by kernel_rfl), ?_⟩
          refine ⟨.inl (by kernel_rfl), ?_⟩
          refine ⟨.inr ⟨_, _, rfl, rfl, effN_of (eff_w (hdk := rfl) (hW := rfl) (hq := by simp -dsimp [valT, b1, j0, j1, j2, j3, j4, hkj, hLj, toDs, w1, gvD_mk] <;> (first | done | rfl | exact ⟨rfl, rfl⟩ | exact ⟨rfl, rfl, rfl⟩)) (hoo := rfl) (hv := by simp -dsimp [valT, b1, j0, j1, j2, j3, j4, hkj, hLj, toDs, w1, gvD_mk] <;> with_reducible rfl)) (by simp -dsimp [valT, canonO, insO, b1, j0, j1, j2, j3, j4, hkj, hLj, toDs, w1, gvD_mk] <;> with_reducible rfl)⟩, ?_⟩
          refine ⟨.inl (by kernel_rfl), ?_⟩
          exact True.intro
        case v7u2 =>
          refine ⟨.inl (by kernel_rfl), ?_⟩
          refine ⟨.inl (by kernel_rfl), ?_⟩
          refine ⟨.inl (by kernel_rfl), ?_⟩
          refine ⟨.inl (by kernel_rfl), ?_⟩
          refine ⟨.inl (by kernel_rfl), ?_⟩
          refine ⟨.inl (by kernel_rfl), ?_⟩
          refine ⟨.inl (by kernel_rfl), ?_⟩
          refine ⟨.inl (by kernel_rfl), ?_⟩
          refine ⟨.inl (by kernel_rfl), ?_⟩
          refine ⟨.inl (by kernel_rfl), ?_⟩
          refine ⟨.inl (by kernel_rfl), ?_⟩
          refine ⟨.inl (by kernel_rfl), ?_⟩
          refine ⟨.inl (by kernel_rfl), ?_⟩
          refine ⟨.inl (by kernel_rfl), ?_⟩
          refine ⟨.inl (by kernel_rfl), ?_⟩
          refine ⟨.inl (by kernel_rfl), ?_⟩
          refine ⟨.inl (by kernel_rfl), ?_⟩
          refine ⟨.inl (by kernel_rfl), ?_⟩
          refine ⟨.inl (by kernel_rfl), ?_⟩
          refine ⟨.inl (by kernel_rfl), ?_⟩
          refine ⟨.inr ⟨_, rfl, effN_self (eff_v rfl rfl (by simp -dsimp [valT, b1, j0, j1, j2, j3, j4, hkj, hLj, toDs, w1, gvD_mk] <;> with_reducible rfl))⟩, ?_⟩
          refine ⟨.inl (by kernel_rfl), ?_⟩
          exact True.intro
        case s7u2 =>
          refine ⟨.inl (by kernel_rfl), ?_⟩
          refine ⟨.inl (by kernel_rfl), ?_⟩
          refine ⟨.inl (by kernel_rfl), ?_⟩
          refine ⟨.inl (by kernel_rfl), ?_⟩
          refine ⟨.inl (by kernel_rfl), ?_⟩
          refine ⟨.inr ⟨_, _, rfl, rfl, effN_of (eff_w (hdk := rfl) (hW := rfl) (hq := by simp -dsimp [valT, b1, j0, j1, j2, j3, j4, hkj, hLj, toDs, w1, gvD_mk] <;> (first | done | rfl | exact ⟨rfl, rfl⟩ | exact ⟨rfl, rfl, rfl⟩)) (hoo := rfl) (hv := by simp -dsimp [valT, b1, j0, j1, j2, j3, j4, hkj, hLj, toDs, w1, gvD_mk] <;> with_reducible rfl)) (by simp -dsimp [valT, canonO, insO, b1, j0, j1, j2, j3, j4, hkj, hLj, toDs, w1, gvD_mk] <;> with_reducible rfl)⟩, ?_⟩
          exact True.intro
        case v8u2 =>
          refine ⟨.inl (by kernel_rfl), ?_⟩
          refine ⟨.inl (by kernel_rfl), ?_⟩
          refine ⟨.inl (by kernel_rfl), ?_⟩
          refine ⟨.inl (by kernel_rfl), ?_⟩
          refine ⟨.inl (by kernel_rfl), ?_⟩
          refine ⟨.inl (by kernel_rfl), ?_⟩
          refine ⟨.inl (by kernel_rfl), ?_⟩
          refine ⟨.inl (by kernel_rfl), ?_⟩
          refine ⟨.inl (by kernel_rfl), ?_⟩
          refine ⟨.inl (by kernel_rfl), ?_⟩
          refine ⟨.inl (by kernel_rfl), ?_⟩
          refine ⟨.inl (by kernel_rfl), ?_⟩
          refine ⟨.inl (by kernel_rfl), ?_⟩
          refine ⟨.inl (by kernel_rfl), ?_⟩
          refine ⟨.inl (by kernel_rfl), ?_⟩
          refine ⟨.inl (by kernel_rfl), ?_⟩
          refine ⟨.inl (by kernel_rfl), ?_⟩
          refine ⟨.inl (by kernel_rfl), ?_⟩
          refine ⟨.inl (by kernel_rfl), ?_⟩
          refine ⟨.inl (by kernel_rfl), ?_⟩
          refine ⟨.inl (by kernel_rfl), ?_⟩
          refine ⟨.inl (by kernel_rfl), ?_⟩
          exact True.intro
        case s8u2 =>
          refine ⟨.inl (by kernel_rfl), ?_⟩
          refine ⟨.inl (by kernel_rfl), ?_⟩
          refine ⟨.inl (by kernel_rfl), ?_⟩
          refine ⟨.inl (by kernel_rfl), ?_⟩
          refine ⟨.inl (by kernel_rfl), ?_⟩
          refine ⟨.inl (by kernel_rfl), ?_⟩
          exact True.intro
        case hoku2 => kernel_rfl
        refine ⟨rfl, ?_⟩
        (repeat' (first
                                                            | (with_reducible refine br_d (fun _ => ?_) (fun _ => ?_))
                                                            | (with_reducible refine br_i (fun _ => ?_) (fun _ => ?_))
                                                            | ((with_reducible apply nd_next); (case hx => simp -dsimp [w1]; first | done | with_reducible rfl); (case hid => simp -dsimp [w1]; first | done | with_reducible rfl | exact ⟨rfl, rfl, rfl⟩ | exact ⟨rfl, rfl⟩); (case' h1 => intro _ _ _); (case' h0 => intro _))
                                                            | ((with_reducible apply nd_entry); (case hx => simp -dsimp [w1]; first | done | with_reducible rfl); (case hid => simp -dsimp [w1]; first | done | with_reducible rfl | exact ⟨rfl, rfl, rfl⟩ | exact ⟨rfl, rfl⟩))
                                                            | ((with_reducible apply nd_range); (case hx => simp -dsimp [w1]; with_reducible rfl); (case hT => simp -dsimp [w1]); (case hnd => assumption); (case hz => simp -dsimp [w1]))
                                                            | (with_reducible refine dn_i follows_any (by kernel_rfl) ?_)
                                                            | (with_reducible exact done_eq rfl)
                                                            | (simp -dsimp [w1]))); (all_goals try with_reducible refine done_eq ?_)
        refine hK _ 1 ?_ (by omega) (by omega)
        rw [if_neg (by decide), ek, eL]
        exact Weak.same (by simp -dsimp) (by simp -dsimp) (by first | rfl | (simp [closedSt, Av.ids, Ow.ids, Cl.ids, Go.Smd.keys]; done))
      · rw [if_neg h0]
        obtain ⟨R0, hR0⟩ : ∃ R0, R0 = sRow (Ak.take i) := ⟨_, rfl⟩
        obtain ⟨R1, hR1⟩ : ∃ R1, R1 = (AL.take i).map gvD := ⟨_, rfl⟩
        have hl0 : R0.length = i := by rw [hR0, List.length_map, List.length_take]; omega
        have hl1 : R1.length = i := by rw [hR1, List.length_map, List.length_take]; omega
        have e0 : sRow (Ak.take (i + 1)) = R0 ++ [[dS k]] := by rw [ek, hR0]; simp [sRow]
        rw [← hR1] at eL
        have hb1 : (i + 1) * 16 ≤ 140737488351232 := by omega
        have hb2 : (i + 1) * 88 ≤ 140737488351232 := by omega
        rw [← hR0, ← hR1]
        (repeat' (first
                                                            | (with_reducible refine br_d (fun _ => ?_) (fun _ => ?_))
                                                            | (with_reducible refine br_i (fun _ => ?_) (fun _ => ?_))
                                                            | ((with_reducible apply nd_next); (case hx => simp -dsimp [b1, h3, hlt, hr1, hr2, hr3, hw1, hw2]; first | done | with_reducible rfl); (case hid => simp -dsimp [b1, h3, hlt, hr1, hr2, hr3, hw1, hw2]; first | done | with_reducible rfl | exact ⟨rfl, rfl, rfl⟩ | exact ⟨rfl, rfl⟩); (case' h1 => intro _ _ _); (case' h0 => intro _))
                                                            | ((with_reducible apply nd_entry); (case hx => simp -dsimp [b1, h3, hlt, hr1, hr2, hr3, hw1, hw2]; first | done | with_reducible rfl); (case hid => simp -dsimp [b1, h3, hlt, hr1, hr2, hr3, hw1, hw2]; first | done | with_reducible rfl | exact ⟨rfl, rfl, rfl⟩ | exact ⟨rfl, rfl⟩))
                                                            | ((with_reducible apply nd_range); (case hx => simp -dsimp [b1, h3, hlt, hr1, hr2, hr3, hw1, hw2]; with_reducible rfl); (case hT => simp -dsimp [b1, h3, hlt, hr1, hr2, hr3, hw1, hw2]); (case hnd => assumption); (case hz => simp -dsimp [b1, h3, hlt, hr1, hr2, hr3, hw1, hw2]))
                                                            | (with_reducible refine dn_i follows_any (by kernel_rfl) ?_)
                                                            | (with_reducible exact done_eq rfl)
                                                            | (simp -dsimp [b1, h3, hlt, hr1, hr2, hr3, hw1, hw2]))); (all_goals try with_reducible refine done_eq ?_)
        refine exD_p ?_
        refine aw_drawn_n follows_any [[], [0], [], [2], [], [2, 3, 4], [2, 3, 4, 5], [2, 3, 4, 5, 6], [0, 1, 2, 3, 4, 5, 6, 7], [], [9], [], [11], [], [11, 12, 13], [11, 12, 13, 14], [11, 12, 13, 14, 15], [0, 1, 2, 3, 4, 5, 6, 7, 8, 9, 10, 11, 12, 13, 14, 15, 16], [0, 1, 2, 3, 4, 5, 6, 7, 8, 9, 10], [0, 1, 2, 3, 4, 5, 6, 7, 8, 9, 10, 11, 12, 13, 14, 15, 16, 17, 18], [0, 1, 2, 3, 4, 5, 6, 7, 8, 9, 10, 11, 12, 13, 14, 15, 16, 17, 18, 19], [0, 1, 2, 3, 4, 5, 6, 7, 8, 9, 10, 11, 12, 13, 14, 15, 16, 17, 18, 19, 20]] [0, 1, 2, 3, 4, 5, 6, 7, 8, 9, 10, 11, 12, 13, 14, 15, 16, 17, 18, 19, 20, 21] [7, 8, 16, 17, 19, 21] [([], ⟨[(43, ?m43u3), (44, ?m44u3), (45, ?m45u3), (46, ?m46u3), (47, ?m47u3), (48, ?m48u3), (49, ?m49u3), (50, ?m50u3), (51, ?m51u3), (52, ?m52u3), (53, ?m53u3), (54, ?m54u3), (55, ?m55u3), (56, ?m56u3), (57, ?m57u3), (58, ?m58u3), (59, ?m59u3), (60, ?m60u3), (61, ?m61u3), (62, ?m62u3)], ?bu3, ?o0u3⟩), ([7], ⟨[(43, ?m43u3), (44, ?m44u3), (45, ?m45u3), (46, ?m46u3), (47, ?m47u3), (48, ?m48u3), (49, ?m49u3), (50, ?m50u3), (51, ?m51u3), (52, ?m52u3), (53, ?m53u3), (54, ?m54u3), (55, ?m55u3), (56, ?m56u3), (57, ?m57u3), (58, ?m58u3), (59, ?m59u3), (60, ?m60u3), (61, ?m61u3), (62, ?m62u3)], ?bu3, ?o1u3⟩), ([16], ⟨[(43, ?m43u3), (44, ?m44u3), (45, ?m45u3), (46, ?m46u3), (47, ?m47u3), (48, ?m48u3), (49, ?m49u3), (50, ?m50u3), (51, ?m51u3), (52, ?m52u3), (53, ?m53u3), (54, ?m54u3), (55, ?m55u3), (56, ?m56u3), (57, ?m57u3), (58, ?m58u3), (59, ?m59u3), (60, ?m60u3), (61, ?m61u3), (62, ?m62u3)], ?bu3, ?o2u3⟩), ([7, 8], ⟨[(43, ?m43u3), (44, ?m44u3), (45, ?m45u3), (46, ?m46u3), (47, ?m47u3), (48, ?m48u3), (49, ?m49u3), (50, ?m50u3), (51, ?m51u3), (52, ?m52u3), (53, ?m53u3), (54, ?m54u3), (55, ?m55u3), (56, ?m56u3), (57, ?m57u3), (58, ?m58u3), (59, ?m59u3), (60, ?m60u3), (61, ?m61u3), (62, ?m62u3)], ?bu3, ?o3u3⟩), ([7, 16], ⟨[(43, ?m43u3), (44, ?m44u3), (45, ?m45u3), (46, ?m46u3), (47, ?m47u3), (48, ?m48u3), (49, ?m49u3), (50, ?m50u3), (51, ?m51u3), (52, ?m52u3), (53, ?m53u3), (54, ?m54u3), (55, ?m55u3), (56, ?m56u3), (57, ?m57u3), (58, ?m58u3), (59, ?m59u3), (60, ?m60u3), (61, ?m61u3), (62, ?m62u3)], ?bu3, ?o4u3⟩), ([7, 8, 16], ⟨[(43, ?m43u3), (44, ?m44u3), (45, ?m45u3), (46, ?m46u3), (47, ?m47u3), (48, ?m48u3), (49, ?m49u3), (50, ?m50u3), (51, ?m51u3), (52, ?m52u3), (53, ?m53u3), (54, ?m54u3), (55, ?m55u3), (56, ?m56u3), (57, ?m57u3), (58, ?m58u3), (59, ?m59u3), (60, ?m60u3), (61, ?m61u3), (62, ?m62u3)], ?bu3, ?o5u3⟩), ([7, 8, 16, 17], ⟨[(43, ?m43u3), (44, ?m44u3), (45, ?m45u3), (46, ?m46u3), (47, ?m47u3), (48, ?m48u3), (49, ?m49u3), (50, ?m50u3), (51, ?m51u3), (52, ?m52u3), (53, ?m53u3), (54, ?m54u3), (55, ?m55u3), (56, ?m56u3), (57, ?m57u3), (58, ?m58u3), (59, ?m59u3), (60, ?m60u3), (61, ?m61u3), (62, ?m62u3)], ?bu3, ?o6u3⟩), ([7, 8, 16, 17, 19], ⟨[(43, ?m43u3), (44, ?m44u3), (45, ?m45u3), (46, ?m46u3), (47, ?m47u3), (48, ?m48u3), (49, ?m49u3), (50, ?m50u3), (51, ?m51u3), (52, ?m52u3), (53, ?m53u3), (54, ?m54u3), (55, ?m55u3), (56, ?m56u3), (57, ?m57u3), (58, ?m58u3), (59, ?m59u3), (60, ?m60u3), (61, ?m61u3), (62, ?m62u3)], ?bu3, ?o7u3⟩), ([7, 8, 16, 17, 19, 21], ⟨[(43, ?m43u3), (44, ?m44u3), (45, ?m45u3), (46, ?m46u3), (47, ?m47u3), (48, ?m48u3), (49, ?m49u3), (50, ?m50u3), (51, ?m51u3), (52, ?m52u3), (53, ?m53u3), (54, ?m54u3), (55, ?m55u3), (56, ?m56u3), (57, ?m57u3), (58, ?m58u3), (59, ?m59u3), (60, ?m60u3), (61, ?m61u3), (62, ?m62u3)], ?bu3, ?o8u3⟩)] ?hoku3 rfl rfl ?hbu3 ?hou3 ?hstu3 ?hku3
        case' hbu3 => rfl
        case' hou3 => rfl
        case' hstu3 => refine ⟨⟨?v0u3, ?s0u3⟩, ⟨⟨?v1u3, ?s1u3⟩, ⟨⟨?v2u3, ?s2u3⟩, ⟨⟨?v3u3, ?s3u3⟩, ⟨⟨?v4u3, ?s4u3⟩, ⟨⟨?v5u3, ?s5u3⟩, ⟨⟨?v6u3, ?s6u3⟩, ⟨⟨?v7u3, ?s7u3⟩, ⟨⟨?v8u3, ?s8u3⟩, True.intro⟩⟩⟩⟩⟩⟩⟩⟩⟩
        case v0u3 =>
          refine ⟨.inr ⟨_, rfl, effN_self (eff_v rfl rfl (by simp -dsimp [valT, b1, j0, j1, j2, j3, j4, hkj, hLj, toDs, w1, gvD_mk, hl0, hl1, hb1, hb2] <;> with_reducible rfl))⟩, ?_⟩
          refine ⟨.inr ⟨_, rfl, effN_self (eff_v rfl rfl (by simp -dsimp [valT, b1, j0, j1, j2, j3, j4, hkj, hLj, toDs, w1, gvD_mk, hl0, hl1, hb1, hb2] <;> with_reducible rfl))⟩, ?_⟩
          refine ⟨.inr ⟨_, rfl, effN_self (eff_v rfl rfl (by simp -dsimp [valT, b1, j0, j1, j2, j3, j4, hkj, hLj, toDs, w1, gvD_mk, hl0, hl1, hb1, hb2] <;> with_reducible rfl))⟩, ?_⟩
          refine ⟨.inr ⟨_, rfl, effN_self (eff_v rfl rfl (by simp -dsimp [valT, b1, j0, j1, j2, j3, j4, hkj, hLj, toDs, w1, gvD_mk, hl0, hl1, hb1, hb2] <;> with_reducible rfl))⟩, ?_⟩
          refine ⟨.inr ⟨_, rfl, effN_self (eff_v rfl rfl (by simp -dsimp [valT, b1, j0, j1, j2, j3, j4, hkj, hLj, toDs, w1, gvD_mk, hl0, hl1, hb1, hb2] <;> with_reducible rfl))⟩, ?_⟩
          refine ⟨.inr ⟨_, rfl, effN_self (eff_v rfl rfl (by simp -dsimp [valT, b1, j0, j1, j2, j3, j4, hkj, hLj, toDs, w1, gvD_mk, hl0, hl1, hb1, hb2] <;> with_reducible rfl))⟩, ?_⟩
          refine ⟨.inr ⟨_, rfl, effN_self (eff_v rfl rfl (by simp -dsimp [valT, b1, j0, j1, j2, j3, j4, hkj, hLj, toDs, w1, gvD_mk, hl0, hl1, hb1, hb2] <;> with_reducible rfl))⟩, ?_⟩
          refine ⟨.inl (by kernel_rfl), ?_⟩
          refine ⟨.inl (by kernel_rfl), ?_⟩
          refine ⟨.inr ⟨_, rfl, effN_self (eff_v rfl rfl (by simp -dsimp [valT, b1, j0, j1, j2, j3, j4, hkj, hLj, toDs, w1, gvD_mk, hl0, hl1, hb1, hb2] <;> with_reducible rfl))⟩, ?_⟩
          refine ⟨.inr ⟨_, rfl, effN_self (eff_v rfl rfl (by simp -dsimp [valT, b1, j0, j1, j2, j3, j4, hkj, hLj, toDs, w1, gvD_mk, hl0, hl1, hb1, hb2] <;> with_reducible rfl))⟩, ?_⟩
          refine ⟨.inr ⟨_, rfl, effN_self (eff_v rfl rfl (by simp -dsimp [valT, b1, j0, j1, j2, j3, j4, hkj, hLj, toDs, w1, gvD_mk, hl0, hl1, hb1, hb2] <;> with_reducible rfl))⟩, ?_⟩
          refine ⟨.inr ⟨_, rfl, effN_self (eff_v rfl rfl (by simp -dsimp [valT, b1, j0, j1, j2, j3, j4, hkj, hLj, toDs, w1, gvD_mk, hl0, hl1, hb1, hb2] <;> with_reducible rfl))⟩, ?_⟩
          refine ⟨.inr ⟨_, rfl, effN_self (eff_v rfl rfl (by simp -dsimp [valT, b1, j0, j1, j2, j3, j4, hkj, hLj, toDs, w1, gvD_mk, hl0, hl1, hb1, hb2] <;> with_reducible rfl))⟩, ?_⟩
          refine ⟨.inr ⟨_, rfl, effN_self (eff_v rfl rfl (by simp -dsimp [valT, b1, j0, j1, j2, j3, j4, hkj, hLj, toDs, w1, gvD_mk, hl0, hl1, hb1, hb2] <;> with_reducible rfl))⟩, ?_⟩
          refine ⟨.inr ⟨_, rfl, effN_self (eff_v rfl rfl (by simp -dsimp [valT, b1, j0, j1, j2, j3, j4, hkj, hLj, toDs, w1, gvD_mk, hl0, hl1, hb1, hb2] <;> with_reducible rfl))⟩, ?_⟩
          refine ⟨.inl (by kernel_rfl), ?_⟩
          refine ⟨.inl (by kernel_rfl), ?_⟩
          refine ⟨.inl (by kernel_rfl), ?_⟩
          refine ⟨.inl (by kernel_rfl), ?_⟩
          refine ⟨.inl (by kernel_rfl), ?_⟩
          refine ⟨.inl (by kernel_rfl), ?_⟩
          exact True.intro
        case s0u3 =>
          refine ⟨.inr ⟨_, _, rfl, rfl, effN_of (eff_w (hdk := rfl) (hW := rfl) (hq := by simp -dsimp [valT, b1, j0, j1, j2, j3, j4, hkj, hLj, toDs, w1, gvD_mk, hl0, hl1, hb1, hb2] <;> (first | done | rfl | exact ⟨rfl, rfl⟩ | exact ⟨rfl, rfl, rfl⟩)) (hoo := rfl) (hv := by simp -dsimp [valT, b1, j0, j1, j2, j3, j4, hkj, hLj, toDs, w1, gvD_mk, hl0, hl1, hb1, hb2] <;> with_reducible rfl)) (by simp -dsimp [valT, canonO, insO, b1, j0, j1, j2, j3, j4, hkj, hLj, toDs, w1, gvD_mk, hl0, hl1, hb1, hb2] <;> with_reducible rfl)⟩, ?_⟩
          refine ⟨.inl (by kernel_rfl), ?_⟩
          refine ⟨.inr ⟨_, _, rfl, rfl, effN_of (eff_w (hdk := rfl) (hW := rfl) (hq := by simp -dsimp [valT, b1, j0, j1, j2, j3, j4, hkj, hLj, toDs, w1, gvD_mk, hl0, hl1, hb1, hb2] <;> (first | done | rfl | exact ⟨rfl, rfl⟩ | exact ⟨rfl, rfl, rfl⟩)) (hoo := rfl) (hv := by simp -dsimp [valT, b1, j0, j1, j2, j3, j4, hkj, hLj, toDs, w1, gvD_mk, hl0, hl1, hb1, hb2] <;> with_reducible rfl)) (by simp -dsimp [valT, canonO, insO, b1, j0, j1, j2, j3, j4, hkj, hLj, toDs, w1, gvD_mk, hl0, hl1, hb1, hb2] <;> with_reducible rfl)⟩, ?_⟩
          refine ⟨.inl (by kernel_rfl), ?_⟩
          refine ⟨.inl (by kernel_rfl), ?_⟩
          refine ⟨.inl (by kernel_rfl), ?_⟩
          exact True.intro
        case v1u3 =>
          refine ⟨.inr ⟨_, rfl, effN_self (eff_v rfl rfl (by simp -dsimp [valT, b1, j0, j1, j2, j3, j4, hkj, hLj, toDs, w1, gvD_mk, hl0, hl1, hb1, hb2] <;> with_reducible rfl))⟩, ?_⟩
          refine ⟨.inr ⟨_, rfl, effN_self (eff_v rfl rfl (by simp -dsimp [valT, b1, j0, j1, j2, j3, j4, hkj, hLj, toDs, w1, gvD_mk, hl0, hl1, hb1, hb2] <;> with_reducible rfl))⟩, ?_⟩
          refine ⟨.inl (by kernel_rfl), ?_⟩
          refine ⟨.inl (by kernel_rfl), ?_⟩
          refine ⟨.inl (by kernel_rfl), ?_⟩
          refine ⟨.inl (by kernel_rfl), ?_⟩
          refine ⟨.inl (by kernel_rfl), ?_⟩
          refine ⟨.inl (by kernel_rfl), ?_⟩
          refine ⟨.inl (by kernel_rfl), ?_⟩
          refine ⟨.inr ⟨_, rfl, effN_self (eff_v rfl rfl (by simp -dsimp [valT, b1, j0, j1, j2, j3, j4, hkj, hLj, toDs, w1, gvD_mk, hl0, hl1, hb1, hb2] <;> with_reducible rfl))⟩, ?_⟩
          refine ⟨.inr ⟨_, rfl, effN_self (eff_v rfl rfl (by simp -dsimp [valT, b1, j0, j1, j2, j3, j4, hkj, hLj, toDs, w1, gvD_mk, hl0, hl1, hb1, hb2] <;> with_reducible rfl))⟩, ?_⟩
          refine ⟨.inr ⟨_, rfl, effN_self (eff_v rfl rfl (by simp -dsimp [valT, b1, j0, j1, j2, j3, j4, hkj, hLj, toDs, w1, gvD_mk, hl0, hl1, hb1, hb2] <;> with_reducible rfl))⟩, ?_⟩
          refine ⟨.inr ⟨_, rfl, effN_self (eff_v rfl rfl (by simp -dsimp [valT, b1, j0, j1, j2, j3, j4, hkj, hLj, toDs, w1, gvD_mk, hl0, hl1, hb1, hb2] <;> with_reducible rfl))⟩, ?_⟩
          refine ⟨.inr ⟨_, rfl, effN_self (eff_v rfl rfl (by simp -dsimp [valT, b1, j0, j1, j2, j3, j4, hkj, hLj, toDs, w1, gvD_mk, hl0, hl1, hb1, hb2] <;> with_reducible rfl))⟩, ?_⟩
          refine ⟨.inr ⟨_, rfl, effN_self (eff_v rfl rfl (by simp -dsimp [valT, b1, j0, j1, j2, j3, j4, hkj, hLj, toDs, w1, gvD_mk, hl0, hl1, hb1, hb2] <;> with_reducible rfl))⟩, ?_⟩
          refine ⟨.inr ⟨_, rfl, effN_self (eff_v rfl rfl (by simp -dsimp [valT, b1, j0, j1, j2, j3, j4, hkj, hLj, toDs, w1, gvD_mk, hl0, hl1, hb1, hb2] <;> with_reducible rfl))⟩, ?_⟩
          refine ⟨.inl (by kernel_rfl), ?_⟩
          refine ⟨.inl (by kernel_rfl), ?_⟩
          refine ⟨.inl (by kernel_rfl), ?_⟩
          refine ⟨.inl (by kernel_rfl), ?_⟩
          refine ⟨.inl (by kernel_rfl), ?_⟩
          refine ⟨.inl (by kernel_rfl), ?_⟩
          exact True.intro
        case s1u3 =>
          refine ⟨.inl (by kernel_rfl), ?_⟩
          refine ⟨.inr ⟨_, _, rfl, rfl, effN_of (eff_w (hdk := rfl) (hW := rfl) (hq := by simp -dsimp [valT, b1, j0, j1, j2, j3, j4, hkj, hLj, toDs, w1, gvD_mk, hl0, hl1, hb1, hb2] <;> (first | done | rfl | exact ⟨rfl, rfl⟩ | exact ⟨rfl, rfl, rfl⟩)) (hoo := rfl) (hv := by simp -dsimp [valT, b1, j0, j1, j2, j3, j4, hkj, hLj, toDs, w1, gvD_mk, hl0, hl1, hb1, hb2] <;> with_reducible rfl)) (by simp -dsimp [valT, canonO, insO, b1, j0, j1, j2, j3, j4, hkj, hLj, toDs, w1, gvD_mk, hl0, hl1, hb1, hb2] <;> with_reducible rfl)⟩, ?_⟩
          refine ⟨.inr ⟨_, _, rfl, rfl, effN_of (eff_w (hdk := rfl) (hW := rfl) (hq := by simp -dsimp [valT, b1, j0, j1, j2, j3, j4, hkj, hLj, toDs, w1, gvD_mk, hl0, hl1, hb1, hb2] <;> (first | done | rfl | exact ⟨rfl, rfl⟩ | exact ⟨rfl, rfl, rfl⟩)) (hoo := rfl) (hv := by simp -dsimp [valT, b1, j0, j1, j2, j3, j4, hkj, hLj, toDs, w1, gvD_mk, hl0, hl1, hb1, hb2] <;> with_reducible rfl)) (by simp -dsimp [valT, canonO, insO, b1, j0, j1, j2, j3, j4, hkj, hLj, toDs, w1, gvD_mk, hl0, hl1, hb1, hb2] <;> with_reducible rfl)⟩, ?_⟩
          refine ⟨.inl (by kernel_rfl), ?_⟩
          refine ⟨.inl (by kernel_rfl), ?_⟩
          refine ⟨.inl (by kernel_rfl), ?_⟩
          exact True.intro
        case v2u3 =>
          refine ⟨.inr ⟨_, rfl, effN_self (eff_v rfl rfl (by simp -dsimp [valT, b1, j0, j1, j2, j3, j4, hkj, hLj, toDs, w1, gvD_mk, hl0, hl1, hb1, hb2] <;> with_reducible rfl))⟩, ?_⟩
          refine ⟨.inr ⟨_, rfl, effN_self (eff_v rfl rfl (by simp -dsimp [valT, b1, j0, j1, j2, j3, j4, hkj, hLj, toDs, w1, gvD_mk, hl0, hl1, hb1, hb2] <;> with_reducible rfl))⟩, ?_⟩
          refine ⟨.inr ⟨_, rfl, effN_self (eff_v rfl rfl (by simp -dsimp [valT, b1, j0, j1, j2, j3, j4, hkj, hLj, toDs, w1, gvD_mk, hl0, hl1, hb1, hb2] <;> with_reducible rfl))⟩, ?_⟩
          refine ⟨.inr ⟨_, rfl, effN_self (eff_v rfl rfl (by simp -dsimp [valT, b1, j0, j1, j2, j3, j4, hkj, hLj, toDs, w1, gvD_mk, hl0, hl1, hb1, hb2] <;> with_reducible rfl))⟩, ?_⟩
          refine ⟨.inr ⟨_, rfl, effN_self (eff_v rfl rfl (by simp -dsimp [valT, b1, j0, j1, j2, j3, j4, hkj, hLj, toDs, w1, gvD_mk, hl0, hl1, hb1, hb2] <;> with_reducible rfl))⟩, ?_⟩
          refine ⟨.inr ⟨_, rfl, effN_self (eff_v rfl rfl (by simp -dsimp [valT, b1, j0, j1, j2, j3, j4, hkj, hLj, toDs, w1, gvD_mk, hl0, hl1, hb1, hb2] <;> with_reducible rfl))⟩, ?_⟩
          refine ⟨.inr ⟨_, rfl, effN_self (eff_v rfl rfl (by simp -dsimp [valT, b1, j0, j1, j2, j3, j4, hkj, hLj, toDs, w1, gvD_mk, hl0, hl1, hb1, hb2] <;> with_reducible rfl))⟩, ?_⟩
          refine ⟨.inl (by kernel_rfl), ?_⟩
          refine ⟨.inl (by kernel_rfl), ?_⟩
          refine ⟨.inr ⟨_, rfl, effN_self (eff_v rfl rfl (by simp -dsimp [valT, b1, j0, j1, j2, j3, j4, hkj, hLj, toDs, w1, gvD_mk, hl0, hl1, hb1, hb2] <;> with_reducible rfl))⟩, ?_⟩
          refine ⟨.inr ⟨_, rfl, effN_self (eff_v rfl rfl (by simp -dsimp [valT, b1, j0, j1, j2, j3, j4, hkj, hLj, toDs, w1, gvD_mk, hl0, hl1, hb1, hb2] <;> with_reducible rfl))⟩, ?_⟩
          refine ⟨.inl (by kernel_rfl), ?_⟩
          refine ⟨.inl (by kernel_rfl), ?_⟩
          refine ⟨.inl (by kernel_rfl), ?_⟩
          refine ⟨.inl (by kernel_rfl), ?_⟩
          refine ⟨.inl (by kernel_rfl), ?_⟩
          refine ⟨.inl (by kernel_rfl), ?_⟩
          refine ⟨.inl (by kernel_rfl), ?_⟩
          refine ⟨.inl (by kernel_rfl), ?_⟩
          refine ⟨.inl (by kernel_rfl), ?_⟩
          refine ⟨.inl (by kernel_rfl), ?_⟩
          refine ⟨.inl (by kernel_rfl), ?_⟩
          exact True.intro
        case s2u3 =>
          refine ⟨.inr ⟨_, _, rfl, rfl, effN_of (eff_w (hdk := rfl) (hW := rfl) (hq := by simp -dsimp [valT, b1, j0, j1, j2, j3, j4, hkj, hLj, toDs, w1, gvD_mk, hl0, hl1, hb1, hb2] <;> (first | done | rfl | exact ⟨rfl, rfl⟩ | exact ⟨rfl, rfl, rfl⟩)) (hoo := rfl) (hv := by simp -dsimp [valT, b1, j0, j1, j2, j3, j4, hkj, hLj, toDs, w1, gvD_mk, hl0, hl1, hb1, hb2] <;> with_reducible rfl)) (by simp -dsimp [valT, canonO, insO, b1, j0, j1, j2, j3, j4, hkj, hLj, toDs, w1, gvD_mk, hl0, hl1, hb1, hb2] <;> with_reducible rfl)⟩, ?_⟩
          refine ⟨.inl (by kernel_rfl), ?_⟩
          refine ⟨.inl (by kernel_rfl), ?_⟩
          refine ⟨.inl (by kernel_rfl), ?_⟩
          refine ⟨.inl (by kernel_rfl), ?_⟩
          refine ⟨.inl (by kernel_rfl), ?_⟩
          exact True.intro
        case v3u3 =>
          refine ⟨.inl (by kernel_rfl), ?_⟩
          refine ⟨.inl (by kernel_rfl), ?_⟩
          refine ⟨.inl (by kernel_rfl), ?_⟩
          refine ⟨.inl (by kernel_rfl), ?_⟩
          refine ⟨.inl (by kernel_rfl), ?_⟩
          refine ⟨.inl (by kernel_rfl), ?_⟩
          refine ⟨.inl (by kernel_rfl), ?_⟩
          refine ⟨.inl (by kernel_rfl), ?_⟩
          refine ⟨.inl (by kernel_rfl), ?_⟩
          refine ⟨.inr ⟨_, rfl, effN_self (eff_v rfl rfl (by simp -dsimp [valT, b1, j0, j1, j2, j3, j4, hkj, hLj, toDs, w1, gvD_mk, hl0, hl1, hb1, hb2] <;> with_reducible rfl))⟩, ?_⟩
          refine ⟨.inr ⟨_, rfl, effN_self (eff_v rfl rfl (by simp -dsimp [valT, b1, j0, j1, j2, j3, j4, hkj, hLj, toDs, w1, gvD_mk, hl0, hl1, hb1, hb2] <;> with_reducible rfl))⟩, ?_⟩
          refine ⟨.inr ⟨_, rfl, effN_self (eff_v rfl rfl (by simp -dsimp [valT, b1, j0, j1, j2, j3, j4, hkj, hLj, toDs, w1, gvD_mk, hl0, hl1, hb1, hb2] <;> with_reducible rfl))⟩, ?_⟩
          refine ⟨.inr ⟨_, rfl, effN_self (eff_v rfl rfl (by simp -dsimp [valT, b1, j0, j1, j2, j3, j4, hkj, hLj, toDs, w1, gvD_mk, hl0, hl1, hb1, hb2] <;> with_reducible rfl))⟩, ?_⟩
          refine ⟨.inr ⟨_, rfl, effN_self (eff_v rfl rfl (by simp -dsimp [valT, b1, j0, j1, j2, j3, j4, hkj, hLj, toDs, w1, gvD_mk, hl0, hl1, hb1, hb2] <;> with_reducible rfl))⟩, ?_⟩
          refine ⟨.inr ⟨_, rfl, effN_self (eff_v rfl rfl (by simp -dsimp [valT, b1, j0, j1, j2, j3, j4, hkj, hLj, toDs, w1, gvD_mk, hl0, hl1, hb1, hb2] <;> with_reducible rfl))⟩, ?_⟩
          refine ⟨.inr ⟨_, rfl, effN_self (eff_v rfl rfl (by simp -dsimp [valT, b1, j0, j1, j2, j3, j4, hkj, hLj, toDs, w1, gvD_mk, hl0, hl1, hb1, hb2] <;> with_reducible rfl))⟩, ?_⟩
          refine ⟨.inl (by kernel_rfl), ?_⟩
          refine ⟨.inl (by kernel_rfl), ?_⟩
          refine ⟨.inr ⟨_, rfl, effN_self (eff_v rfl rfl (by simp -dsimp [valT, b1, j0, j1, j2, j3, j4, hkj, hLj, toDs, w1, gvD_mk, hl0, hl1, hb1, hb2] <;> with_reducible rfl))⟩, ?_⟩
          refine ⟨.inl (by kernel_rfl), ?_⟩
          refine ⟨.inl (by kernel_rfl), ?_⟩
          refine ⟨.inl (by kernel_rfl), ?_⟩
          exact True.intro
        case s3u3 =>
          refine ⟨.inl (by kernel_rfl), ?_⟩
          refine ⟨.inl (by kernel_rfl), ?_⟩
          refine ⟨.inr ⟨_, _, rfl, rfl, effN_of (eff_w (hdk := rfl) (hW := rfl) (hq := by simp -dsimp [valT, b1, j0, j1, j2, j3, j4, hkj, hLj, toDs, w1, gvD_mk, hl0, hl1, hb1, hb2] <;> (first | done | rfl | exact ⟨rfl, rfl⟩ | exact ⟨rfl, rfl, rfl⟩)) (hoo := rfl) (hv := by simp -dsimp [valT, b1, j0, j1, j2, j3, j4, hkj, hLj, toDs, w1, gvD_mk, hl0, hl1, hb1, hb2] <;> with_reducible rfl)) (by simp -dsimp [valT, canonO, insO, b1, j0, j1, j2, j3, j4, hkj, hLj, toDs, w1, gvD_mk, hl0, hl1, hb1, hb2] <;> with_reducible rfl)⟩, ?_⟩
          refine ⟨.inl (by kernel_rfl), ?_⟩
          refine ⟨.inl (by kernel_rfl), ?_⟩
          refine ⟨.inl (by kernel_rfl), ?_⟩
          exact True.intro
        case v4u3 =>
          refine ⟨.inr ⟨_, rfl, effN_self (eff_v rfl rfl (by simp -dsimp [valT, b1, j0, j1, j2, j3, j4, hkj, hLj, toDs, w1, gvD_mk, hl0, hl1, hb1, hb2] <;> with_reducible rfl))⟩, ?_⟩
          refine ⟨.inr ⟨_, rfl, effN_self (eff_v rfl rfl (by simp -dsimp [valT, b1, j0, j1, j2, j3, j4, hkj, hLj, toDs, w1, gvD_mk, hl0, hl1, hb1, hb2] <;> with_reducible rfl))⟩, ?_⟩
          refine ⟨.inl (by kernel_rfl), ?_⟩
          refine ⟨.inl (by kernel_rfl), ?_⟩
          refine ⟨.inl (by kernel_rfl), ?_⟩
          refine ⟨.inl (by kernel_rfl), ?_⟩
          refine ⟨.inl (by kernel_rfl), ?_⟩
          refine ⟨.inl (by kernel_rfl), ?_⟩
          refine ⟨.inl (by kernel_rfl), ?_⟩
          refine ⟨.inr ⟨_, rfl, effN_self (eff_v rfl rfl (by simp -dsimp [valT, b1, j0, j1, j2, j3, j4, hkj, hLj, toDs, w1, gvD_mk, hl0, hl1, hb1, hb2] <;> with_reducible rfl))⟩, ?_⟩
          refine ⟨.inr ⟨_, rfl, effN_self (eff_v rfl rfl (by simp -dsimp [valT, b1, j0, j1, j2, j3, j4, hkj, hLj, toDs, w1, gvD_mk, hl0, hl1, hb1, hb2] <;> with_reducible rfl))⟩, ?_⟩
          refine ⟨.inl (by kernel_rfl), ?_⟩
          refine ⟨.inl (by kernel_rfl), ?_⟩
          refine ⟨.inl (by kernel_rfl), ?_⟩
          refine ⟨.inl (by kernel_rfl), ?_⟩
          refine ⟨.inl (by kernel_rfl), ?_⟩
          refine ⟨.inl (by kernel_rfl), ?_⟩
          refine ⟨.inl (by kernel_rfl), ?_⟩
          refine ⟨.inl (by kernel_rfl), ?_⟩
          refine ⟨.inl (by kernel_rfl), ?_⟩
          refine ⟨.inl (by kernel_rfl), ?_⟩
          refine ⟨.inl (by kernel_rfl), ?_⟩
          exact True.intro
        case s4u3 =>
          refine ⟨.inl (by kernel_rfl), ?_⟩
          refine ⟨.inr ⟨_, _, rfl, rfl, effN_of (eff_w (hdk := rfl) (hW := rfl) (hq := by simp -dsimp [valT, b1, j0, j1, j2, j3, j4, hkj, hLj, toDs, w1, gvD_mk, hl0, hl1, hb1, hb2] <;> (first | done | rfl | exact ⟨rfl, rfl⟩ | exact ⟨rfl, rfl, rfl⟩)) (hoo := rfl) (hv := by simp -dsimp [valT, b1, j0, j1, j2, j3, j4, hkj, hLj, toDs, w1, gvD_mk, hl0, hl1, hb1, hb2] <;> with_reducible rfl)) (by simp -dsimp [valT, canonO, insO, b1, j0, j1, j2, j3, j4, hkj, hLj, toDs, w1, gvD_mk, hl0, hl1, hb1, hb2] <;> with_reducible rfl)⟩, ?_⟩
          refine ⟨.inl (by kernel_rfl), ?_⟩
          refine ⟨.inl (by kernel_rfl), ?_⟩
          refine ⟨.inl (by kernel_rfl), ?_⟩
          refine ⟨.inl (by kernel_rfl), ?_⟩
          exact True.intro
        case v5u3 =>
          refine ⟨.inl (by kernel_rfl), ?_⟩
          refine ⟨.inl (by kernel_rfl), ?_⟩
          refine ⟨.inl (by kernel_rfl), ?_⟩
          refine ⟨.inl (by kernel_rfl), ?_⟩
          refine ⟨.inl (by kernel_rfl), ?_⟩
          refine ⟨.inl (by kernel_rfl), ?_⟩
          refine ⟨.inl (by kernel_rfl), ?_⟩
          refine ⟨.inl (by kernel_rfl), ?_⟩
          refine ⟨.inl (by kernel_rfl), ?_⟩
          refine ⟨.inr ⟨_, rfl, effN_self (eff_v rfl rfl (by simp -dsimp [valT, b1, j0, j1, j2, j3, j4, hkj, hLj, toDs, w1, gvD_mk, hl0, hl1, hb1, hb2] <;> with_reducible rfl))⟩, ?_⟩
          refine ⟨.inr ⟨_, rfl, effN_self (eff_v rfl rfl (by simp -dsimp [valT, b1, j0, j1, j2, j3, j4, hkj, hLj, toDs, w1, gvD_mk, hl0, hl1, hb1, hb2] <;> with_reducible rfl))⟩, ?_⟩
          refine ⟨.inl (by kernel_rfl), ?_⟩
          refine ⟨.inl (by kernel_rfl), ?_⟩
          refine ⟨.inl (by kernel_rfl), ?_⟩
          refine ⟨.inl (by kernel_rfl), ?_⟩
          refine ⟨.inl (by kernel_rfl), ?_⟩
          refine ⟨.inl (by kernel_rfl), ?_⟩
          refine ⟨.inl (by kernel_rfl), ?_⟩
          refine ⟨.inr ⟨_, rfl, effN_self (eff_v rfl rfl (by simp -dsimp [valT, b1, j0, j1, j2, j3, j4, hkj, hLj, toDs, w1, gvD_mk, hl0, hl1, hb1, hb2] <;> with_reducible rfl))⟩, ?_⟩
          refine ⟨.inl (by kernel_rfl), ?_⟩
          refine ⟨.inl (by kernel_rfl), ?_⟩
          refine ⟨.inl (by kernel_rfl), ?_⟩
          exact True.intro
        case s5u3 =>
          refine ⟨.inl (by kernel_rfl), ?_⟩
          refine ⟨.inl (by kernel_rfl), ?_⟩
          refine ⟨.inl (by kernel_rfl), ?_⟩
          refine ⟨.inr ⟨_, _, rfl, rfl, effN_of (eff_w (hdk := rfl) (hW := rfl) (hq := by simp -dsimp [valT, b1, j0, j1, j2, j3, j4, hkj, hLj, toDs, w1, gvD_mk, hl0, hl1, hb1, hb2] <;> (first | done | rfl | exact ⟨rfl, rfl⟩ | exact ⟨rfl, rfl, rfl⟩)) (hoo := rfl) (hv := by simp -dsimp [valT, b1, j0, j1, j2, j3, j4, hkj, hLj, toDs, w1, gvD_mk, hl0, hl1, hb1, hb2] <;> with_reducible rfl)) (by simp -dsimp [valT, canonO, insO, b1, j0, j1, j2, j3, j4, hkj, hLj, toDs, w1, gvD_mk, hl0, hl1, hb1, hb2] <;> with_reducible rfl)⟩, ?_⟩
          refine ⟨.inl (by kernel_rfl), ?_⟩
          refine ⟨.inl (by kernel_rfl), ?_⟩
          exact True.intro
        case v6u3 =>
          refine ⟨.inl (by kernel_rfl), ?_⟩
          refine ⟨.inl (by kernel_rfl), ?_⟩
          refine ⟨.inl (by kernel_rfl), ?_⟩
          refine ⟨.inl (by kernel_rfl), ?_⟩
          refine ⟨.inl (by kernel_rfl), ?_⟩
          refine ⟨.inl (by kernel_rfl), ?_⟩
          refine ⟨.inl (by kernel_rfl), ?_⟩
          refine ⟨.inl (by kernel_rfl), ?_⟩
          refine ⟨.inl (by kernel_rfl), ?_⟩
          refine ⟨.inl (by kernel_rfl), ?_⟩
          refine ⟨.inl (by kernel_rfl), ?_⟩
          refine ⟨.inl (by kernel_rfl), ?_⟩
          refine ⟨.inl (by kernel_rfl), ?_⟩
          refine ⟨.inl (by kernel_rfl), ?_⟩
          refine ⟨.inl (by kernel_rfl), ?_⟩
          refine ⟨.inl (by kernel_rfl), ?_⟩
          refine ⟨.inl (by kernel_rfl), ?_⟩
          refine ⟨.inl (by kernel_rfl), ?_⟩
          refine ⟨.inr ⟨_, rfl, effN_self (eff_v rfl rfl (by simp -dsimp [valT, b1, j0, j1, j2, j3, j4, hkj, hLj, toDs, w1, gvD_mk, hl0, hl1, hb1, hb2] <;> with_reducible rfl))⟩, ?_⟩
          refine ⟨.inl (by kernel_rfl), ?_⟩
          refine ⟨.inl (by kernel_rfl), ?_⟩
          refine ⟨.inl (by kernel_rfl), ?_⟩
          exact True.intro
        case s6u3 =>
          refine ⟨.inl (by kernel_rfl), ?_⟩
          refine ⟨.inl (by kernel_rfl), ?_⟩
          refine ⟨.inl (by kernel_rfl), ?_⟩
          refine ⟨.inl (by kernel_rfl), ?_⟩
          refine ⟨.inr ⟨_, _, rfl, rfl, effN_of (eff_w (hdk := rfl) (hW := rfl) (hq := by simp -dsimp [valT, b1, j0, j1, j2, j3, j4, hkj, hLj, toDs, w1, gvD_mk, hl0, hl1, hb1, hb2] <;> (first | done | rfl | exact ⟨rfl, rfl⟩ | exact ⟨rfl, rfl, rfl⟩)) (hoo := rfl) (hv := by simp -dsimp [valT, b1, j0, j1, j2, j3, j4, hkj, hLj, toDs, w1, gvD_mk, hl0, hl1, hb1, hb2] <;> with_reducible rfl)) (by simp -dsimp [valT, canonO, insO, b1, j0, j1, j2, j3, j4, hkj, hLj, toDs, w1, gvD_mk, hl0, hl1, hb1, hb2] <;> with_reducible rfl)⟩, ?_⟩
          refine ⟨.inl (by kernel_rfl), ?_⟩
          exact True.intro
        case v7u3 =>
          refine ⟨.inl (by kernel_rfl), ?_⟩
          refine ⟨.inl (by kernel_rfl), ?_⟩
          refine ⟨.inl (by kernel_rfl), ?_⟩
          refine ⟨.inl (by kernel_rfl), ?_⟩
          refine ⟨.inl (by kernel_rfl), ?_⟩
          refine ⟨.inl (by kernel_rfl), ?_⟩
          refine ⟨.inl (by kernel_rfl), ?_⟩
          refine ⟨.inl (by kernel_rfl), ?_⟩
          refine ⟨.inl (by kernel_rfl), ?_⟩
          refine ⟨.inl (by kernel_rfl), ?_⟩
          refine ⟨.inl (by kernel_rfl), ?_⟩
          refine ⟨.inl (by kernel_rfl), ?_⟩
          refine ⟨.inl (by kernel_rfl), ?_⟩
          refine ⟨.inl (by kernel_rfl), ?_⟩
          refine ⟨.inl (by kernel_rfl), ?_⟩
          refine ⟨.inl (by kernel_rfl), ?_⟩
          refine ⟨.inl (by kernel_rfl), ?_⟩
          refine ⟨.inl (by kernel_rfl), ?_⟩
          refine ⟨.inl (by kernel_rfl), ?_⟩
          refine ⟨.inl (by kernel_rfl), ?_⟩
          refine ⟨.inr ⟨_, rfl, effN_self (eff_v rfl rfl (by simp -dsimp [valT, b1, j0, j1, j2, j3, j4, hkj, hLj, toDs, w1, gvD_mk, hl0, hl1, hb1, hb2] <;> with_reducible rfl))⟩, ?_⟩
          refine ⟨.inl (by kernel_rfl), ?_⟩
          exact True.intro
        case s7u3 =>
          refine ⟨.inl (by kernel_rfl), ?_⟩
          refine ⟨.inl (by kernel_rfl), ?_⟩
          refine ⟨.inl (by kernel_rfl), ?_⟩
          refine ⟨.inl (by kernel_rfl), ?_⟩
          refine ⟨.inl (by kernel_rfl), ?_⟩
          refine ⟨.inr ⟨_, _, rfl, rfl, effN_of (eff_w (hdk := rfl) (hW := rfl) (hq := by simp -dsimp [valT, b1, j0, j1, j2, j3, j4, hkj, hLj, toDs, w1, gvD_mk, hl0, hl1, hb1, hb2] <;> (first | done | rfl | exact ⟨rfl, rfl⟩ | exact ⟨rfl, rfl, rfl⟩)) (hoo := rfl) (hv := by simp -dsimp [valT, b1, j0, j1, j2, j3, j4, hkj, hLj, toDs, w1, gvD_mk, hl0, hl1, hb1, hb2] <;> with_reducible rfl)) (by simp -dsimp [valT, canonO, insO, b1, j0, j1, j2, j3, j4, hkj, hLj, toDs, w1, gvD_mk, hl0, hl1, hb1, hb2] <;> with_reducible rfl)⟩, ?_⟩
          exact True.intro
        case v8u3 =>
          refine ⟨.inl (by kernel_rfl), ?_⟩
          refine ⟨.inl (by kernel_rfl), ?_⟩
          refine ⟨.inl (by kernel_rfl), ?_⟩
          refine ⟨.inl (by kernel_rfl), ?_⟩
          refine ⟨.inl (by kernel_rfl), ?_⟩
          refine ⟨.inl (by kernel_rfl), ?_⟩
          refine ⟨.inl (by kernel_rfl), ?_⟩
          refine ⟨.inl (by kernel_rfl), ?_⟩
          refine ⟨.inl (by kernel_rfl), ?_⟩
          refine ⟨.inl (by kernel_rfl), ?_⟩
          refine ⟨.inl (by kernel_rfl), ?_⟩
          refine ⟨.inl (by kernel_rfl), ?_⟩
          refine ⟨.inl (by kernel_rfl), ?_⟩
          refine ⟨.inl (by kernel_rfl), ?_⟩
          refine ⟨.inl (by kernel_rfl), ?_⟩
          refine ⟨.inl (by kernel_rfl), ?_⟩
          refine ⟨.inl (by kernel_rfl), ?_⟩
          refine ⟨.inl (by kernel_rfl), ?_⟩
          refine ⟨.inl (by kernel_rfl), ?_⟩
          refine ⟨.inl (by kernel_rfl), ?_⟩
          refine ⟨.inl (by kernel_rfl), ?_⟩
          refine ⟨.inl (by kernel_rfl), ?_⟩
          exact True.intro
        case s8u3 =>
          refine ⟨.inl (by kernel_rfl), ?_⟩
          refine ⟨.inl (by kernel_rfl), ?_⟩
          refine ⟨.inl (by kernel_rfl), ?_⟩
          refine ⟨.inl (by kernel_rfl), ?_⟩
          refine ⟨.inl (by kernel_rfl), ?_⟩
          refine ⟨.inl (by kernel_rfl), ?_⟩
          exact True.intro
        case hoku3 => kernel_rfl
        refine ⟨rfl, ?_⟩
        (repeat' (first
                                                            | (with_reducible refine br_d (fun _ => ?_) (fun _ => ?_))
                                                            | (with_reducible refine br_i (fun _ => ?_) (fun _ => ?_))
                                                            | ((with_reducible apply nd_next); (case hx => simp -dsimp [hw3]; first | done | with_reducible rfl); (case hid => simp -dsimp [hw3]; first | done | with_reducible rfl | exact ⟨rfl, rfl, rfl⟩ | exact ⟨rfl, rfl⟩); (case' h1 => intro _ _ _); (case' h0 => intro _))
                                                            | ((with_reducible apply nd_entry); (case hx => simp -dsimp [hw3]; first | done | with_reducible rfl); (case hid => simp -dsimp [hw3]; first | done | with_reducible rfl | exact ⟨rfl, rfl, rfl⟩ | exact ⟨rfl, rfl⟩))
                                                            | ((with_reducible apply nd_range); (case hx => simp -dsimp [hw3]; with_reducible rfl); (case hT => simp -dsimp [hw3]); (case hnd => assumption); (case hz => simp -dsimp [hw3]))
                                                            | (with_reducible refine dn_i follows_any (by kernel_rfl) ?_)
                                                            | (with_reducible exact done_eq rfl)
                                                            | (simp -dsimp [hw3]))); (all_goals try with_reducible refine done_eq ?_)
        refine hK _ (i + 1) ?_ (by omega) (by omega)
        rw [if_neg (by omega), e0, eL]
        exact Weak.same (by simp -dsimp) (by simp -dsimp) (by first | rfl | (simp [closedSt, Av.ids, Ow.ids, Cl.ids, Go.Smd.keys]; done))
    · have h3 : ¬ (i : Int) < ks.length := by omega
      by_cases h0 : i = 0
      · rw [if_pos h0]
        have z1 : ks = [] := List.eq_nil_of_length_eq_zero (by omega)
        have z2 : L = [] := List.eq_nil_of_length_eq_zero (by omega)
        have z3 : Ak = [] := List.eq_nil_of_length_eq_zero (by omega)
        have z4 : AL = [] := List.eq_nil_of_length_eq_zero (by omega)
        subst z1; subst z2; subst z3; subst z4
        have p4 : ACalls Try.prog 18 [gvX 6 0 0 ⟨#[]⟩ [] [], (.agg [.d (dI 6), .d (dI 0), .d (dF 0), .d (dS ⟨#[]⟩), .d (.sl tStr []), .d (.sl 29 [])])] (fun r => r = aV (.bool true)) := q4
        have p5 : ACalls Try.prog 19 [(.agg [.d (dI 6), .d (dI 0), .d (dF 0), .d (dS ⟨#[]⟩), .d (.sl tStr []), .d (.sl 29 [])]), gvX 6 0 0 ⟨#[]⟩ [] []] (fun r => r = aI 0) := q5
        have p6 : ACalls Try.prog 21 [(.agg [.d (dI 6), .d (dI 0), .d (dF 0), .d (dS ⟨#[]⟩), .d (.sl tStr []), .d (.sl 29 [])])] (fun r => r = gvX 6 0 0 ⟨#[]⟩ [] []) := q6
        (repeat' (first
                                                            | (with_reducible refine br_d (fun _ => ?_) (fun _ => ?_))
                                                            | (with_reducible refine br_i (fun _ => ?_) (fun _ => ?_))
                                                            | (with_reducible refine nd_v (p4) (by first | rfl | (simp -dsimp; done)) ?_)
                                                            | (with_reducible refine nw_v (p4) rfl (by first | rfl | (simp -dsimp; done)) (by first | rfl | (simp -dsimp; done)) ?_)
                                                            | (with_reducible refine nd_v (p5) (by first | rfl | (simp -dsimp; done)) ?_)
                                                            | (with_reducible refine nw_v (p5) rfl (by first | rfl | (simp -dsimp; done)) (by first | rfl | (simp -dsimp; done)) ?_)
                                                            | (with_reducible refine nd_v (p6) (by first | rfl | (simp -dsimp; done)) ?_)
                                                            | (with_reducible refine nw_v (p6) rfl (by first | rfl | (simp -dsimp; done)) (by first | rfl | (simp -dsimp; done)) ?_)
                                                            | (with_reducible refine nd_v (q7) (by first | rfl | (simp -dsimp; done)) ?_)
                                                            | (with_reducible refine nw_v (q7) rfl (by first | rfl | (simp -dsimp; done)) (by first | rfl | (simp -dsimp; done)) ?_)
                                                            | ((with_reducible apply nd_next); (case hx => simp -dsimp; first | done | with_reducible rfl); (case hid => simp -dsimp; first | done | with_reducible rfl | exact ⟨rfl, rfl, rfl⟩ | exact ⟨rfl, rfl⟩); (case' h1 => intro _ _ _); (case' h0 => intro _))
                                                            | ((with_reducible apply nd_entry); (case hx => simp -dsimp; first | done | with_reducible rfl); (case hid => simp -dsimp; first | done | with_reducible rfl | exact ⟨rfl, rfl, rfl⟩ | exact ⟨rfl, rfl⟩))
                                                            | ((with_reducible apply nd_range); (case hx => simp -dsimp; with_reducible rfl); (case hT => simp -dsimp); (case hnd => assumption); (case hz => simp -dsimp))
                                                            | (with_reducible refine dn_i follows_any (by kernel_rfl) ?_)
                                                            | (with_reducible exact done_eq rfl)
                                                            | (simp -dsimp))); (all_goals try with_reducible refine done_eq ?_)
      · rw [if_neg h0]
        have e1 : Ak.take i = Ak := List.take_of_length_le (by omega)
        have e2 : AL.take i = AL := List.take_of_length_le (by omega)
        rw [e1, e2]
        clear hix
        have p4 : ACalls Try.prog 18 [gvX 6 0 0 ⟨#[]⟩ ks L, (.agg [.d (dI 6), .d (dI 0), .d (dF 0), .d (dS ⟨#[]⟩), .d (.sl tStr (sRow Ak)), .d (.sl 29 (AL.map gvD))])] (fun r => r = aV (.bool true)) := q4
        have p5 : ACalls Try.prog 19 [(.agg [.d (dI 6), .d (dI 0), .d (dF 0), .d (dS ⟨#[]⟩), .d (.sl tStr (sRow Ak)), .d (.sl 29 (AL.map gvD))]), gvX 6 0 0 ⟨#[]⟩ ks L] (fun r => r = aI 0) := q5
        have p6 : ACalls Try.prog 21 [(.agg [.d (dI 6), .d (dI 0), .d (dF 0), .d (dS ⟨#[]⟩), .d (.sl tStr (sRow Ak)), .d (.sl 29 (AL.map gvD))])] (fun r => r = gvX 6 0 0 ⟨#[]⟩ ks L) := q6
        (repeat' (first
                                                            | (with_reducible refine br_d (fun _ => ?_) (fun _ => ?_))
                                                            | (with_reducible refine br_i (fun _ => ?_) (fun _ => ?_))
                                                            | (with_reducible refine nd_v (p4) (by first | rfl | (simp -dsimp [h3]; done)) ?_)
                                                            | (with_reducible refine nw_v (p4) rfl (by first | rfl | (simp -dsimp [h3]; done)) (by first | rfl | (simp -dsimp [h3]; done)) ?_)
                                                            | (with_reducible refine nd_v (p5) (by first | rfl | (simp -dsimp [h3]; done)) ?_)
                                                            | (with_reducible refine nw_v (p5) rfl (by first | rfl | (simp -dsimp [h3]; done)) (by first | rfl | (simp -dsimp [h3]; done)) ?_)
                                                            | (with_reducible refine nd_v (p6) (by first | rfl | (simp -dsimp [h3]; done)) ?_)
                                                            | (with_reducible refine nw_v (p6) rfl (by first | rfl | (simp -dsimp [h3]; done)) (by first | rfl | (simp -dsimp [h3]; done)) ?_)
                                                            | (with_reducible refine nd_v (q7) (by first | rfl | (simp -dsimp [h3]; done)) ?_)
                                                            | (with_reducible refine nw_v (q7) rfl (by first | rfl | (simp -dsimp [h3]; done)) (by first | rfl | (simp -dsimp [h3]; done)) ?_)
                                                            | ((with_reducible apply nd_next); (case hx => simp -dsimp [h3]; first | done | with_reducible rfl); (case hid => simp -dsimp [h3]; first | done | with_reducible rfl | exact ⟨rfl, rfl, rfl⟩ | exact ⟨rfl, rfl⟩); (case' h1 => intro _ _ _); (case' h0 => intro _))
                                                            | ((with_reducible apply nd_entry); (case hx => simp -dsimp [h3]; first | done | with_reducible rfl); (case hid => simp -dsimp [h3]; first | done | with_reducible rfl | exact ⟨rfl, rfl, rfl⟩ | exact ⟨rfl, rfl⟩))
                                                            | ((with_reducible apply nd_range); (case hx => simp -dsimp [h3]; with_reducible rfl); (case hT => simp -dsimp [h3]); (case hnd => assumption); (case hz => simp -dsimp [h3]))
                                                            | (with_reducible refine dn_i follows_any (by kernel_rfl) ?_)
                                                            | (with_reducible exact done_eq rfl)
                                                            | (simp -dsimp [h3]))); (all_goals try with_reducible refine done_eq ?_)
end Go.Smd
end
