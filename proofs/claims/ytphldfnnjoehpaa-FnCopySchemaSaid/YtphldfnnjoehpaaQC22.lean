/- Part 22 of the proof: Sd. -/
import Derived.Test.YtphldfnnjoehpaaQC21
set_option linter.unusedVariables false
section
set_option linter.unusedSimpArgs false
set_option maxRecDepth 100000
set_option maxHeartbeats 8000000
namespace Go.Smd
open Go.RowKit Go.Proofs
abbrev DAtom (a : AT) : Prop := ∀ n : Nat, n ≤ 1000 → ACalls Try.prog 21 [.agg (cls (atD a)), aI n] (fun r => ∃ b, r = aV (.bool b))
theorem definedAtom_s (sc : ByteArray) (ls : List LT) (ms : List MT) (hl : ∀ l ∈ ls, ∀ named name a rel rel0 keys, l = .mk (.mk named name a rel) rel0 keys → DAtom a)
    (hm : ∀ m ∈ ms, ∀ fs named name a rel rel0, m = .mk fs (.mk named name a rel) rel0 → DAtom a ∧ fs.length * 144 ≤ 140737488351232 ∧ ∀ f ∈ fs, ∀ nm named name a rel dflt, f = .mk nm (.mk named name a rel) dflt → DAtom a ∧ dflt.length ≤ 9223372036854775807)
    (b1 : ls.length ≤ 9223372036854775807) (b2 : ms.length ≤ 9223372036854775807) : DAtom (.mk sc ls ms) := by
  intro n hn
  rw [atD_x]
  have f2 := firstList_x sc ls ms b1
  have f4 := firstMap_x sc ls ms b2
  obtain ⟨LS, hLS⟩ : ∃ LS, LS = ls.take 1 := ⟨_, rfl⟩
  obtain ⟨MS, hMS⟩ : ∃ MS, MS = ms.take 1 := ⟨_, rfl⟩
  rw [← hLS] at f2
  rw [← hMS] at f4
  have l1 : LS.length ≤ 1 := by rw [hLS]; simp; omega
  have l2 : MS.length ≤ 1 := by rw [hMS]; simp; omega
  have hl : ∀ l ∈ LS, ∀ named name a rel rel0 keys, l = .mk (.mk named name a rel) rel0 keys → DAtom a := fun l h => hl l (List.mem_of_mem_take (hLS ▸ h))
  have hm : ∀ m ∈ MS, ∀ fs named name a rel rel0, m = .mk fs (.mk named name a rel) rel0 → DAtom a ∧ fs.length * 144 ≤ 140737488351232 ∧ ∀ f ∈ fs, ∀ nm named name a rel dflt, f = .mk nm (.mk named name a rel) dflt → DAtom a ∧ dflt.length ≤ 9223372036854775807 := fun m h => hm m (List.mem_of_mem_take (hMS ▸ h))
  clear hLS hMS
  have c1 : LS.length ≤ 9223372036854775807 := by omega
  have c2 : MS.length ≤ 9223372036854775807 := by omega
  cases n with
  | zero =>
    try simp only [cls_cons, cls_nil] at *
    refine acalls_ex [] Try.func21 (by kernel_rfl) rfl Try.ntmps21 Try.results21 (Nat.le_of_ble_eq_true (by kernel_rfl)) ?_; intro hok w0 S0
    clear hok
    (repeat' (first
                                                            | (with_reducible refine br_d (fun _ => ?_) (fun _ => ?_))
                                                            | (with_reducible refine br_i (fun _ => ?_) (fun _ => ?_))
                                                            | ((with_reducible apply nd_next); (case hx => simp -dsimp; first | done | with_reducible rfl); (case hid => simp -dsimp; first | done | with_reducible rfl | exact ⟨rfl, rfl, rfl⟩ | exact ⟨rfl, rfl⟩); (case' h1 => intro _ _ _); (case' h0 => intro _))
                                                            | ((with_reducible apply nd_entry); (case hx => simp -dsimp; first | done | with_reducible rfl); (case hid => simp -dsimp; first | done | with_reducible rfl | exact ⟨rfl, rfl, rfl⟩ | exact ⟨rfl, rfl⟩))
                                                            | ((with_reducible apply nd_range); (case hx => simp -dsimp; with_reducible rfl); (case hT => simp -dsimp); (case hnd => assumption); (case hz => simp -dsimp))
                                                            | (with_reducible refine dn_i follows_any (by kernel_rfl) ?_)
                                                            | (with_reducible exact done_eq rfl)
                                                            | (simp -dsimp))); (all_goals try with_reducible refine done_eq ?_)
    exact ⟨_, rfl⟩
  | succ n =>
    have hn2 : n ≤ 1000 := by omega
    have n1 : ¬ ((n : Int) + 1 ≤ 0) := by omega
    have n2 : IntKind.wrap .i64 (n : Int) = (n : Int) := by rw [wrap_i64] <;> omega
    have n3 : ((n + 1 : Nat) : Int) = (n : Int) + 1 := by omega
    rw [n3]
    try simp only [cls_cons, cls_nil] at *
    refine acalls_ex [] Try.func21 (by kernel_rfl) rfl Try.ntmps21 Try.results21 (Nat.le_of_ble_eq_true (by kernel_rfl)) ?_; intro hok w0 S0
    clear hok
    (repeat' (first
                                                            | (with_reducible refine br_d (fun _ => ?_) (fun _ => ?_))
                                                            | (with_reducible refine br_i (fun _ => ?_) (fun _ => ?_))
                                                            | (with_reducible refine nd_v (f2) (by first | rfl | (simp -dsimp [c1, n1]; done)) ?_)
                                                            | (with_reducible refine nw_v (f2) rfl (by first | rfl | (simp -dsimp [c1, n1]; done)) (by first | rfl | (simp -dsimp [c1, n1]; done)) ?_)
                                                            | ((with_reducible apply nd_next); (case hx => simp -dsimp [c1, n1]; first | done | with_reducible rfl); (case hid => simp -dsimp [c1, n1]; first | done | with_reducible rfl | exact ⟨rfl, rfl, rfl⟩ | exact ⟨rfl, rfl⟩); (case' h1 => intro _ _ _); (case' h0 => intro _))
                                                            | ((with_reducible apply nd_entry); (case hx => simp -dsimp [c1, n1]; first | done | with_reducible rfl); (case hid => simp -dsimp [c1, n1]; first | done | with_reducible rfl | exact ⟨rfl, rfl, rfl⟩ | exact ⟨rfl, rfl⟩))
                                                            | ((with_reducible apply nd_range); (case hx => simp -dsimp [c1, n1]; with_reducible rfl); (case hT => simp -dsimp [c1, n1]); (case hnd => assumption); (case hz => simp -dsimp [c1, n1]))
                                                            | (with_reducible refine dn_i follows_any (by kernel_rfl) ?_)
                                                            | (with_reducible exact done_eq rfl)
                                                            | (simp -dsimp [c1, n1]))); (all_goals try with_reducible refine done_eq ?_)
    refine ex_loop (fun i : Nat => ⟨[(1, aI ((n : Int) + 1)), (2, .c (.own 2 0)), (14, .c (.d (dLTs LS))), (15, aI LS.length), (16, aI i)], [(2, .cells [.d (dS sc), .d (dLTs ls), .d (dMTs ms)] 36)]⟩) (fun i => i ≤ LS.length) (fun i => LS.length - i) 0 ?_ (Nat.zero_le _) ?_
    · exact Weak.same (by simp -dsimp) (by simp -dsimp) (by first | rfl | (simp [closedSt, Av.ids, Ow.ids, Cl.ids, Go.Smd.keys]; done))
    · rintro i hi K hK
      by_cases hlt : i < LS.length
      · have hw : IntKind.wrap .i64 ((i : Int) + 1) = ((i + 1 : Nat) : Int) := by rw [wrap_i64] <;> omega
        obtain ⟨l, hli⟩ : ∃ l, LS[i] = l := ⟨_, rfl⟩
        have hmem : l ∈ LS := hli ▸ List.getElem_mem hlt
        obtain ⟨⟨named, name, ⟨sc', ls', ms'⟩, rel'⟩, rel0, keys⟩ := l
        have e2 : ltD LS[i] = ltX named name sc' ls' ms' rel' rel0 keys := by rw [hli, ltD_x]
        have hd := hl _ hmem _ _ _ _ _ _ rfl n hn2
        rw [atD_x] at hd
        simp only [cls_cons, cls_nil] at hd
        (repeat' (first
                                                            | (with_reducible refine br_d (fun _ => ?_) (fun _ => ?_))
                                                            | (with_reducible refine br_i (fun _ => ?_) (fun _ => ?_))
                                                            | ((with_reducible refine nd_c (hd) (by first | rfl | (simp -dsimp [c1, hlt, hw, e2, n2]; done)) ?_); rintro _ ⟨x, rfl⟩ _)
                                                            | ((with_reducible refine nw_c (hd) rfl (by first | rfl | (simp -dsimp [c1, hlt, hw, e2, n2]; done)) (by first | rfl | (simp -dsimp [c1, hlt, hw, e2, n2]; done)) ?_); rintro _ ⟨x, rfl⟩ _)
                                                            | ((with_reducible apply nd_next); (case hx => simp -dsimp [c1, hlt, hw, e2, n2]; first | done | with_reducible rfl); (case hid => simp -dsimp [c1, hlt, hw, e2, n2]; first | done | with_reducible rfl | exact ⟨rfl, rfl, rfl⟩ | exact ⟨rfl, rfl⟩); (case' h1 => intro _ _ _); (case' h0 => intro _))
                                                            | ((with_reducible apply nd_entry); (case hx => simp -dsimp [c1, hlt, hw, e2, n2]; first | done | with_reducible rfl); (case hid => simp -dsimp [c1, hlt, hw, e2, n2]; first | done | with_reducible rfl | exact ⟨rfl, rfl, rfl⟩ | exact ⟨rfl, rfl⟩))
                                                            | ((with_reducible apply nd_range); (case hx => simp -dsimp [c1, hlt, hw, e2, n2]; with_reducible rfl); (case hT => simp -dsimp [c1, hlt, hw, e2, n2]); (case hnd => assumption); (case hz => simp -dsimp [c1, hlt, hw, e2, n2]))
                                                            | (with_reducible refine dn_i follows_any (by kernel_rfl) ?_)
                                                            | (with_reducible exact done_eq rfl)
                                                            | (simp -dsimp [c1, hlt, hw, e2, n2]))); (all_goals try with_reducible refine done_eq ?_)
        · exact ⟨_, rfl⟩
        · refine hK _ (i + 1) ?_ (by omega) (by omega)
          exact Weak.same (by simp -dsimp) (by simp -dsimp) (by first | rfl | (simp [closedSt, Av.ids, Ow.ids, Cl.ids, Go.Smd.keys]; done))
      · (repeat' (first
                                                            | (with_reducible refine br_d (fun _ => ?_) (fun _ => ?_))
                                                            | (with_reducible refine br_i (fun _ => ?_) (fun _ => ?_))
                                                            | (with_reducible refine nd_v (f4) (by first | rfl | (simp -dsimp [hlt, c2]; done)) ?_)
                                                            | (with_reducible refine nw_v (f4) rfl (by first | rfl | (simp -dsimp [hlt, c2]; done)) (by first | rfl | (simp -dsimp [hlt, c2]; done)) ?_)
                                                            | ((with_reducible apply nd_next); (case hx => simp -dsimp [hlt, c2]; first | done | with_reducible rfl); (case hid => simp -dsimp [hlt, c2]; first | done | with_reducible rfl | exact ⟨rfl, rfl, rfl⟩ | exact ⟨rfl, rfl⟩); (case' h1 => intro _ _ _); (case' h0 => intro _))
                                                            | ((with_reducible apply nd_entry); (case hx => simp -dsimp [hlt, c2]; first | done | with_reducible rfl); (case hid => simp -dsimp [hlt, c2]; first | done | with_reducible rfl | exact ⟨rfl, rfl, rfl⟩ | exact ⟨rfl, rfl⟩))
                                                            | ((with_reducible apply nd_range); (case hx => simp -dsimp [hlt, c2]; with_reducible rfl); (case hT => simp -dsimp [hlt, c2]); (case hnd => assumption); (case hz => simp -dsimp [hlt, c2]))
                                                            | (with_reducible refine dn_i follows_any (by kernel_rfl) ?_)
                                                            | (with_reducible exact done_eq rfl)
                                                            | (simp -dsimp [hlt, c2]))); (all_goals try with_reducible refine done_eq ?_)
        refine ex_loop (fun i : Nat => ⟨[(1, aI ((n : Int) + 1)), (29, .c (.d (dMTs MS))), (30, aI MS.length), (31, aI i)], []⟩) (fun i => i ≤ MS.length) (fun i => MS.length - i) 0 ?_ (Nat.zero_le _) ?_
        · exact Weak.same (by simp -dsimp) (by simp -dsimp) (by first | rfl | (simp [closedSt, Av.ids, Ow.ids, Cl.ids, Go.Smd.keys]; done))
        · rintro i hi K hK
          by_cases hlt : i < MS.length
          · have hw : IntKind.wrap .i64 ((i : Int) + 1) = ((i + 1 : Nat) : Int) := by rw [wrap_i64] <;> omega
            obtain ⟨m, hmi⟩ : ∃ m, MS[i] = m := ⟨_, rfl⟩
            have hmem : m ∈ MS := hmi ▸ List.getElem_mem hlt
            obtain ⟨fs, ⟨named, name, ⟨sc', ls', ms'⟩, rel'⟩, rel0⟩ := m
            have e2 : mtD MS[i] = mtX fs named name sc' ls' ms' rel' rel0 := by rw [hmi, mtD_x]
            obtain ⟨hd, hfl, hf⟩ := hm _ hmem _ _ _ _ _ _ rfl
            have hd := hd n hn2
            rw [atD_x] at hd
            simp only [cls_cons, cls_nil] at hd
            have c3 : fs.length ≤ 9223372036854775807 := by omega
            (repeat' (first
                                                            | (with_reducible refine br_d (fun _ => ?_) (fun _ => ?_))
                                                            | (with_reducible refine br_i (fun _ => ?_) (fun _ => ?_))
                                                            | ((with_reducible refine nd_c (hd) (by first | rfl | (simp -dsimp [c2, hlt, hw, e2, n2, c3]; done)) ?_); rintro _ ⟨x, rfl⟩ _)
                                                            | ((with_reducible refine nw_c (hd) rfl (by first | rfl | (simp -dsimp [c2, hlt, hw, e2, n2, c3]; done)) (by first | rfl | (simp -dsimp [c2, hlt, hw, e2, n2, c3]; done)) ?_); rintro _ ⟨x, rfl⟩ _)
                                                            | ((with_reducible apply nd_next); (case hx => simp -dsimp [c2, hlt, hw, e2, n2, c3]; first | done | with_reducible rfl); (case hid => simp -dsimp [c2, hlt, hw, e2, n2, c3]; first | done | with_reducible rfl | exact ⟨rfl, rfl, rfl⟩ | exact ⟨rfl, rfl⟩); (case' h1 => intro _ _ _); (case' h0 => intro _))
                                                            | ((with_reducible apply nd_entry); (case hx => simp -dsimp [c2, hlt, hw, e2, n2, c3]; first | done | with_reducible rfl); (case hid => simp -dsimp [c2, hlt, hw, e2, n2, c3]; first | done | with_reducible rfl | exact ⟨rfl, rfl, rfl⟩ | exact ⟨rfl, rfl⟩))
                                                            | ((with_reducible apply nd_range); (case hx => simp -dsimp [c2, hlt, hw, e2, n2, c3]; with_reducible rfl); (case hT => simp -dsimp [c2, hlt, hw, e2, n2, c3]); (case hnd => assumption); (case hz => simp -dsimp [c2, hlt, hw, e2, n2, c3]))
                                                            | (with_reducible refine dn_i follows_any (by kernel_rfl) ?_)
                                                            | (with_reducible exact done_eq rfl)
                                                            | (simp -dsimp [c2, hlt, hw, e2, n2, c3]))); (all_goals try with_reducible refine done_eq ?_)
            · exact ⟨_, rfl⟩
            refine ex_loop (fun j : Nat => ⟨[(1, aI ((n : Int) + 1)), (29, .c (.d (dMTs MS))), (30, aI MS.length), (31, aI i), (43, .c (.d (dFTs fs))), (44, aI fs.length), (45, aI j)], []⟩) (fun j => j ≤ fs.length) (fun j => fs.length - j) 0 ?_ (Nat.zero_le _) ?_
            · exact Weak.same (by simp -dsimp) (by simp -dsimp) (by first | rfl | (simp [closedSt, Av.ids, Ow.ids, Cl.ids, Go.Smd.keys]; done))
            · rintro j hj K2 hK2
              by_cases hlt2 : j < fs.length
              · have hw2 : IntKind.wrap .i64 ((j : Int) + 1) = ((j + 1 : Nat) : Int) := by rw [wrap_i64] <;> omega
                obtain ⟨f, hfi⟩ : ∃ f, fs[j] = f := ⟨_, rfl⟩
                have hmf : f ∈ fs := hfi ▸ List.getElem_mem hlt2
                obtain ⟨nm, ⟨named2, name2, ⟨sc2, ls2, ms2⟩, rel2⟩, dflt⟩ := f
                have e3 : ftD fs[j] = ftX nm named2 name2 sc2 ls2 ms2 rel2 dflt := by rw [hfi, ftD_x]
                obtain ⟨hd2, hdl⟩ := hf _ hmf _ _ _ _ _ _ rfl
                have hd2 := hd2 n hn2
                rw [atD_x] at hd2
                simp only [cls_cons, cls_nil] at hd2
                cases dflt with
                | nil =>
                  have ho := orderlyValues_a [] (by simp)
                  simp only [dGVs, List.map_nil] at ho
                  have b0 : min (1 : Int) 0 = 0 := by decide
                  (repeat' (first
                                                            | (with_reducible refine br_d (fun _ => ?_) (fun _ => ?_))
                                                            | (with_reducible refine br_i (fun _ => ?_) (fun _ => ?_))
                                                            | ((with_reducible refine nd_c (ho) (by first | rfl | (simp -dsimp [hlt2, hw2, e3, n2, c3, b0]; done)) ?_); rintro _ ⟨y, rfl⟩ _)
                                                            | ((with_reducible refine nw_c (ho) rfl (by first | rfl | (simp -dsimp [hlt2, hw2, e3, n2, c3, b0]; done)) (by first | rfl | (simp -dsimp [hlt2, hw2, e3, n2, c3, b0]; done)) ?_); rintro _ ⟨y, rfl⟩ _)
                                                            | ((with_reducible refine nd_c (hd2) (by first | rfl | (simp -dsimp [hlt2, hw2, e3, n2, c3, b0]; done)) ?_); rintro _ ⟨x, rfl⟩ _)
                                                            | ((with_reducible refine nw_c (hd2) rfl (by first | rfl | (simp -dsimp [hlt2, hw2, e3, n2, c3, b0]; done)) (by first | rfl | (simp -dsimp [hlt2, hw2, e3, n2, c3, b0]; done)) ?_); rintro _ ⟨x, rfl⟩ _)
                                                            | ((with_reducible apply nd_next); (case hx => simp -dsimp [hlt2, hw2, e3, n2, c3, b0]; first | done | with_reducible rfl); (case hid => simp -dsimp [hlt2, hw2, e3, n2, c3, b0]; first | done | with_reducible rfl | exact ⟨rfl, rfl, rfl⟩ | exact ⟨rfl, rfl⟩); (case' h1 => intro _ _ _); (case' h0 => intro _))
                                                            | ((with_reducible apply nd_entry); (case hx => simp -dsimp [hlt2, hw2, e3, n2, c3, b0]; first | done | with_reducible rfl); (case hid => simp -dsimp [hlt2, hw2, e3, n2, c3, b0]; first | done | with_reducible rfl | exact ⟨rfl, rfl, rfl⟩ | exact ⟨rfl, rfl⟩))
                                                            | ((with_reducible apply nd_range); (case hx => simp -dsimp [hlt2, hw2, e3, n2, c3, b0]; with_reducible rfl); (case hT => simp -dsimp [hlt2, hw2, e3, n2, c3, b0]); (case hnd => assumption); (case hz => simp -dsimp [hlt2, hw2, e3, n2, c3, b0]))
                                                            | (with_reducible refine dn_i follows_any (by kernel_rfl) ?_)
                                                            | (with_reducible exact done_eq rfl)
                                                            | (simp -dsimp [hlt2, hw2, e3, n2, c3, b0]))); (all_goals try with_reducible refine done_eq ?_)
                  all_goals first
                    | (refine hK2 _ (j + 1) ?_ (by omega) (by omega)
                       exact Weak.same (by simp -dsimp) (by simp -dsimp) (by first | rfl | (simp [closedSt, Av.ids, Ow.ids, Cl.ids, Go.Smd.keys]; done)))
                    | exact done_of ⟨_, rfl⟩
                | cons d dflt =>
                  have ho := orderlyValues_a [d] (by simp)
                  simp only [dGVs, List.map_cons, List.map_nil] at ho
                  have d1 : dflt.length ≤ 9223372036854775806 := by simpa using hdl
                  have d2 : min (1 : Int) ((dflt.length : Int) + 1) = 1 := by omega
                  have d3 : (1 : Int) ≤ (dflt.length : Int) + 1 := by omega
                  (repeat' (first
                                                            | (with_reducible refine br_d (fun _ => ?_) (fun _ => ?_))
                                                            | (with_reducible refine br_i (fun _ => ?_) (fun _ => ?_))
                                                            | ((with_reducible refine nd_c (ho) (by first | rfl | (simp -dsimp [hlt2, hw2, e3, n2, c3, d1, d2, d3]; done)) ?_); rintro _ ⟨y, rfl⟩ _)
                                                            | ((with_reducible refine nw_c (ho) rfl (by first | rfl | (simp -dsimp [hlt2, hw2, e3, n2, c3, d1, d2, d3]; done)) (by first | rfl | (simp -dsimp [hlt2, hw2, e3, n2, c3, d1, d2, d3]; done)) ?_); rintro _ ⟨y, rfl⟩ _)
                                                            | ((with_reducible refine nd_c (hd2) (by first | rfl | (simp -dsimp [hlt2, hw2, e3, n2, c3, d1, d2, d3]; done)) ?_); rintro _ ⟨x, rfl⟩ _)
                                                            | ((with_reducible refine nw_c (hd2) rfl (by first | rfl | (simp -dsimp [hlt2, hw2, e3, n2, c3, d1, d2, d3]; done)) (by first | rfl | (simp -dsimp [hlt2, hw2, e3, n2, c3, d1, d2, d3]; done)) ?_); rintro _ ⟨x, rfl⟩ _)
                                                            | ((with_reducible apply nd_next); (case hx => simp -dsimp [hlt2, hw2, e3, n2, c3, d1, d2, d3]; first | done | with_reducible rfl); (case hid => simp -dsimp [hlt2, hw2, e3, n2, c3, d1, d2, d3]; first | done | with_reducible rfl | exact ⟨rfl, rfl, rfl⟩ | exact ⟨rfl, rfl⟩); (case' h1 => intro _ _ _); (case' h0 => intro _))
                                                            | ((with_reducible apply nd_entry); (case hx => simp -dsimp [hlt2, hw2, e3, n2, c3, d1, d2, d3]; first | done | with_reducible rfl); (case hid => simp -dsimp [hlt2, hw2, e3, n2, c3, d1, d2, d3]; first | done | with_reducible rfl | exact ⟨rfl, rfl, rfl⟩ | exact ⟨rfl, rfl⟩))
                                                            | ((with_reducible apply nd_range); (case hx => simp -dsimp [hlt2, hw2, e3, n2, c3, d1, d2, d3]; with_reducible rfl); (case hT => simp -dsimp [hlt2, hw2, e3, n2, c3, d1, d2, d3]); (case hnd => assumption); (case hz => simp -dsimp [hlt2, hw2, e3, n2, c3, d1, d2, d3]))
                                                            | (with_reducible refine dn_i follows_any (by kernel_rfl) ?_)
                                                            | (with_reducible exact done_eq rfl)
                                                            | (simp -dsimp [hlt2, hw2, e3, n2, c3, d1, d2, d3]))); (all_goals try with_reducible refine done_eq ?_)
                  all_goals first
                    | (refine hK2 _ (j + 1) ?_ (by omega) (by omega)
                       exact Weak.same (by simp -dsimp) (by simp -dsimp) (by first | rfl | (simp [closedSt, Av.ids, Ow.ids, Cl.ids, Go.Smd.keys]; done)))
                    | exact done_of ⟨_, rfl⟩
              · (repeat' (first
                                                            | (with_reducible refine br_d (fun _ => ?_) (fun _ => ?_))
                                                            | (with_reducible refine br_i (fun _ => ?_) (fun _ => ?_))
                                                            | ((with_reducible apply nd_next); (case hx => simp -dsimp [hlt2, hw]; first | done | with_reducible rfl); (case hid => simp -dsimp [hlt2, hw]; first | done | with_reducible rfl | exact ⟨rfl, rfl, rfl⟩ | exact ⟨rfl, rfl⟩); (case' h1 => intro _ _ _); (case' h0 => intro _))
                                                            | ((with_reducible apply nd_entry); (case hx => simp -dsimp [hlt2, hw]; first | done | with_reducible rfl); (case hid => simp -dsimp [hlt2, hw]; first | done | with_reducible rfl | exact ⟨rfl, rfl, rfl⟩ | exact ⟨rfl, rfl⟩))
                                                            | ((with_reducible apply nd_range); (case hx => simp -dsimp [hlt2, hw]; with_reducible rfl); (case hT => simp -dsimp [hlt2, hw]); (case hnd => assumption); (case hz => simp -dsimp [hlt2, hw]))
                                                            | (with_reducible refine dn_i follows_any (by kernel_rfl) ?_)
                                                            | (with_reducible exact done_eq rfl)
                                                            | (simp -dsimp [hlt2, hw]))); (all_goals try with_reducible refine done_eq ?_)
                refine hK _ (i + 1) ?_ (by omega) (by omega)
                exact Weak.same (by simp -dsimp) (by simp -dsimp) (by first | rfl | (simp [closedSt, Av.ids, Ow.ids, Cl.ids, Go.Smd.keys]; done))
          · (repeat' (first
                                                            | (with_reducible refine br_d (fun _ => ?_) (fun _ => ?_))
                                                            | (with_reducible refine br_i (fun _ => ?_) (fun _ => ?_))
                                                            | ((with_reducible apply nd_next); (case hx => simp -dsimp [hlt]; first | done | with_reducible rfl); (case hid => simp -dsimp [hlt]; first | done | with_reducible rfl | exact ⟨rfl, rfl, rfl⟩ | exact ⟨rfl, rfl⟩); (case' h1 => intro _ _ _); (case' h0 => intro _))
                                                            | ((with_reducible apply nd_entry); (case hx => simp -dsimp [hlt]; first | done | with_reducible rfl); (case hid => simp -dsimp [hlt]; first | done | with_reducible rfl | exact ⟨rfl, rfl, rfl⟩ | exact ⟨rfl, rfl⟩))
                                                            | ((with_reducible apply nd_range); (case hx => simp -dsimp [hlt]; with_reducible rfl); (case hT => simp -dsimp [hlt]); (case hnd => assumption); (case hz => simp -dsimp [hlt]))
                                                            | (with_reducible refine dn_i follows_any (by kernel_rfl) ?_)
                                                            | (with_reducible exact done_eq rfl)
                                                            | (simp -dsimp [hlt]))); (all_goals try with_reducible refine done_eq ?_)
            exact ⟨_, rfl⟩
theorem defined_all (n : Nat) : (∀ r : RF, SizeOf.sizeOf r < n → gR r → ∀ named name a rel, r = .mk named name a rel → DAtom a) ∧ (∀ a : AT, SizeOf.sizeOf a < n → gA a → DAtom a) ∧ (∀ l : LT, SizeOf.sizeOf l < n → gL l → ∀ named name a rel rel0 keys, l = .mk (.mk named name a rel) rel0 keys → DAtom a) ∧
    (∀ m : MT, SizeOf.sizeOf m < n → gM m → ∀ fs named name a rel rel0, m = .mk fs (.mk named name a rel) rel0 → DAtom a ∧ fs.length * 144 ≤ 140737488351232 ∧ ∀ f ∈ fs, ∀ nm named name a rel dflt, f = .mk nm (.mk named name a rel) dflt → DAtom a ∧ dflt.length ≤ 9223372036854775807) ∧
    (∀ f : FT, SizeOf.sizeOf f < n → gF f → ∀ nm named name a rel dflt, f = .mk nm (.mk named name a rel) dflt → DAtom a ∧ dflt.length ≤ 9223372036854775807) := by
  refine sch_ind (fun named name a rel h g => ?_) (fun sc ls ms hl hm g => ?_) (fun e rel keys h g => ?_) (fun fs e rel hf h g => ?_) (fun nm r dflt h g => ?_) n
  · simp only [gR] at g
    rintro _ _ _ _ e
    cases e
    exact h g
  · simp only [gA] at g
    obtain ⟨g1, g2, g3, g4⟩ := g
    exact definedAtom_s _ _ _ (fun l hl' => hl l hl' (gLs_mem g3 l hl')) (fun m hm' => hm m hm' (gMs_mem g4 m hm')) g1 g2
  · simp only [gL] at g
    rintro _ _ _ _ _ _ e
    cases e
    exact h g.1 _ _ _ _ rfl
  · simp only [gM] at g
    rintro _ _ _ _ _ _ e
    cases e
    exact ⟨h g.1 _ _ _ _ rfl, g.2.1, fun f hf' => hf f hf' (gFs_mem g.2.2 f hf')⟩
  · simp only [gF] at g
    rintro _ _ _ _ _ _ e
    cases e
    exact ⟨h g.1 _ _ _ _ rfl, g.2.1⟩
theorem defined_atom (a : AT) (g : gA a) : DAtom a := (defined_all (SizeOf.sizeOf a + 1)).2.1 a (by omega) g
def FT.nm : FT → ByteArray
  | .mk n _ _ => n
theorem acalls_ok {P : Program} {f : FuncId} {args : List Av} {R : Av → Prop} (h : (∀ x ∈ args, okA P x) → ACalls P f args R) (h1 : ∃ fn, P.funcs[f]? = some fn ∧ (fn.name == "runtime.NumGoroutine") = false ∧ fn.body.isSome = true) : ACalls P f args R :=
  ⟨h1, fun w S vs hS ha => (h (fun x hx => by
    obtain ⟨i, hi⟩ := List.getElem?_of_mem hx
    obtain ⟨v, _, hv⟩ := ha.at hi
    exact ⟨w, S, v, hv⟩)).2 w S vs hS ha⟩
end Go.Smd
end
