/- Part 22 of the proof: Sd. -/
import Derived.Test.YtphldfnnjoehpaaQF21
set_option linter.unusedVariables false
section
set_option linter.unusedSimpArgs false
set_option maxRecDepth 100000
set_option maxHeartbeats 8000000
namespace Go.Smd
open Go.RowKit Go.Proofs
abbrev DAtom (a : AT) : Prop := ∀ n : Nat, n ≤ 1000 → ACalls Try.prog 21 [.agg (cls (atD a)), aI n] (fun r => ∃ b, r = aV (.bool b))
theorem definedAtom_s (sc : ByteArray) (ls : List LT) (ms : List MT) (hl : ∀ l ∈ ls, ∀ named name a rel rel0 keys, l = .mk (.mk named name a rel) rel0 keys → DAtom a)
    (hm : ∀ m ∈ ms, ∀ fs named name a rel rel0, m = .mk fs (.mk named name a rel) rel0 → DAtom a ∧ fs.length * 144 ≤ 140737488351232 ∧ ∀ f ∈ fs, ∀ nm named name a rel dflt, f = .mk nm (.mk named name a rel) dflt → DAtom a ∧ dflt.length ≤ 9223372036854775807)
    (b1 : ls.length ≤ 9223372036854775807) (b2 : ms.length ≤ 9223372036854775807) : DAtom (.mk sc ls ms) := by
  intro n hn
  rw [atD_x]
  have f2 := firstList_x sc ls ms b1
  have f4 := firstMap_x sc ls ms b2
  obtain ⟨LS, hLS⟩ : ∃ LS, LS = ls.take 1 := ⟨_, rfl⟩
  obtain ⟨MS, hMS⟩ : ∃ MS, MS = ms.take 1 := ⟨_, rfl⟩
  rw [← hLS] at f2
  rw [← hMS] at f4
  have l1 : LS.length ≤ 1 := by rw [hLS]; simp; omega
  have l2 : MS.length ≤ 1 := by rw [hMS]; simp; omega
  have hl : ∀ l ∈ LS, ∀ named name a rel rel0 keys, l = .mk (.mk named name a rel) rel0 keys → DAtom a := fun l h => hl l (List.mem_of_mem_take (hLS ▸ h))
  have hm : ∀ m ∈ MS, ∀ fs named name a rel rel0, m = .mk fs (.mk named name a rel) rel0 → DAtom a ∧ fs.length * 144 ≤ 140737488351232 ∧ ∀ f ∈ fs, ∀ nm named name a rel dflt, f = .mk nm (.mk named name a rel) dflt → DAtom a ∧ dflt.length ≤ 9223372036854775807 := fun m h => hm m (List.mem_of_mem_take (hMS ▸ h))
  clear hLS hMS
  have c1 : LS.length ≤ 9223372036854775807 := by omega
  have c2 : MS.length ≤ 9223372036854775807 := by omega
  cases n with
  | zero =>
    try simp only [cls_cons, cls_nil] at *
    refine acalls_ex [] Try.func21 (by kernel_rfl) rfl Try.ntmps21 Try.results21 (Nat.le_of_ble_eq_true (by kernel_rfl)) ?_; intro hok w0 S0
    clear hok
    (repeat' (first
                                                            | (with_reducible refine br_d (fun _ => ?_) (fun _ => ?_))
                                                            | (with_reducible refine br_i (fun _ => ?_) (fun _ => ?_))
                                                            | ((with_reducible apply nd_next); (case hx => simp -dsimp; first | done | with_reducible rfl); (case hid => simp -dsimp; first | done | with_reducible rfl | exact ⟨rfl, rfl, rfl⟩ | exact ⟨rfl, rfl⟩); (case' h1 => intro _ _ _); (case' h0 => intro _))
                                                            | ((with_reducible apply nd_entry); (case hx => simp -dsimp; first | done | with_reducible rfl); (case hid => simp -dsimp; first | done | with_reducible rfl | exact ⟨rfl, rfl, rfl⟩ | exact ⟨rfl, rfl⟩))
                                                            | ((with_reducible apply nd_range); (case hx => simp -dsimp; with_reducible rfl); (case hT => simp -dsimp); (case hnd => assumption); (case hz => simp -dsimp))
                                                            | (with_reducible refine dn_i follows_any (by kernel_rfl) ?_)
                                                            | (with_reducible exact done_eq rfl)
                                                            | (simp -dsimp))); (all_goals try with_reducible refine done_eq ?_)
    exact ⟨_, rfl⟩
  | succ n =>
    have hn2 : n ≤ 1000 := by omega
    have n1 : ¬ ((n : Int) + 1 ≤ 0) := by omega
    have n2 : IntKind.wrap .i64 (n : Int) = (n : Int) := by rw [wrap_i64] <;> omega
    have n3 : ((n + 1 : Nat) : Int) = (n : Int) + 1 := by omega
    rw [n3]
    try simp only [cls_cons, cls_nil] at *
    refine acalls_ex [] Try.func21 (by kernel_rfl) rfl Try.ntmps21 Try.results21 (Nat.le_of_ble_eq_true (by kernel_rfl)) ?_; intro hok w0 S0
    clear hok
    (repeat' (first
                                                            | (with_reducible refine br_d (fun _ => ?_) (fun _ => ?_))
                                                            | (with_reducible refine br_i (fun _ => ?_) (fun _ => ?_))
                                                            | (with_reducible refine nd_v (f2) (by first | rfl | (simp -dsimp [c1, n1]; done)) ?_)
                                                            | (with_reducible refine nw_v (f2) rfl (by first | rfl | (simp -dsimp [c1, n1]; done)) (by first | rfl | (simp -dsimp [c1, n1]; done)) ?_)
                                                            | ((with_reducible apply nd_next); (case hx => simp -dsimp [c1, n1]; first | done | with_reducible rfl); (case hid => simp -dsimp [c1, n1]; first | done | with_reducible rfl | exact ⟨rfl, rfl, rfl⟩ | exact ⟨rfl, rfl⟩); (case' h1 => intro _ _ _); (case' h0 => intro _))
                                                            | ((with_reducible apply nd_entry); (case hx => simp -dsimp [c1, n1]; first | done | with_reducible rfl); (case hid => simp -dsimp [c1, n1]; first | done | with_reducible rfl | exact ⟨rfl, rfl, rfl⟩ | exact ⟨rfl, rfl⟩))
                                                            | ((with_reducible apply nd_range); (case hx => simp -dsimp [c1, n1]; with_reducible rfl); (case hT => simp -dsimp [c1, n1]); (case hnd => assumption); (case hz => simp -dsimp [c1, n1]))
                                                            | (with_reducible refine dn_i follows_any (by kernel_rfl) ?_)
                                                            | (with_reducible exact done_eq rfl)
                                                            | (simp -dsimp [c1, n1]))); (all_goals try with_reducible refine done_eq ?_)
    refine ex_loop (fun i : Nat => ⟨[(1, aI ((n : Int) + 1)), (2, .c (.own 2 0)), (14, .c (.d (dLTs LS))), (15, aI LS.length), (16, aI i)], [(2, .cells [.d (dS sc), .d (dLTs ls), .d (dMTs ms)] 36)]⟩) (fun i => i ≤ LS.length) (fun i => LS.length - i) 0 ?_ (Nat.zero_le _) ?_
    · exact Weak.same (by simp -dsimp) (by simp -dsimp) (by first | rfl | (simp [closedSt, Av.ids, Ow.ids, Cl.ids, Go.Smd.keys]; done))
    · rintro i hi K hK
      by_cases hlt : i < LS.length
      · have hw : IntKind.wrap .i64 ((i : Int) + 1) = ((i + 1 : Nat) : Int) := by rw [wrap_i64] <;> omega
        obtain ⟨l, hli⟩ : ∃ l, LS[i] = l := ⟨_, rfl⟩
        have hmem : l ∈ LS := hli ▸ List.getElem_mem hlt
        obtain ⟨⟨named, name, ⟨sc', ls', ms'⟩, rel'⟩, rel0, keys⟩ := l
        have e2 : ltD LS[i] = ltX named name sc' ls' ms' rel' rel0 keys := by rw [hli, ltD_x]
        have hd := hl _ hmem _ _ _ _ _ _ rfl n hn2
        rw [atD_x] at hd
        simp only [cls_cons, cls_nil] at hd
        (repeat' (first
                                                            | (with_reducible refine br_d (fun _ => ?_) (fun _ => ?_))
                                                            | (with_reducible refine br_i (fun _ => ?_) (fun _ => ?_))
                                                            | ((with_reducible refine nd_c (hd) (by first | rfl | (simp -dsimp [c1, hlt, hw, e2, n2]; done)) ?_); rintro _ ⟨x, rfl⟩ _)
                                                            | ((with_reducible refine nw_c (hd) rfl (by first | rfl | (simp -dsimp [c1, hlt, hw, e2, n2]; done)) (by first | rfl | (simp -dsimp [c1, hlt, hw, e2, n2]; done)) ?_); rintro _ ⟨x, rfl⟩ _)
                                                            | ((with_reducible apply nd_next); (case hx => simp -dsimp [c1, hlt, hw, e2, n2]; first | done | with_reducible rfl); (case hid => simp -dsimp [c1, hlt, hw, e2, n2]; first | done | with_reducible rfl | exact ⟨rfl, rfl, rfl⟩ | exact ⟨rfl, rfl⟩); (case' h1 => intro _ _ _); (case' h0 => intro _))
                                                            | ((with_reducible apply nd_entry); (case hx => simp -dsimp [c1, hlt, hw, e2, n2]; first | done | with_reducible rfl); (case hid => simp -dsimp [c1, hlt, hw, e2, n2]; first | done | with_reducible rfl | exact ⟨rfl, rfl, rfl⟩ | exact ⟨rfl, rfl⟩))
                                                            | ((with_reducible apply nd_range); (case hx => simp -dsimp [c1, hlt, hw, e2, n2]; with_reducible rfl); (case hT => simp -dsimp [c1, hlt, hw, e2, n2]); (case hnd => assumption); (case hz => simp -dsimp [c1, hlt, hw, e2, n2]))
                                                            | (with_reducible refine dn_i follows_any (by kernel_rfl) ?_)
                                                            | (with_reducible exact done_eq rfl)
                                                            | (simp -dsimp [c1, hlt, hw, e2, n2]))); (all_goals try with_reducible refine done_eq ?_)
        · exact ⟨_, rfl⟩
        · refine hK _ (i + 1) ?_ (by omega) (by omega)
          exact Weak.same (by simp -dsimp) (by simp -dsimp) (by first | rfl | (simp [closedSt, Av.ids, Ow.ids, Cl.ids, Go.Smd.keys]; done))
      · (repeat' (first
                                                            | (with_reducible refine br_d (fun _ => ?_) (fun _ => ?_))
                                                            | (with_reducible refine br_i (fun _ => ?_) (fun _ => ?_))
                                                            | (with_reducible refine nd_v (f4) (by first | rfl | (simp -dsimp [hlt, c2]; done)) ?_)
                                                            | (with_reducible refine nw_v (f4) rfl (by first | rfl | (simp -dsimp [hlt, c2]; done)) (by first | rfl | (simp -dsimp [hlt, c2]; done)) ?_)
                                                            | ((with_reducible apply nd_next); (case hx => simp -dsimp [hlt, c2]; first | done | with_reducible rfl); (case hid => simp -dsimp [hlt, c2]; first | done | with_reducible rfl | exact ⟨rfl, rfl, rfl⟩ | exact ⟨rfl, rfl⟩); (case' h1 => intro _ _ _); (case' h0 => intro _))
                                                            | ((with_reducible apply nd_entry); (case hx => simp -dsimp [hlt, c2]; first | done | with_reducible rfl); (case hid => simp -dsimp [hlt, c2]; first | done | with_reducible rfl | exact ⟨rfl, rfl, rfl⟩ | exact ⟨rfl, rfl⟩))
                                                            | ((with_reducible apply nd_range); (case hx => simp -dsimp [hlt, c2]; with_reducible rfl); (case hT => simp -dsimp [hlt, c2]); (case hnd => assumption); (case hz => simp -dsimp [hlt, c2]))
                                                            | (with_reducible refine dn_i follows_any (by kernel_rfl) ?_)
                                                            | (with_reducible exact done_eq rfl)
                                                            | (simp -dsimp [hlt, c2]))); (all_goals try with_reducible refine done_eq ?_)
        refine ex_loop (fun i : Nat => ⟨[(1, aI ((n : Int) + 1)), (29, .c (.d (dMTs MS))), (30, aI MS.length), (31, aI i)], []⟩) (fun i => i ≤ MS.length) (fun i => MS.length - i) 0 ?_ (Nat.zero_le _) ?_
        · exact Weak.same (by simp -dsimp) (by simp -dsimp) (by first | rfl | (simp [closedSt, Av.ids, Ow.ids, Cl.ids, Go.Smd.keys]; done))
        · rintro i hi K hK
          by_cases hlt : i < MS.length
          · have hw : IntKind.wrap .i64 ((i : Int) + 1) = ((i + 1 : Nat) : Int) := by rw [wrap_i64] <;> omega
            obtain ⟨m, hmi⟩ : ∃ m, MS[i] = m := ⟨_, rfl⟩
            have hmem : m ∈ MS := hmi ▸ List.getElem_mem hlt
            obtain ⟨fs, ⟨named, name, ⟨sc', ls', ms'⟩, rel'⟩, rel0⟩ := m
            have e2 : mtD MS[i] = mtX fs named name sc' ls' ms' rel' rel0 := by rw [hmi, mtD_x]
            obtain ⟨hd, hfl, hf⟩ := hm _ hmem _ _ _ _ _ _ rfl
            have hd := hd n hn2
            rw [atD_x] at hd
            simp only [cls_cons, cls_nil] at hd
            have c3 : fs.length ≤ 9223372036854775807 := by omega
            (repeat' (first
                                                            | (with_reducible refine br_d (fun _ => ?_) (fun _ => ?_))
                                                            | (with_reducible refine br_i (fun _ => ?_) (fun _ => ?_))
                                                            | ((with_reducible refine nd_c (hd) (by first | rfl | (simp -dsimp [c2, hlt, hw, e2, n2, c3]; done)) ?_); rintro _ ⟨x, rfl⟩ _)
                                                            | ((with_reducible refine nw_c (hd) rfl (by first | rfl | (simp -dsimp [c2, hlt, hw, e2, n2, c3]; done)) (by first | rfl | (simp -dsimp [c2, hlt, hw, e2, n2, c3]; done)) ?_); rintro _ ⟨x, rfl⟩ _)
                                                            | ((with_reducible apply nd_next); (case hx => simp -dsimp [c2, hlt, hw, e2, n2, c3]; first | done | with_reducible rfl); (case hid => simp -dsimp [c2, hlt, hw, e2, n2, c3]; first | done | with_reducible rfl | exact ⟨rfl, rfl, rfl⟩ | exact ⟨rfl, rfl⟩); (case' h1 => intro _ _ _); (case' h0 => intro _))
                                                            | ((with_reducible apply nd_entry); (case hx => simp -dsimp [c2, hlt, hw, e2, n2, c3]; first | done | with_reducible rfl); (case hid => simp -dsimp [c2, hlt, hw, e2, n2, c3]; first | done | with_reducible rfl | exact ⟨rfl, rfl, rfl⟩ | exact ⟨rfl, rfl⟩))
                                                            | ((with_reducible apply nd_range); (case hx => simp -dsimp [c2, hlt, hw, e2, n2, c3]; with_reducible rfl); (case hT => simp -dsimp [c2, hlt, hw, e2, n2, c3]); (case hnd => assumption); (case hz => simp -dsimp [c2, hlt, hw, e2, n2, c3]))
                                                            | (with_reducible refine dn_i follows_any (by kernel_rfl) ?_)
                                                            | (with_reducible exact done_eq rfl)
                                                            | (simp -dsimp [c2, hlt, hw, e2, n2, c3]))); (all_goals try with_reducible refine done_eq ?_)
            · exact ⟨_, rfl⟩
            refine ex_loop (fun j : Nat => ⟨[(1, aI ((n : Int) + 1)), (29, .c (.d (dMTs MS))), (30, aI MS.length), (31, aI i), (43, .c (.d (dFTs fs))), (44, aI fs.length), (45, aI j)], []⟩) (fun j => j ≤ fs.length) (fun j => fs.length - j) 0 ?_ (Nat.zero_le _) ?_
            · exact Weak.same (by simp -dsimp) (by simp -dsimp) (by first | rfl | (simp [closedSt, Av.ids, Ow.ids, Cl.ids, Go.Smd.keys]; done))
            · rintro j hj K2 hK2
              by_cases hlt2 : j < fs.length
              · have hw2 : IntKind.wrap .i64 ((j : Int) + 1) = ((j + 1 : Nat) : Int) := by rw [wrap_i64] <;> omega
                obtain ⟨f, hfi⟩ : ∃ f, fs[j] = f := ⟨_, rfl⟩
                have hmf : f ∈ fs := hfi ▸ List.getElem_mem hlt2
                obtain ⟨nm, ⟨named2, name2, ⟨sc2, ls2, ms2⟩, rel2⟩, dflt⟩ := f
                have e3 : ftD fs[j] = ftX nm named2 name2 sc2 ls2 ms2 rel2 dflt := by rw [hfi, ftD_x]
                obtain ⟨hd2, hdl⟩ := hf _ hmf _ _ _ _ _ _ rfl
                have hd2 := hd2 n hn2
                rw [atD_x] at hd2
                simp only [cls_cons, cls_nil] at hd2
                cases dflt with
                | nil =>
                  have ho := orderlyValues_a [] (by simp)
                  simp only [dGVs, List.map_nil] at ho
                  have b0 : min (1 : Int) 0 = 0 := by decide
                  (repeat' (first
                                                            | (with_reducible refine br_d (fun _ => ?_) (fun _ => ?_))
                                                            | (with_reducible refine br_i (fun _ => ?_) (fun _ => ?_))
                                                            | ((with_reducible refine nd_c (ho) (by first | rfl | (simp -dsimp [hlt2, hw2, e3, n2, c3, b0]; done)) ?_); rintro _ ⟨y, rfl⟩ _)
                                                            | ((with_reducible refine nw_c (ho) rfl (by first | rfl | (simp -dsimp [hlt2, hw2, e3, n2, c3, b0]; done)) (by first | rfl | (simp -dsimp [hlt2, hw2, e3, n2, c3, b0]; done)) ?_); rintro _ ⟨y, rfl⟩ _)
                                                            | ((with_reducible refine nd_c (hd2) (by first | rfl | (simp -dsimp [hlt2, hw2, e3, n2, c3, b0]; done)) ?_); rintro _ ⟨x, rfl⟩ _)
                                                            | ((with_reducible refine nw_c (hd2) rfl (by first | rfl | (simp -dsimp [hlt2, hw2, e3, n2, c3, b0]; done)) (by first | rfl | (simp -dsimp [hlt2, hw2, e3, n2, c3, b0]; done)) ?_); rintro _ ⟨x, rfl⟩ _)
                                                            | ((with_reducible apply nd_next); (case hx => simp -dsimp [hlt2, hw2, e3, n2, c3, b0]; first | done | with_reducible rfl); (case hid => simp -dsimp [hlt2, hw2, e3, n2, c3, b0]; first | done | with_reducible rfl | exact ⟨rfl, rfl, rfl⟩ | exact ⟨rfl, rfl⟩); (case' h1 => intro _ _ _); (case' h0 => intro _))
                                                            | ((with_reducible apply nd_entry); (case hx => simp -dsimp [hlt2, hw2, e3, n2, c3, b0]; first | done | with_reducible rfl); (case hid => simp -dsimp [hlt2, hw2, e3, n2, c3, b0]; first | done | with_reducible rfl | exact ⟨rfl, rfl, rfl⟩ | exact ⟨rfl, rfl⟩))
                                                            | ((with_reducible apply nd_range); (case hx => simp -dsimp [hlt2, hw2, e3, n2, c3, b0]; with_reducible rfl); (case hT => simp -dsimp [hlt2, hw2, e3, n2, c3, b0]); (case hnd => assumption); (case hz => simp -dsimp [hlt2, hw2, e3, n2, c3, b0]))
                                                            | (with_reducible refine dn_i follows_any (by kernel_rfl) ?_)
                                                            | (with_reducible exact done_eq rfl)
                                                            | (simp -dsimp [hlt2, hw2, e3, n2, c3, b0]))); (all_goals try with_reducible refine done_eq ?_)
                  all_goals first
                    | (refine hK2 _ (j + 1) ?_ (by omega) (by omega)
                       exact Weak.same (by simp -dsimp) (by simp -dsimp) (by first | rfl | (simp [closedSt, Av.ids, Ow.ids, Cl.ids, Go.Smd.keys]; done)))
                    | exact done_of ⟨_, rfl⟩
                | cons d dflt =>
                  have ho := orderlyValues_a [d] (by simp)
                  simp only [dGVs, List.map_cons, List.map_nil] at ho
                  have d1 : dflt.length ≤ 9223372036854775806 := by simpa using hdl
                  have d2 : min (1 : Int) ((dflt.length : Int) + 1) = 1 := by omega
                  have d3 : (1 : Int) ≤ (dflt.length : Int) + 1 := by omega
                  (repeat' (first
                                                            | (with_reducible refine br_d (fun _ => ?_) (fun _ => ?_))
                                                            | (with_reducible refine br_i (fun _ => ?_) (fun _ => ?_))
                                                            | ((with_reducible refine nd_c (ho) (by first | rfl | (simp -dsimp [hlt2, hw2, e3, n2, c3, d1, d2, d3]; done)) ?_); rintro _ ⟨y, rfl⟩ _)
                                                            | ((with_reducible refine nw_c (ho) rfl (by first | rfl | (simp -dsimp [hlt2, hw2, e3, n2, c3, d1, d2, d3]; done)) (by first | rfl | (simp -dsimp [hlt2, hw2, e3, n2, c3, d1, d2, d3]; done)) ?_); rintro _ ⟨y, rfl⟩ _)
                                                            | ((with_reducible refine nd_c (hd2) (by first | rfl | (simp -dsimp [hlt2, hw2, e3, n2, c3, d1, d2, d3]; done)) ?_); rintro _ ⟨x, rfl⟩ _)
                                                            | ((with_reducible refine nw_c (hd2) rfl (by first | rfl | (simp -dsimp [hlt2, hw2, e3, n2, c3, d1, d2, d3]; done)) (by first | rfl | (simp -dsimp [hlt2, hw2, e3, n2, c3, d1, d2, d3]; done)) ?_); rintro _ ⟨x, rfl⟩ _)
                                                            | ((with_reducible apply nd_next); (case hx => simp -dsimp [hlt2, hw2, e3, n2, c3, d1, d2, d3]; first | done | with_reducible rfl); (case hid => simp -dsimp [hlt2, hw2, e3, n2, c3, d1, d2, d3]; first | done | with_reducible rfl | exact ⟨rfl, rfl, rfl⟩ | exact ⟨rfl, rfl⟩); (case' h1 => intro _ _ _); (case' h0 => intro _))
                                                            | ((with_reducible apply nd_entry); (case hx => simp -dsimp [hlt2, hw2, e3, n2, c3, d1, d2, d3]; first | done | with_reducible rfl); (case hid => simp -dsimp [hlt2, hw2, e3, n2, c3, d1, d2, d3]; first | done | with_reducible rfl | exact ⟨rfl, rfl, rfl⟩ | exact ⟨rfl, rfl⟩))
                                                            | ((with_reducible apply nd_range); (case hx => simp -dsimp [hlt2, hw2, e3, n2, c3, d1, d2, d3]; with_reducible rfl); (case hT => simp -dsimp [hlt2, hw2, e3, n2, c3, d1, d2, d3]); (case hnd => assumption); (case hz => simp -dsimp [hlt2, hw2, e3, n2, c3, d1, d2, d3]))
                                                            | (with_reducible refine dn_i follows_any (by kernel_rfl) ?_)
                                                            | (with_reducible exact done_eq rfl)
                                                            | (simp -dsimp [hlt2, hw2, e3, n2, c3, d1, d2, d3]))); (all_goals try with_reducible refine done_eq ?_)
                  all_goals first
                    | (refine hK2 _ (j + 1) ?_ (by omega) (by omega)
                       exact Weak.same (by simp -dsimp) (by simp -dsimp) (by first | rfl | (simp [closedSt, Av.ids, Ow.ids, Cl.ids, Go.Smd.keys]; done)))
                    | exact done_of ⟨_, rfl⟩
              · (repeat' (first
                                                            | (with_reducible refine br_d (fun _ => ?_) (fun _ => ?_))
                                                            | (with_reducible refine br_i (fun _ => ?_) (fun _ => ?_))
                                                            | ((with_reducible apply nd_next); (case hx => simp -dsimp [hlt2, hw]; first | done | with_reducible rfl); (case hid => simp -dsimp [hlt2, hw]; first | done | with_reducible rfl | exact ⟨rfl, rfl, rfl⟩ | exact ⟨rfl, rfl⟩); (case' h1 => intro _ _ _); (case' h0 => intro _))
                                                            | ((with_reducible apply nd_entry); (case hx => simp -dsimp [hlt2, hw]; first | done | with_reducible rfl); (case hid => simp -dsimp [hlt2, hw]; first | done | with_reducible rfl | exact ⟨rfl, rfl, rfl⟩ | exact ⟨rfl, rfl⟩))
                                                            | ((with_reducible apply nd_range); (case hx => simp -dsimp [hlt2, hw]; with_reducible rfl); (case hT => simp -dsimp [hlt2, hw]); (case hnd => assumption); (case hz => simp -dsimp [hlt2, hw]))
                                                            | (with_reducible refine dn_i follows_any (by kernel_rfl) ?_)
                                                            | (with_reducible exact done_eq rfl)
                                                            | (simp -dsimp [hlt2, hw]))); (all_goals try with_reducible refine done_eq ?_)
                refine hK _ (i + 1) ?_ (by omega) (by omega)
                exact Weak.same (by simp -dsimp) (by simp -dsimp) (by first | rfl | (simp [closedSt, Av.ids, Ow.ids, Cl.ids, Go.Smd.keys]; done))
          · (repeat' (first
                                                            | (with_reducible refine br_d (fun _ => ?_) (fun _ => ?_))
                                                            | (with_reducible refine br_i (fun _ => ?_) (fun _ => ?_))
                                                            | ((with_reducible apply nd_next); (case hx => simp -dsimp [hlt]; first | done | with_reducible rfl); (case hid => simp -dsimp [hlt]; first | done | with_reducible rfl | exact ⟨rfl, rfl, rfl⟩ | exact ⟨rfl, rfl⟩); (case' h1 => intro _ _ _); (case' h0 => intro _))
                                                            | ((with_reducible apply nd_entry); (case hx => simp -dsimp [hlt]; first | done | with_reducible rfl); (case hid => simp -dsimp [hlt]; first | done | with_reducible rfl | exact ⟨rfl, rfl, rfl⟩ | exact ⟨rfl, rfl⟩))
                                                            | ((with_reducible apply nd_range); (case hx => simp -dsimp [hlt]; with_reducible rfl); (case hT => simp -dsimp [hlt]); (case hnd => assumption); (case hz => simp -dsimp [hlt]))
                                                            | (with_reducible refine dn_i follows_any (by kernel_rfl) ?_)
                                                            | (with_reducible exact done_eq rfl)
                                                            | (simp -dsimp [hlt]))); (all_goals try with_reducible refine done_eq ?_)
            exact ⟨_, rfl⟩
theorem defined_all (n : Nat) : (∀ r : RF, SizeOf.sizeOf r < n → gR r → ∀ named name a rel, r = .mk named name a rel → DAtom a) ∧ (∀ a : AT, SizeOf.sizeOf a < n → gA a → DAtom a) ∧ (∀ l : LT, SizeOf.sizeOf l < n → gL l → ∀ named name a rel rel0 keys, l = .mk (.mk named name a rel) rel0 keys → DAtom a) ∧
    (∀ m : MT, SizeOf.sizeOf m < n → gM m → ∀ fs named name a rel rel0, m = .mk fs (.mk named name a rel) rel0 → DAtom a ∧ fs.length * 144 ≤ 140737488351232 ∧ ∀ f ∈ fs, ∀ nm named name a rel dflt, f = .mk nm (.mk named name a rel) dflt → DAtom a ∧ dflt.length ≤ 9223372036854775807) ∧
    (∀ f : FT, SizeOf.sizeOf f < n → gF f → ∀ nm named name a rel dflt, f = .mk nm (.mk named name a rel) dflt → DAtom a ∧ dflt.length ≤ 9223372036854775807) := by
  refine sch_ind (fun named name a rel h g => ?_) (fun sc ls ms hl hm g => ?_) (fun e rel keys h g => ?_) (fun fs e rel hf h g => ?_) (fun nm r dflt h g => ?_) n
  · simp only [gR] at g
    rintro _ _ _ _ e
    cases e
    exact h g
  · simp only [gA] at g
    obtain ⟨g1, g2, g3, g4⟩ := g
    exact definedAtom_s _ _ _ (fun l hl' => hl l hl' (gLs_mem g3 l hl')) (fun m hm' => hm m hm' (gMs_mem g4 m hm')) g1 g2
  · simp only [gL] at g
    rintro _ _ _ _ _ _ e
    cases e
    exact h g.1 _ _ _ _ rfl
  · simp only [gM] at g
    rintro _ _ _ _ _ _ e
    cases e
    exact ⟨h g.1 _ _ _ _ rfl, g.2.1, fun f hf' => hf f hf' (gFs_mem g.2.2 f hf')⟩
  · simp only [gF] at g
    rintro _ _ _ _ _ _ e
    cases e
    exact ⟨h g.1 _ _ _ _ rfl, g.2.1⟩
theorem defined_atom (a : AT) (g : gA a) : DAtom a := (defined_all (SizeOf.sizeOf a + 1)).2.1 a (by omega) g
def FT.nm : FT → ByteArray
  | .mk n _ _ => n
theorem sfD_cells (f : FT) : ∃ p0 p1 p2 p3 p4 p5 p6, sfD f = [dS f.nm, p0, p1, p2, p3, p4, p5, p6] := by
  obtain ⟨nm, r, dflt⟩ := f
  obtain ⟨p0, p1, p2, p3, p4, p5, he⟩ := srD_six r
  simp only [sfD, he, FT.nm, List.cons_append, List.nil_append]
  exact ⟨_, _, _, _, _, _, _, rfl⟩
theorem ftD_cells (f : FT) : ∃ p0 p1 p2 p3 p4 p5 p6, ftD f = [dS f.nm, p0, p1, p2, p3, p4, p5, p6] := by
  obtain ⟨nm, ⟨named, name, ⟨sc, ls, ms⟩, rel⟩, dflt⟩ := f
  rw [ftD_x]
  exact ⟨_, _, _, _, _, _, _, rfl⟩
theorem smD_cells (m : MT) : ∃ fs e rel p0 p1 p2 p3 p4 p5, m = .mk fs e rel ∧ smD m = [dSFs fs, .sl 235 [], p0, p1, p2, p3, p4, p5, dS rel] := by
  obtain ⟨fs, e, rel⟩ := m
  obtain ⟨p0, p1, p2, p3, p4, p5, he⟩ := srD_six e
  refine ⟨fs, e, rel, p0, p1, p2, p3, p4, p5, rfl, ?_⟩
  simp only [smD, he, sfDs_eq, List.cons_append, List.nil_append]
def lastIs (name : ByteArray) (fs : List FT) (i : Nat) : Prop := ∃ h : i < fs.length, fs[i].nm = name ∧ ∀ (j : Nat) (h : j < fs.length), i < j → fs[j].nm ≠ name
def noneIs (name : ByteArray) (fs : List FT) : Prop := ∀ (j : Nat) (h : j < fs.length), fs[j].nm ≠ name
abbrev zSF : List D := [dS ⟨#[]⟩, .v (.pointer none), .v (.pointer none), .v (.pointer none), .v (.pointer none), .v (.pointer none), dB false, .v .nilIface]
theorem findField_a (fs : List FT) (p0 p1 p2 p3 p4 p5 : D) (rel name : ByteArray) (hl : fs.length ≤ 4000000000000) :
    ACalls Try.prog 64 [.c (.d (.pt [dSFs fs, .sl 235 [], p0, p1, p2, p3, p4, p5, dS rel])), aS name]
      (fun r => (∃ i, ∃ h : i < fs.length, lastIs name fs i ∧ r = .tup [(true, cls (sfD fs[i])), (false, [.d (dB true)])]) ∨ (noneIs name fs ∧ r = .tup [(true, cls zSF), (false, [.d (dB false)])])) := by
  try simp only [cls_cons, cls_nil] at *
  refine acalls_ex [] Try.func64 (by kernel_rfl) rfl Try.ntmps64 Try.results64 (Nat.le_of_ble_eq_true (by kernel_rfl)) ?_; intro hok w0 S0
  clear hok
  have b1 : fs.length ≤ 9223372036854775807 := by omega
  have hw0 : IntKind.wrap .i64 ((fs.length : Int) - 1) = (fs.length : Int) - 1 := by rw [wrap_i64] <;> omega
  (repeat' (first
                                                            | (with_reducible refine br_d (fun _ => ?_) (fun _ => ?_))
                                                            | (with_reducible refine br_i (fun _ => ?_) (fun _ => ?_))
                                                            | ((with_reducible apply nd_next); (case hx => simp -dsimp [b1, hw0]; first | done | with_reducible rfl); (case hid => simp -dsimp [b1, hw0]; first | done | with_reducible rfl | exact ⟨rfl, rfl, rfl⟩ | exact ⟨rfl, rfl⟩); (case' h1 => intro _ _ _); (case' h0 => intro _))
                                                            | ((with_reducible apply nd_entry); (case hx => simp -dsimp [b1, hw0]; first | done | with_reducible rfl); (case hid => simp -dsimp [b1, hw0]; first | done | with_reducible rfl | exact ⟨rfl, rfl, rfl⟩ | exact ⟨rfl, rfl⟩))
                                                            | ((with_reducible apply nd_range); (case hx => simp -dsimp [b1, hw0]; with_reducible rfl); (case hT => simp -dsimp [b1, hw0]); (case hnd => assumption); (case hz => simp -dsimp [b1, hw0]))
                                                            | (with_reducible refine dn_i follows_any (by kernel_rfl) ?_)
                                                            | (with_reducible exact done_eq rfl)
                                                            | (simp -dsimp [b1, hw0]))); (all_goals try with_reducible refine done_eq ?_)
  refine ex_loop (fun k : Nat => ⟨[(0, .c (.d (.pt [dSFs fs, .sl 235 [], p0, p1, p2, p3, p4, p5, dS rel]))), (1, aS name), (4, .c (.own 4 0)), (5, aV (.bool false)), (6, aI ((k : Int) - 1))], [(4, .cells [.d (dS ⟨#[]⟩), .d (.v (.pointer none)), .d (.v (.pointer none)), .d (.v (.pointer none)), .d (.v (.pointer none)), .d (.v (.pointer none)), .d (dB false), .d (.v .nilIface)] 118)]⟩)
    (fun k => k ≤ fs.length ∧ ∀ (j : Nat) (h : j < fs.length), k ≤ j → fs[j].nm ≠ name) (fun k => k) fs.length ?_ ⟨Nat.le_refl _, fun j h hk => by omega⟩ ?_
  · exact Weak.same (by simp -dsimp) (by simp -dsimp) (by first | rfl | (simp [closedSt, Av.ids, Ow.ids, Cl.ids, Go.Smd.keys]; done))
  · rintro k ⟨hk, hall⟩ K hK
    cases k with
    | zero =>
      have h0 : ¬ ((0 : Int) ≤ -1) := by omega
      (repeat' (first
                                                            | (with_reducible refine br_d (fun _ => ?_) (fun _ => ?_))
                                                            | (with_reducible refine br_i (fun _ => ?_) (fun _ => ?_))
                                                            | ((with_reducible apply nd_next); (case hx => simp -dsimp [h0]; first | done | with_reducible rfl); (case hid => simp -dsimp [h0]; first | done | with_reducible rfl | exact ⟨rfl, rfl, rfl⟩ | exact ⟨rfl, rfl⟩); (case' h1 => intro _ _ _); (case' h0 => intro _))
                                                            | ((with_reducible apply nd_entry); (case hx => simp -dsimp [h0]; first | done | with_reducible rfl); (case hid => simp -dsimp [h0]; first | done | with_reducible rfl | exact ⟨rfl, rfl, rfl⟩ | exact ⟨rfl, rfl⟩))
                                                            | ((with_reducible apply nd_range); (case hx => simp -dsimp [h0]; with_reducible rfl); (case hT => simp -dsimp [h0]); (case hnd => assumption); (case hz => simp -dsimp [h0]))
                                                            | (with_reducible refine dn_i follows_any (by kernel_rfl) ?_)
                                                            | (with_reducible exact done_eq rfl)
                                                            | (simp -dsimp [h0]))); (all_goals try with_reducible refine done_eq ?_)
      exact done_of (.inr ⟨fun j h => hall j h (Nat.zero_le _), rfl⟩)
    | succ k =>
      have hlt : k < fs.length := by omega
      have h1 : (((k + 1 : Nat) : Int) - 1) = (k : Int) := by omega
      have hw : IntKind.wrap .i64 ((k : Int) - 1) = (k : Int) - 1 := by rw [wrap_i64] <;> omega
      obtain ⟨q0, q1, q2, q3, q4, q5, q6, he⟩ := sfD_cells fs[k]
      rw [h1]
      by_cases hn : fs[k].nm = name
      · (repeat' (first
                                                            | (with_reducible refine br_d (fun _ => ?_) (fun _ => ?_))
                                                            | (with_reducible refine br_i (fun _ => ?_) (fun _ => ?_))
                                                            | ((with_reducible apply nd_next); (case hx => simp -dsimp [b1, hlt, hw, he, hn]; first | done | with_reducible rfl); (case hid => simp -dsimp [b1, hlt, hw, he, hn]; first | done | with_reducible rfl | exact ⟨rfl, rfl, rfl⟩ | exact ⟨rfl, rfl⟩); (case' h1 => intro _ _ _); (case' h0 => intro _))
                                                            | ((with_reducible apply nd_entry); (case hx => simp -dsimp [b1, hlt, hw, he, hn]; first | done | with_reducible rfl); (case hid => simp -dsimp [b1, hlt, hw, he, hn]; first | done | with_reducible rfl | exact ⟨rfl, rfl, rfl⟩ | exact ⟨rfl, rfl⟩))
                                                            | ((with_reducible apply nd_range); (case hx => simp -dsimp [b1, hlt, hw, he, hn]; with_reducible rfl); (case hT => simp -dsimp [b1, hlt, hw, he, hn]); (case hnd => assumption); (case hz => simp -dsimp [b1, hlt, hw, he, hn]))
                                                            | (with_reducible refine dn_i follows_any (by kernel_rfl) ?_)
                                                            | (with_reducible exact done_eq rfl)
                                                            | (simp -dsimp [b1, hlt, hw, he, hn]))); (all_goals try with_reducible refine done_eq ?_)
        refine done_of (.inl ⟨k, hlt, ⟨hlt, hn, fun j h hj => hall j h (by omega)⟩, ?_⟩)
        rw [he, hn]; rfl
      · (repeat' (first
                                                            | (with_reducible refine br_d (fun _ => ?_) (fun _ => ?_))
                                                            | (with_reducible refine br_i (fun _ => ?_) (fun _ => ?_))
                                                            | ((with_reducible apply nd_next); (case hx => simp -dsimp [b1, hlt, hw, he, hn]; first | done | with_reducible rfl); (case hid => simp -dsimp [b1, hlt, hw, he, hn]; first | done | with_reducible rfl | exact ⟨rfl, rfl, rfl⟩ | exact ⟨rfl, rfl⟩); (case' h1 => intro _ _ _); (case' h0 => intro _))
                                                            | ((with_reducible apply nd_entry); (case hx => simp -dsimp [b1, hlt, hw, he, hn]; first | done | with_reducible rfl); (case hid => simp -dsimp [b1, hlt, hw, he, hn]; first | done | with_reducible rfl | exact ⟨rfl, rfl, rfl⟩ | exact ⟨rfl, rfl⟩))
                                                            | ((with_reducible apply nd_range); (case hx => simp -dsimp [b1, hlt, hw, he, hn]; with_reducible rfl); (case hT => simp -dsimp [b1, hlt, hw, he, hn]); (case hnd => assumption); (case hz => simp -dsimp [b1, hlt, hw, he, hn]))
                                                            | (with_reducible refine dn_i follows_any (by kernel_rfl) ?_)
                                                            | (with_reducible exact done_eq rfl)
                                                            | (simp -dsimp [b1, hlt, hw, he, hn]))); (all_goals try with_reducible refine done_eq ?_)
        refine hK _ k ?_ ⟨by omega, fun j h hj => ?_⟩ (by omega)
        · exact Weak.same (by simp -dsimp) (by simp -dsimp) (by first | rfl | (simp [closedSt, Av.ids, Ow.ids, Cl.ids, Go.Smd.keys]; done))
        · by_cases e : j = k
          · subst e; exact hn
          · exact hall j h (by omega)
theorem zSF_is : sfD (.mk ⟨#[]⟩ (.mk false ⟨#[]⟩ (.mk ⟨#[]⟩ [] []) ⟨#[]⟩) []) = zSF := by simp [sfD, srD, saD, slP, smP, relD, dfD]
theorem implFindField_a (m : MT) (g : gM m) (fs : List FT) (e : RF) (rel : ByteArray) (hm : m = .mk fs e rel) (name : ByteArray) : ACalls Try.prog 22 [.agg (cls (mtD m)), aS name]
      (fun r => (∃ i, ∃ h : i < fs.length, lastIs name fs i ∧ r = .tup [(true, cls (ftD (nF fs[i]))), (false, [.d (dB true)])]) ∨ (noneIs name fs ∧ ∃ f, r = .tup [(true, cls (ftD f)), (false, [.d (dB false)])])) := by
  subst hm
  have c1 := (map_a _ g).1
  obtain ⟨fs', e', rel', p0, p1, p2, p3, p4, p5, hm, hs⟩ := smD_cells (.mk fs e rel)
  cases hm
  unfold CMap at c1
  simp only [gM] at g
  have ff := findField_a fs p0 p1 p2 p3 p4 p5 rel name (by omega)
  have gz : gF (.mk ⟨#[]⟩ (.mk false ⟨#[]⟩ (.mk ⟨#[]⟩ [] []) ⟨#[]⟩) []) := by simp [gF, gR, gA, gLs, gMs]
  have cz := (field_a _ gz).2
  unfold FField at cz
  rw [zSF_is] at cz
  obtain ⟨named, nm, ⟨sc, ls, ms⟩, rel2⟩ := e
  rw [hs] at c1
  rw [mtD_x] at c1 ⊢
  try simp only [cls_cons, cls_nil] at *
  refine acalls_ex [] Try.func22 (by kernel_rfl) rfl Try.ntmps22 Try.results22 (Nat.le_of_ble_eq_true (by kernel_rfl)) ?_; intro hok w0 S0
  clear hok
  (repeat' (first
                                                            | (with_reducible refine br_d (fun _ => ?_) (fun _ => ?_))
                                                            | (with_reducible refine br_i (fun _ => ?_) (fun _ => ?_))
                                                            | (with_reducible refine nd_v (c1) (by first | rfl | (simp -dsimp; done)) ?_)
                                                            | (with_reducible refine nw_v (c1) rfl (by first | rfl | (simp -dsimp; done)) (by first | rfl | (simp -dsimp; done)) ?_)
                                                            | ((with_reducible refine nd_c (ff) (by first | rfl | (simp -dsimp; done)) ?_); rintro _ (⟨i, h, hl, rfl⟩ | ⟨hn, rfl⟩) _)
                                                            | ((with_reducible refine nw_c (ff) rfl (by first | rfl | (simp -dsimp; done)) (by first | rfl | (simp -dsimp; done)) ?_); rintro _ (⟨i, h, hl, rfl⟩ | ⟨hn, rfl⟩) _)
                                                            | (with_reducible refine nd_v ((field_a _ (gFs_mem g.2.2 _ (List.getElem_mem h))).2) (by first | rfl | (simp -dsimp; done)) ?_)
                                                            | (with_reducible refine nw_v ((field_a _ (gFs_mem g.2.2 _ (List.getElem_mem h))).2) rfl (by first | rfl | (simp -dsimp; done)) (by first | rfl | (simp -dsimp; done)) ?_)
                                                            | (with_reducible refine nd_v (cz) (by first | rfl | (simp -dsimp; done)) ?_)
                                                            | (with_reducible refine nw_v (cz) rfl (by first | rfl | (simp -dsimp; done)) (by first | rfl | (simp -dsimp; done)) ?_)
                                                            | ((with_reducible apply nd_next); (case hx => simp -dsimp; first | done | with_reducible rfl); (case hid => simp -dsimp; first | done | with_reducible rfl | exact ⟨rfl, rfl, rfl⟩ | exact ⟨rfl, rfl⟩); (case' h1 => intro _ _ _); (case' h0 => intro _))
                                                            | ((with_reducible apply nd_entry); (case hx => simp -dsimp; first | done | with_reducible rfl); (case hid => simp -dsimp; first | done | with_reducible rfl | exact ⟨rfl, rfl, rfl⟩ | exact ⟨rfl, rfl⟩))
                                                            | ((with_reducible apply nd_range); (case hx => simp -dsimp; with_reducible rfl); (case hT => simp -dsimp); (case hnd => assumption); (case hz => simp -dsimp))
                                                            | (with_reducible refine dn_i follows_any (by kernel_rfl) ?_)
                                                            | (with_reducible exact done_eq rfl)
                                                            | (simp -dsimp))); (all_goals try with_reducible refine done_eq ?_)
  · exact done_of (.inl ⟨i, h, hl, rfl⟩)
  · exact done_of (.inr ⟨hn, _, rfl⟩)
theorem sameField_a (f : FT) (h : AField f) : ACalls Try.prog 23 [.agg (cls (ftD (nF f))), .agg (cls (ftD f))] (fun r => r = aV (.bool true)) := by
  try simp only [cls_cons, cls_nil] at *
  refine acalls_ex [] Try.func23 (by kernel_rfl) rfl Try.ntmps23 Try.results23 (Nat.le_of_ble_eq_true (by kernel_rfl)) ?_; intro hok w0 S0
  clear hok
  (repeat' (first
                                                            | (with_reducible refine br_d (fun _ => ?_) (fun _ => ?_))
                                                            | (with_reducible refine br_i (fun _ => ?_) (fun _ => ?_))
                                                            | (with_reducible refine nd_v (h) (by first | rfl | (simp -dsimp [ctys_same]; done)) ?_)
                                                            | (with_reducible refine nw_v (h) rfl (by first | rfl | (simp -dsimp [ctys_same]; done)) (by first | rfl | (simp -dsimp [ctys_same]; done)) ?_)
                                                            | ((with_reducible apply nd_next); (case hx => simp -dsimp [ctys_same]; first | done | with_reducible rfl); (case hid => simp -dsimp [ctys_same]; first | done | with_reducible rfl | exact ⟨rfl, rfl, rfl⟩ | exact ⟨rfl, rfl⟩); (case' h1 => intro _ _ _); (case' h0 => intro _))
                                                            | ((with_reducible apply nd_entry); (case hx => simp -dsimp [ctys_same]; first | done | with_reducible rfl); (case hid => simp -dsimp [ctys_same]; first | done | with_reducible rfl | exact ⟨rfl, rfl, rfl⟩ | exact ⟨rfl, rfl⟩))
                                                            | ((with_reducible apply nd_range); (case hx => simp -dsimp [ctys_same]; with_reducible rfl); (case hT => simp -dsimp [ctys_same]); (case hnd => assumption); (case hz => simp -dsimp [ctys_same]))
                                                            | (with_reducible refine dn_i follows_any (by kernel_rfl) ?_)
                                                            | (with_reducible exact done_eq rfl)
                                                            | (simp -dsimp [ctys_same]))); (all_goals try with_reducible refine done_eq ?_)
theorem zzFits20_w (fs : List FT) (named : Bool) (name sc : ByteArray) (ls : List LT) (ms : List MT) (rel rel2 : ByteArray) (hl : fs.length ≤ 9223372036854775807) : ACalls Try.prog 20 [.agg (cls (mtX fs named name sc ls ms rel rel2))] (fun r => ∃ b, r = aV (.bool b)) := by
  try simp only [cls_cons, cls_nil] at *
  refine acalls_ex [] Try.func20 (by kernel_rfl) rfl Try.ntmps20 Try.results20 (Nat.le_of_ble_eq_true (by kernel_rfl)) ?_; intro hok w0 S0
  clear hok
  (repeat' (first
                                                            | (with_reducible refine br_d (fun _ => ?_) (fun _ => ?_))
                                                            | (with_reducible refine br_i (fun _ => ?_) (fun _ => ?_))
                                                            | ((with_reducible apply nd_next); (case hx => simp -dsimp [hl]; first | done | with_reducible rfl); (case hid => simp -dsimp [hl]; first | done | with_reducible rfl | exact ⟨rfl, rfl, rfl⟩ | exact ⟨rfl, rfl⟩); (case' h1 => intro _ _ _); (case' h0 => intro _))
                                                            | ((with_reducible apply nd_entry); (case hx => simp -dsimp [hl]; first | done | with_reducible rfl); (case hid => simp -dsimp [hl]; first | done | with_reducible rfl | exact ⟨rfl, rfl, rfl⟩ | exact ⟨rfl, rfl⟩))
                                                            | ((with_reducible apply nd_range); (case hx => simp -dsimp [hl]; with_reducible rfl); (case hT => simp -dsimp [hl]); (case hnd => assumption); (case hz => simp -dsimp [hl]))
                                                            | (with_reducible refine dn_i follows_any (by kernel_rfl) ?_)
                                                            | (with_reducible exact done_eq rfl)
                                                            | (simp -dsimp [hl]))); (all_goals try with_reducible refine done_eq ?_)
  all_goals exact ⟨_, rfl⟩
theorem acalls_ok {P : Program} {f : FuncId} {args : List Av} {R : Av → Prop} (h : (∀ x ∈ args, okA P x) → ACalls P f args R) (h1 : ∃ fn, P.funcs[f]? = some fn ∧ (fn.name == "runtime.NumGoroutine") = false ∧ fn.body.isSome = true) : ACalls P f args R :=
  ⟨h1, fun w S vs hS ha => (h (fun x hx => by
    obtain ⟨i, hi⟩ := List.getElem?_of_mem hx
    obtain ⟨v, _, hv⟩ := ha.at hi
    exact ⟨w, S, v, hv⟩)).2 w S vs hS ha⟩
theorem fnFindFieldLast_a (m : MT) (name : ByteArray) : ACalls Try.prog 5 [.agg (cls (mtD m)), aS name] (fun r => r = aV (.bool true)) := by
  obtain ⟨fs, e, rel⟩ := m
  have key : gM (.mk fs e rel) → ACalls Try.prog 5 [.agg (cls (mtD (.mk fs e rel))), aS name] (fun r => r = aV (.bool true)) := fun g => by
    have ff := implFindField_a _ g fs e rel rfl name
    have ga : gA (.mk ⟨#[]⟩ [] [.mk fs e rel]) := by simp only [gA, gLs, gMs]; exact ⟨by simp, by simp, trivial, g, trivial⟩
    have hd := defined_atom _ ga 20 (by omega)
    simp only [gM] at g
    obtain ⟨g1, g2, g3⟩ := g
    obtain ⟨named, nm, ⟨sc, ls, ms⟩, rel2⟩ := e
    rw [atD_x] at hd
    try simp only [cls_cons, cls_nil] at hd
    try simp only [atX, dLTs, dMTs, List.map_cons, List.map_nil, mtD_x] at hd
    try simp only [cls_cons, cls_nil] at hd
    have b1 : fs.length ≤ 9223372036854775807 := by omega
    have z := zzFits20_w fs named nm sc ls ms rel2 rel b1
    have hw0 : IntKind.wrap .i64 ((fs.length : Int) - 1) = (fs.length : Int) - 1 := by rw [wrap_i64] <;> omega
    rw [mtD_x] at ff ⊢
    try simp only [cls_cons, cls_nil] at *
    refine acalls_ex [(10, ([8], [(0, []), (1, []), (2, []), (3, []), (4, []), (5, []), (6, []), (7, []), (8, []), (9, []), (10, [])]))] Try.func5 (by kernel_rfl) rfl Try.ntmps5 Try.results5 (Nat.le_of_ble_eq_true (by kernel_rfl)) ?_; intro hok w0 S0
    clear hok
    (repeat' (first
                                                            | (with_reducible refine br_d (fun _ => ?_) (fun _ => ?_))
                                                            | (with_reducible refine br_i (fun _ => ?_) (fun _ => ?_))
                                                            | ((with_reducible refine nd_c (z) (by first | rfl | (simp -dsimp [b1, hw0, toDs]; done)) ?_); rintro _ ⟨x, rfl⟩ _)
                                                            | ((with_reducible refine nw_c (z) rfl (by first | rfl | (simp -dsimp [b1, hw0, toDs]; done)) (by first | rfl | (simp -dsimp [b1, hw0, toDs]; done)) ?_); rintro _ ⟨x, rfl⟩ _)
                                                            | ((with_reducible refine nd_c (hd) (by first | rfl | (simp -dsimp [b1, hw0, toDs]; done)) ?_); rintro _ ⟨y, rfl⟩ _)
                                                            | ((with_reducible refine nw_c (hd) rfl (by first | rfl | (simp -dsimp [b1, hw0, toDs]; done)) (by first | rfl | (simp -dsimp [b1, hw0, toDs]; done)) ?_); rintro _ ⟨y, rfl⟩ _)
                                                            | ((with_reducible refine nd_c (ff) (by first | rfl | (simp -dsimp [b1, hw0, toDs]; done)) ?_); rintro _ (⟨i, h, hl, rfl⟩ | ⟨hn, f, rfl⟩) _)
                                                            | ((with_reducible refine nw_c (ff) rfl (by first | rfl | (simp -dsimp [b1, hw0, toDs]; done)) (by first | rfl | (simp -dsimp [b1, hw0, toDs]; done)) ?_); rintro _ (⟨i, h, hl, rfl⟩ | ⟨hn, f, rfl⟩) _)
                                                            | ((with_reducible apply nd_next); (case hx => simp -dsimp [b1, hw0, toDs]; first | done | with_reducible rfl); (case hid => simp -dsimp [b1, hw0, toDs]; first | done | with_reducible rfl | exact ⟨rfl, rfl, rfl⟩ | exact ⟨rfl, rfl⟩); (case' h1 => intro _ _ _); (case' h0 => intro _))
                                                            | ((with_reducible apply nd_entry); (case hx => simp -dsimp [b1, hw0, toDs]; first | done | with_reducible rfl); (case hid => simp -dsimp [b1, hw0, toDs]; first | done | with_reducible rfl | exact ⟨rfl, rfl, rfl⟩ | exact ⟨rfl, rfl⟩))
                                                            | ((with_reducible apply nd_range); (case hx => simp -dsimp [b1, hw0, toDs]; with_reducible rfl); (case hT => simp -dsimp [b1, hw0, toDs]); (case hnd => assumption); (case hz => simp -dsimp [b1, hw0, toDs]))
                                                            | (with_reducible refine dn_i follows_any (by kernel_rfl) ?_)
                                                            | (with_reducible exact done_eq rfl)
                                                            | (simp -dsimp [b1, hw0, toDs]))); (all_goals try with_reducible refine done_eq ?_)
    · obtain ⟨_, hln, hla⟩ := hl
      have hsf := sameField_a _ (alike_field _ (gFs_mem g3 _ (List.getElem_mem h)))
      refine ex_loop (fun k : Nat => ⟨[(1, aS name), (2, .c (.own 2 0)), (5, .c (.own 5 0)), (6, aV (.bool true)), (7, aI ((k : Int) - 1))], [(2, .cells (cls (mtX fs named nm sc ls ms rel2 rel)) 40), (5, .cells (cls (ftD (nF fs[i]))) 44)]⟩)
        (fun k => k ≤ fs.length ∧ i < k) (fun k => k) fs.length ?_ ⟨Nat.le_refl _, h⟩ ?_
      · exact Weak.same (by simp -dsimp) (by simp -dsimp) (by first | rfl | (simp [closedSt, Av.ids, Ow.ids, Cl.ids, Go.Smd.keys]; done))
      · rintro k ⟨hk, hik⟩ K hK
        cases k with
        | zero => omega
        | succ k =>
          have hlt : k < fs.length := by omega
          have h1 : (((k + 1 : Nat) : Int) - 1) = (k : Int) := by omega
          have hw : IntKind.wrap .i64 ((k : Int) - 1) = (k : Int) - 1 := by rw [wrap_i64] <;> omega
          obtain ⟨nm2, named2, name2, sc2, ls2, ms2, rel3, dflt2, hfk⟩ : ∃ nm2 named2 name2 sc2 ls2 ms2 rel3 dflt2, fs[k] = .mk nm2 (.mk named2 name2 (.mk sc2 ls2 ms2) rel3) dflt2 := by
            obtain ⟨nm2, ⟨named2, name2, ⟨sc2, ls2, ms2⟩, rel3⟩, dflt2⟩ := fs[k]
            exact ⟨_, _, _, _, _, _, _, _, rfl⟩
          have he : ftD fs[k] = ftX fs[k].nm named2 name2 sc2 ls2 ms2 rel3 dflt2 := by rw [hfk, ftD_x]; rfl
          rw [h1]
          by_cases hki : k = i
          · subst hki
            rw [he, hln] at hsf
            simp only [cls_cons, cls_nil] at hsf
            (repeat' (first
                                                            | (with_reducible refine br_d (fun _ => ?_) (fun _ => ?_))
                                                            | (with_reducible refine br_i (fun _ => ?_) (fun _ => ?_))
                                                            | (with_reducible refine nd_v (hsf) (by first | rfl | (simp -dsimp [b1, hlt, hw, he, hln]; done)) ?_)
                                                            | (with_reducible refine nw_v (hsf) rfl (by first | rfl | (simp -dsimp [b1, hlt, hw, he, hln]; done)) (by first | rfl | (simp -dsimp [b1, hlt, hw, he, hln]; done)) ?_)
                                                            | ((with_reducible apply nd_next); (case hx => simp -dsimp [b1, hlt, hw, he, hln]; first | done | with_reducible rfl); (case hid => simp -dsimp [b1, hlt, hw, he, hln]; first | done | with_reducible rfl | exact ⟨rfl, rfl, rfl⟩ | exact ⟨rfl, rfl⟩); (case' h1 => intro _ _ _); (case' h0 => intro _))
                                                            | ((with_reducible apply nd_entry); (case hx => simp -dsimp [b1, hlt, hw, he, hln]; first | done | with_reducible rfl); (case hid => simp -dsimp [b1, hlt, hw, he, hln]; first | done | with_reducible rfl | exact ⟨rfl, rfl, rfl⟩ | exact ⟨rfl, rfl⟩))
                                                            | ((with_reducible apply nd_range); (case hx => simp -dsimp [b1, hlt, hw, he, hln]; with_reducible rfl); (case hT => simp -dsimp [b1, hlt, hw, he, hln]); (case hnd => assumption); (case hz => simp -dsimp [b1, hlt, hw, he, hln]))
                                                            | (with_reducible refine dn_i follows_any (by kernel_rfl) ?_)
                                                            | (with_reducible exact done_eq rfl)
                                                            | (simp -dsimp [b1, hlt, hw, he, hln]))); (all_goals try with_reducible refine done_eq ?_)
          · have hn : ¬ fs[k].nm = name := hla k hlt (by omega)
            (repeat' (first
                                                            | (with_reducible refine br_d (fun _ => ?_) (fun _ => ?_))
                                                            | (with_reducible refine br_i (fun _ => ?_) (fun _ => ?_))
                                                            | ((with_reducible apply nd_next); (case hx => simp -dsimp [b1, hlt, hw, he, hn]; first | done | with_reducible rfl); (case hid => simp -dsimp [b1, hlt, hw, he, hn]; first | done | with_reducible rfl | exact ⟨rfl, rfl, rfl⟩ | exact ⟨rfl, rfl⟩); (case' h1 => intro _ _ _); (case' h0 => intro _))
                                                            | ((with_reducible apply nd_entry); (case hx => simp -dsimp [b1, hlt, hw, he, hn]; first | done | with_reducible rfl); (case hid => simp -dsimp [b1, hlt, hw, he, hn]; first | done | with_reducible rfl | exact ⟨rfl, rfl, rfl⟩ | exact ⟨rfl, rfl⟩))
                                                            | ((with_reducible apply nd_range); (case hx => simp -dsimp [b1, hlt, hw, he, hn]; with_reducible rfl); (case hT => simp -dsimp [b1, hlt, hw, he, hn]); (case hnd => assumption); (case hz => simp -dsimp [b1, hlt, hw, he, hn]))
                                                            | (with_reducible refine dn_i follows_any (by kernel_rfl) ?_)
                                                            | (with_reducible exact done_eq rfl)
                                                            | (simp -dsimp [b1, hlt, hw, he, hn]))); (all_goals try with_reducible refine done_eq ?_)
            refine hK _ k ?_ ⟨by omega, by omega⟩ (by omega)
            exact Weak.same (by simp -dsimp) (by simp -dsimp) (by first | rfl | (simp [closedSt, Av.ids, Ow.ids, Cl.ids, Go.Smd.keys]; done))
    · skip
      refine ex_loop (fun k : Nat => ⟨[(1, aS name), (2, .c (.own 2 0)), (6, aV (.bool false)), (7, aI ((k : Int) - 1))], [(2, .cells (cls (mtX fs named nm sc ls ms rel2 rel)) 40)]⟩)
        (fun k => k ≤ fs.length) (fun k => k) fs.length ?_ (Nat.le_refl _) ?_
      · exact Weak.same (by simp -dsimp) (by simp -dsimp) (by first | rfl | (simp [closedSt, Av.ids, Ow.ids, Cl.ids, Go.Smd.keys]; done))
      · rintro k hk K hK
        cases k with
        | zero =>
          have h0 : ¬ ((0 : Int) ≤ -1) := by omega
          (repeat' (first
                                                            | (with_reducible refine br_d (fun _ => ?_) (fun _ => ?_))
                                                            | (with_reducible refine br_i (fun _ => ?_) (fun _ => ?_))
                                                            | ((with_reducible apply nd_next); (case hx => simp -dsimp [h0]; first | done | with_reducible rfl); (case hid => simp -dsimp [h0]; first | done | with_reducible rfl | exact ⟨rfl, rfl, rfl⟩ | exact ⟨rfl, rfl⟩); (case' h1 => intro _ _ _); (case' h0 => intro _))
                                                            | ((with_reducible apply nd_entry); (case hx => simp -dsimp [h0]; first | done | with_reducible rfl); (case hid => simp -dsimp [h0]; first | done | with_reducible rfl | exact ⟨rfl, rfl, rfl⟩ | exact ⟨rfl, rfl⟩))
                                                            | ((with_reducible apply nd_range); (case hx => simp -dsimp [h0]; with_reducible rfl); (case hT => simp -dsimp [h0]); (case hnd => assumption); (case hz => simp -dsimp [h0]))
                                                            | (with_reducible refine dn_i follows_any (by kernel_rfl) ?_)
                                                            | (with_reducible exact done_eq rfl)
                                                            | (simp -dsimp [h0]))); (all_goals try with_reducible refine done_eq ?_)
        | succ k =>
          have hlt : k < fs.length := by omega
          have h1 : (((k + 1 : Nat) : Int) - 1) = (k : Int) := by omega
          have hw : IntKind.wrap .i64 ((k : Int) - 1) = (k : Int) - 1 := by rw [wrap_i64] <;> omega
          obtain ⟨q0, q1, q2, q3, q4, q5, q6, he⟩ := ftD_cells fs[k]
          have hn' : ¬ fs[k].nm = name := hn k hlt
          rw [h1]
          (repeat' (first
                                                            | (with_reducible refine br_d (fun _ => ?_) (fun _ => ?_))
                                                            | (with_reducible refine br_i (fun _ => ?_) (fun _ => ?_))
                                                            | ((with_reducible apply nd_next); (case hx => simp -dsimp [b1, hlt, hw, he, hn']; first | done | with_reducible rfl); (case hid => simp -dsimp [b1, hlt, hw, he, hn']; first | done | with_reducible rfl | exact ⟨rfl, rfl, rfl⟩ | exact ⟨rfl, rfl⟩); (case' h1 => intro _ _ _); (case' h0 => intro _))
                                                            | ((with_reducible apply nd_entry); (case hx => simp -dsimp [b1, hlt, hw, he, hn']; first | done | with_reducible rfl); (case hid => simp -dsimp [b1, hlt, hw, he, hn']; first | done | with_reducible rfl | exact ⟨rfl, rfl, rfl⟩ | exact ⟨rfl, rfl⟩))
                                                            | ((with_reducible apply nd_range); (case hx => simp -dsimp [b1, hlt, hw, he, hn']; with_reducible rfl); (case hT => simp -dsimp [b1, hlt, hw, he, hn']); (case hnd => assumption); (case hz => simp -dsimp [b1, hlt, hw, he, hn']))
                                                            | (with_reducible refine dn_i follows_any (by kernel_rfl) ?_)
                                                            | (with_reducible exact done_eq rfl)
                                                            | (simp -dsimp [b1, hlt, hw, he, hn']))); (all_goals try with_reducible refine done_eq ?_)
          refine hK _ k ?_ (by omega) (by omega)
          exact Weak.same (by simp -dsimp) (by simp -dsimp) (by first | rfl | (simp [closedSt, Av.ids, Ow.ids, Cl.ids, Go.Smd.keys]; done))
  refine acalls_ok (fun hok => key ?_) ⟨_, Try.func5, by kernel_rfl, rfl⟩
  exact ((g_ok (SizeOf.sizeOf (MT.mk fs e rel) + 1)).2.2.2.1 _ (by omega) fun d hd => okA_agg (hok (.agg (cls (mtD (.mk fs e rel)))) (by simp)) (.d d) (List.mem_map.2 ⟨d, hd, rfl⟩) d rfl)
end Go.Smd
end
