/- Part 17 of the proof: Zm. -/
import Derived.Test.YtphldfnnjoehpaaQZ13
import Derived.Test.YtphldfnnjoehpaaQZ16
set_option linter.unusedVariables false
section
set_option linter.unusedSimpArgs false
set_option maxRecDepth 100000
set_option maxHeartbeats 8000000
namespace Go.Smd
open Go.RowKit Go.Proofs
abbrev fZip1 : FuncId := 85
abbrev tZ : TypeId := 75
abbrev tGV : TypeId := 26
abbrev cZ (x : Cl) : Ow := .cells [x] 72
theorem clo_bsl {σ : St} {d : Option Tmp} {T : TypeId} {n : Nat} {xs : Array (Nat × Operand)} {ty : TypeId} {pos : String} {af : Array Edge} {g : Option (Nat × Bool)} : cloA σ ⟨d, .buildSlice T n xs, ty, pos, af, g⟩ = none := by cases d <;> rfl
def gvO : Option Tree → List GV
  | none => []
  | some t => [fromT t]
def zRow (m1 m2 : List (ByteArray × Tree)) (k : ByteArray) : List D := [dS k, oSl tGV ((gvO (mget m1 k)).map gvD), oSl tGV ((gvO (mget m2 k)).map gvD)]
theorem zipMaps_p (m1 m2 : List (ByteArray × Tree)) (hnd1 : (m1.map (·.1)).Nodup) (hnd2 : (m2.map (·.1)).Nodup) (hl0 : m1.length + m2.length ≤ 8000000000) (hne : ¬ (m1.length = 0 ∧ m2.length = 0)) (f1 : ∀ p ∈ m1, Fits p.2) (f2 : ∀ p ∈ m2, Fits p.2) :
    AProc Try.prog 199 [aAlloc, .c (.d (dM m1)), .c (.d (dM m2)), .c (.fn 1000000000)]
      [(1000000000, .clo (.fn fZip1) [.own 1000000001 0]), (1000000001, cZ (.d (.v (.slice none 0 0))))]
      (fun r own' => ∃ ss : List ByteArray, unionKeys m1 m2 ss ∧ r = aV (.bool true) ∧ look own' 1000000000 = some (.clo (.fn fZip1) [.own 1000000001 0]) ∧ look own' 1000000001 = some (cZ (.gs 121026 ss.length)) ∧ look own' 121026 = some (.arr ss.length tZ (ss.map (zRow m1 m2)))) := by
  have hl : m1.length + m2.length ≤ 4000000000000 := by omega
  have hb1 : 16 * m1.length ≤ 281474976710656 := by omega
  have hb2 : 16 * m2.length ≤ 281474976710656 := by omega
  refine aproc_ex [(21, ([], [(0, []), (1, []), (2, []), (3, []), (4, []), (5, []), (6, []), (7, []), (8, []), (9, []), (10, []), (11, []), (12, []), (13, [])])), (23, ([], [(0, []), (1, []), (3, []), (4, []), (5, []), (6, []), (7, []), (8, []), (9, []), (10, []), (11, []), (12, []), (13, []), (14, []), (2, [15]), (15, []), (16, []), (17, [])]))] Try.func199 (by kernel_rfl) rfl Try.ntmps199 Try.results199 (Nat.le_of_ble_eq_true (by kernel_rfl)) ?_; intro hok w0 S0
  (repeat' (first
                                                            | (with_reducible refine br_d (fun _ => ?_) (fun _ => ?_))
                                                            | (with_reducible refine br_i (fun _ => ?_) (fun _ => ?_))
                                                            | (with_reducible refine nd_v (length_a m1) (by first | rfl | (simp -dsimp [hb1, hb2, funcV]; done)) ?_)
                                                            | (with_reducible refine nw_v (length_a m1) rfl (by first | rfl | (simp -dsimp [hb1, hb2, funcV]; done)) (by first | rfl | (simp -dsimp [hb1, hb2, funcV]; done)) ?_)
                                                            | (with_reducible refine nd_v (length_a m2) (by first | rfl | (simp -dsimp [hb1, hb2, funcV]; done)) ?_)
                                                            | (with_reducible refine nw_v (length_a m2) rfl (by first | rfl | (simp -dsimp [hb1, hb2, funcV]; done)) (by first | rfl | (simp -dsimp [hb1, hb2, funcV]; done)) ?_)
                                                            | ((with_reducible apply nd_qx (ρ := [(1000000000, 45), (1000000001, 12), (1000000002, 40)]) 7 (iterate1_p m1 hnd1 0 [] (by simp only [List.length_nil]; omega))); (case hc => simp -dsimp [hb1, hb2, funcV] <;> first | exact ⟨rfl, rfl, rfl⟩ | exact ⟨rfl, rfl⟩ | done); (case hx => simp -dsimp [hb1, hb2, funcV] <;> with_reducible rfl); (case ho => simp -dsimp [hb1, hb2, funcV]); (case hh => simp -dsimp [hb1, hb2, funcV]); (case hb => intro x hx; simp -dsimp [hb1, hb2, funcV]); intro _ _)
                                                            | ((with_reducible apply nd_qx (ρ := [(1000000000, 51), (1000000001, 12), (1000000002, 40), (1000000003, 5)]) 7 (by rename_i q hq; exact iterate2_p m1 m2 hnd1 hnd2 m1.length q (by have := hq.length_eq; simp only [List.length_map] at this; omega))); (case hc => simp -dsimp [hb1, hb2, funcV] <;> first | exact ⟨rfl, rfl, rfl⟩ | exact ⟨rfl, rfl⟩ | done); (case hx => simp -dsimp [hb1, hb2, funcV] <;> with_reducible rfl); (case ho => simp -dsimp [hb1, hb2, funcV]); (case hh => simp -dsimp [hb1, hb2, funcV]); (case hb => intro x hx; simp -dsimp [hb1, hb2, funcV]); intro _ _)
                                                            | ((with_reducible apply nd_next); (case hx => simp -dsimp [hb1, hb2, funcV]; first | done | with_reducible rfl); (case hid => simp -dsimp [hb1, hb2, funcV]; first | done | with_reducible rfl | exact ⟨rfl, rfl, rfl⟩ | exact ⟨rfl, rfl⟩); (case' h1 => intro _ _ _); (case' h0 => intro _))
                                                            | ((with_reducible apply nd_entry); (case hx => simp -dsimp [hb1, hb2, funcV]; first | done | with_reducible rfl); (case hid => simp -dsimp [hb1, hb2, funcV]; first | done | with_reducible rfl | exact ⟨rfl, rfl, rfl⟩ | exact ⟨rfl, rfl⟩))
                                                            | ((with_reducible apply nd_range); (case hx => simp -dsimp [hb1, hb2, funcV]; with_reducible rfl); (case hT => simp -dsimp [hb1, hb2, funcV]); (case hnd => assumption); (case hz => simp -dsimp [hb1, hb2, funcV]))
                                                            | (with_reducible refine dn_i follows_any (by kernel_rfl) ?_)
                                                            | (with_reducible exact done_eq rfl)
                                                            | (simp -dsimp [hb1, hb2, funcV]))); (all_goals try with_reducible refine done_eq ?_)
  all_goals first | (exfalso; apply hne; simp_all; done) | skip
  all_goals (
    rename_i q1 hq1 q2 hq2
    obtain ⟨V, hV⟩ : ∃ V, V = m1.length + (q2.filter (notIn m1)).length := ⟨_, rfl⟩
    obtain ⟨L, hL⟩ : ∃ L, L = q1 ++ q2.filter (notIn m1) := ⟨_, rfl⟩
    have hLl : L.length ≤ 8000000000 := by
      rw [hL, List.length_append]
      have h1 := hq1.length_eq; have h2 := hq2.length_eq; have h3 := List.length_filter_le (notIn m1) q2
      simp only [List.length_map] at h1 h2
      omega
    have hin : ∀ q, q ∈ L ↔ q ∈ m1.map (·.1) ∨ q ∈ m2.map (·.1) := fun q => by
      rw [hL, List.mem_append, List.mem_filter, hq1.mem_iff, hq2.mem_iff]
      constructor
      · rintro (h | h)
        · exact .inl h
        · exact .inr h.1
      · rintro (h | h)
        · exact .inl h
        · by_cases h1 : q ∈ m1.map (·.1)
          · exact .inl h1
          · exact .inr ⟨h, by rw [notIn, mget_none h1]; rfl⟩
    have hLnd : L.Nodup := by
      rw [hL, List.nodup_append]
      refine ⟨hq1.nodup_iff.2 hnd1, (hq2.nodup_iff.2 hnd2).filter _, fun a ha b hb e => ?_⟩
      subst e
      have h1 := (List.mem_filter.1 hb).2
      have h2 := mget_some (hq1.mem_iff.1 ha)
      simp [notIn, h2] at h1
    obtain ⟨x0, L0, hL0⟩ : ∃ x0 L0, L = x0 :: L0 := by
      cases hLc : L with
      | nil =>
        exfalso
        apply hne
        have h1 : ∀ q, ¬ (q ∈ m1.map (·.1) ∨ q ∈ m2.map (·.1)) := fun q hq => by have := (hin q).2 hq; rw [hLc] at this; cases this
        constructor
        · cases m1 with
          | nil => rfl
          | cons p l => exact absurd (.inl (by simp)) (h1 p.1)
        · cases m2 with
          | nil => rfl
          | cons p l => exact absurd (.inr (by simp)) (h1 p.1)
      | cons x l => exact ⟨x, l, rfl⟩
    refine ex_loop (fun x : List ByteArray × List ByteArray => ⟨[(0, aAlloc), (2, .c (.d (dM m2))), (3, .c (.fn 1000000000)), (5, .c (.own 5 0)), (12, .c (.own 12 0)), (13, aV (.int .i64 x.1.length))], [(12, .cells [.gs 40 V] tStrs), (40, .arr V tStr (sRow (x.1 ++ x.2))), (5, .cells [.d (dM m1)] 88), (1000000000, .clo (.fn fZip1) [.own 1000000001 0]), (1000000001, cZ (.d (.v (.slice none 0 0))))]⟩)
      (fun x => x.1.Pairwise (fun a b => blt a b = true) ∧ (x.1 ++ x.2).Perm L ∧ 1 ≤ x.1.length) (fun x => x.2.length) ([x0], L0) ?_ ⟨List.pairwise_singleton .., by rw [hL0]; exact List.Perm.refl _, Nat.le_refl _⟩ ?_
    · have e1 : [x0] ++ L0 = q1 ++ q2.filter (notIn m1) := by rw [← hL, hL0]; rfl
      simp only [e1]
      exact Weak.same (by simp -dsimp [hV]) (by simp -dsimp [hV]) (by first | rfl | (simp [closedSt, Av.ids, Ow.ids, Cl.ids, Go.Smd.keys]; done))
    · rintro ⟨ss, rest⟩ ⟨hso, hpm, h1l⟩ K hK
      dsimp only at hso hpm h1l hK ⊢
      have hlen := hpm.length_eq
      rw [List.length_append] at hlen
      have hnd2' : (ss ++ rest).Nodup := hpm.nodup_iff.2 hLnd
      cases rest with
      | nil =>
        simp only [List.append_nil] at hlen hnd2' hpm ⊢
        have hmem : ∀ q, q ∈ ss ↔ q ∈ m1.map (·.1) ∨ q ∈ m2.map (·.1) := fun q => by rw [hpm.mem_iff]; exact hin q
        have hlt : ¬ ((ss.length : Int) < ss.length) := by omega
        have hl9 : ss.length ≤ 9223372036854775807 := by omega
        (repeat' (first
                                                            | (with_reducible refine br_d (fun _ => ?_) (fun _ => ?_))
                                                            | (with_reducible refine br_i (fun _ => ?_) (fun _ => ?_))
                                                            | ((with_reducible apply nd_next); (case hx => simp -dsimp [hlt, hl9]; first | done | with_reducible rfl); (case hid => simp -dsimp [hlt, hl9]; first | done | with_reducible rfl | exact ⟨rfl, rfl, rfl⟩ | exact ⟨rfl, rfl⟩); (case' h1 => intro _ _ _); (case' h0 => intro _))
                                                            | ((with_reducible apply nd_entry); (case hx => simp -dsimp [hlt, hl9]; first | done | with_reducible rfl); (case hid => simp -dsimp [hlt, hl9]; first | done | with_reducible rfl | exact ⟨rfl, rfl, rfl⟩ | exact ⟨rfl, rfl⟩))
                                                            | ((with_reducible apply nd_range); (case hx => simp -dsimp [hlt, hl9]; with_reducible rfl); (case hT => simp -dsimp [hlt, hl9]); (case hnd => assumption); (case hz => simp -dsimp [hlt, hl9]))
                                                            | (with_reducible refine dn_i follows_any (by kernel_rfl) ?_)
                                                            | (with_reducible exact done_eq rfl)
                                                            | (simp -dsimp [hlt, hl9]))); (all_goals try with_reducible refine done_eq ?_)
        have h1l' : 0 < ss.length := h1l
        refine ex_loop (fun i : Nat => if i = 0 then ⟨[(0, aAlloc), (2, .c (.d (dM m2))), (3, .c (.fn 1000000000)), (5, .c (.own 5 0)), (92, .c (.gs 40 V)), (93, aV (.int .i64 ss.length)), (94, aV (.int .i64 0))], [(40, .arr V tStr (sRow (ss))), (5, .cells [.d (dM m1)] 88), (1000000000, .clo (.fn fZip1) [.own 1000000001 0]), (1000000001, cZ (.d (.v (.slice none 0 0))))]⟩
            else ⟨[(0, aAlloc), (2, .c (.d (dM m2))), (3, .c (.fn 1000000000)), (5, .c (.own 5 0)), (92, .c (.gs 40 V)), (93, aV (.int .i64 ss.length)), (94, aV (.int .i64 i))], [(40, .arr V tStr (sRow (ss))), (5, .cells [.d (dM m1)] 88), (1000000000, .clo (.fn fZip1) [.own 1000000001 0]), (1000000001, cZ (.gs 121026 i)), (121026, .arr i tZ ((ss.take i).map (zRow m1 m2)))]⟩)
          (fun i => i ≤ ss.length) (fun i => ss.length - i) 0 ?_ (Nat.zero_le _) ?_
        · rw [if_pos rfl]
          exact Weak.same (by simp -dsimp) (by simp -dsimp) (by first | rfl | (simp [closedSt, Av.ids, Ow.ids, Cl.ids, Go.Smd.keys]; done))
        · intro i hi K3 hK3
          have hssp : 0 < ss.length := h1l'
          by_cases hlt2 : i < ss.length
          · have hi2 : (i : Int) < ss.length := by omega
            have hi0 : (0 : Int) ≤ (i : Int) := by omega
            have hwk : IntKind.wrap .i64 ((i : Int) + 1) = (i : Int) + 1 := by rw [wrap_i64] <;> omega
            obtain ⟨k, hk⟩ : ∃ k, k = ss[i] := ⟨_, rfl⟩
            have hgk : ss[i] = k := hk.symm
            have htk : (ss.take (i + 1)).map (zRow m1 m2) = (ss.take i).map (zRow m1 m2) ++ [zRow m1 m2 k] := by rw [List.take_succ_eq_append_getElem hlt2, hgk, List.map_append]; rfl
            have hkm : k ∈ m1.map (·.1) ∨ k ∈ m2.map (·.1) := (hmem k).1 (hk ▸ List.getElem_mem hlt2)
            have hne1 : ¬ i + 1 = 0 := by omega
            have hzl : ((ss.take i).map (zRow m1 m2)).length = i := by rw [List.length_map, List.length_take]; omega
            cases hg1 : mget m1 k with
            | none =>
              cases hg2 : mget m2 k with
              | none =>
                rcases hkm with h | h
                · have := mget_some h; rw [hg1] at this; cases this
                · have := mget_some h; rw [hg2] at this; cases this
              | some y =>
                obtain ⟨a', b', c', d', e', f', hy⟩ : ∃ a b c d e f, fromT y = .mk a b c d e f := by cases fromT y; exact ⟨_, _, _, _, _, _, rfl⟩
                have hfy := fromValue_x y (f2 (k, y) (mget_mem hg2)) hy
                have hz : zRow m1 m2 k = [dS k, .v (.slice none 0 0), .sl tGV [[dI a', dI b', dF c', dS d', dStrs e', dGVs f']]] := by simp only [zRow, hg1, hg2, gvO, oSl, gvD_mk, List.map_nil, List.map_cons, hy]
                by_cases h0 : i = 0
                · subst h0
                  simp only [List.take_zero, List.map_nil, List.nil_append, hz] at htk
                  rw [if_pos rfl]
                  (repeat' (first
                                                            | (with_reducible refine br_d (fun _ => ?_) (fun _ => ?_))
                                                            | (with_reducible refine br_i (fun _ => ?_) (fun _ => ?_))
                                                            | (with_reducible refine nd_v (getUsing_a m1 hnd1 _) (by first | rfl | (simp -dsimp [hi2, hi0, hlt2, hgk, hwk, hg1, hg2, dG, toDs, w1, clo_bsl]; done)) ?_)
                                                            | (with_reducible refine nw_v (getUsing_a m1 hnd1 _) rfl (by first | rfl | (simp -dsimp [hi2, hi0, hlt2, hgk, hwk, hg1, hg2, dG, toDs, w1, clo_bsl]; done)) (by first | rfl | (simp -dsimp [hi2, hi0, hlt2, hgk, hwk, hg1, hg2, dG, toDs, w1, clo_bsl]; done)) ?_)
                                                            | (with_reducible refine nd_v (getUsing_a m2 hnd2 _) (by first | rfl | (simp -dsimp [hi2, hi0, hlt2, hgk, hwk, hg1, hg2, dG, toDs, w1, clo_bsl]; done)) ?_)
                                                            | (with_reducible refine nw_v (getUsing_a m2 hnd2 _) rfl (by first | rfl | (simp -dsimp [hi2, hi0, hlt2, hgk, hwk, hg1, hg2, dG, toDs, w1, clo_bsl]; done)) (by first | rfl | (simp -dsimp [hi2, hi0, hlt2, hgk, hwk, hg1, hg2, dG, toDs, w1, clo_bsl]; done)) ?_)
                                                            | ((with_reducible apply nd_i [] (f := 85)); (case hc => simp -dsimp [hi2, hi0, hlt2, hgk, hwk, hg1, hg2, dG, toDs, w1, clo_bsl]; first | exact ⟨rfl, rfl⟩ | exact ⟨rfl, rfl, rfl⟩); (case hf => exact Try.func85); (case hA => simp -dsimp [hi2, hi0, hlt2, hgk, hwk, hg1, hg2, dG, toDs, w1, clo_bsl] <;> with_reducible rfl); (case hok => simp -dsimp [hi2, hi0, hlt2, hgk, hwk, hg1, hg2, dG, toDs, w1, clo_bsl]); (case hY => simp -dsimp [hi2, hi0, hlt2, hgk, hwk, hg1, hg2, dG, toDs, w1, clo_bsl] <;> with_reducible rfl); (case hO => simp -dsimp [hi2, hi0, hlt2, hgk, hwk, hg1, hg2, dG, toDs, w1, clo_bsl] <;> with_reducible rfl); (case hn => kernel_rfl); (case hb => rfl); (case hN => exact Try.ntmps85); (case hrs => exact Try.results85); (case hl => exact Nat.le_of_ble_eq_true (by kernel_rfl)); intro hok w0 S0)
                                                            | (with_reducible refine nd_v (hfy) (by first | rfl | (simp -dsimp [hi2, hi0, hlt2, hgk, hwk, hg1, hg2, dG, toDs, w1, clo_bsl]; done)) ?_)
                                                            | (with_reducible refine nw_v (hfy) rfl (by first | rfl | (simp -dsimp [hi2, hi0, hlt2, hgk, hwk, hg1, hg2, dG, toDs, w1, clo_bsl]; done)) (by first | rfl | (simp -dsimp [hi2, hi0, hlt2, hgk, hwk, hg1, hg2, dG, toDs, w1, clo_bsl]; done)) ?_)
                                                            | ((with_reducible apply nd_f (F := [21])); (case hw => simp -dsimp [hi2, hi0, hlt2, hgk, hwk, hg1, hg2, dG, toDs, w1, clo_bsl]; with_reducible rfl))
                                                            | ((with_reducible apply nd_i [] (f := 156)); (case hc => simp -dsimp [hi2, hi0, hlt2, hgk, hwk, hg1, hg2, dG, toDs, w1, clo_bsl]; first | exact ⟨rfl, rfl⟩ | exact ⟨rfl, rfl, rfl⟩); (case hf => exact Try.func156); (case hA => simp -dsimp [hi2, hi0, hlt2, hgk, hwk, hg1, hg2, dG, toDs, w1, clo_bsl] <;> with_reducible rfl); (case hok => simp -dsimp [hi2, hi0, hlt2, hgk, hwk, hg1, hg2, dG, toDs, w1, clo_bsl]); (case hY => simp -dsimp [hi2, hi0, hlt2, hgk, hwk, hg1, hg2, dG, toDs, w1, clo_bsl] <;> with_reducible rfl); (case hO => simp -dsimp [hi2, hi0, hlt2, hgk, hwk, hg1, hg2, dG, toDs, w1, clo_bsl] <;> with_reducible rfl); (case hn => kernel_rfl); (case hb => rfl); (case hN => exact Try.ntmps156); (case hrs => exact Try.results156); (case hl => exact Nat.le_of_ble_eq_true (by kernel_rfl)); intro hok w0 S0)
                                                            | ((with_reducible apply nd_next); (case hx => simp -dsimp [hi2, hi0, hlt2, hgk, hwk, hg1, hg2, dG, toDs, w1, clo_bsl]; first | done | with_reducible rfl); (case hid => simp -dsimp [hi2, hi0, hlt2, hgk, hwk, hg1, hg2, dG, toDs, w1, clo_bsl]; first | done | with_reducible rfl | exact ⟨rfl, rfl, rfl⟩ | exact ⟨rfl, rfl⟩); (case' h1 => intro _ _ _); (case' h0 => intro _))
                                                            | ((with_reducible apply nd_entry); (case hx => simp -dsimp [hi2, hi0, hlt2, hgk, hwk, hg1, hg2, dG, toDs, w1, clo_bsl]; first | done | with_reducible rfl); (case hid => simp -dsimp [hi2, hi0, hlt2, hgk, hwk, hg1, hg2, dG, toDs, w1, clo_bsl]; first | done | with_reducible rfl | exact ⟨rfl, rfl, rfl⟩ | exact ⟨rfl, rfl⟩))
                                                            | ((with_reducible apply nd_range); (case hx => simp -dsimp [hi2, hi0, hlt2, hgk, hwk, hg1, hg2, dG, toDs, w1, clo_bsl]; with_reducible rfl); (case hT => simp -dsimp [hi2, hi0, hlt2, hgk, hwk, hg1, hg2, dG, toDs, w1, clo_bsl]); (case hnd => assumption); (case hz => simp -dsimp [hi2, hi0, hlt2, hgk, hwk, hg1, hg2, dG, toDs, w1, clo_bsl]))
                                                            | (with_reducible refine dn_i follows_any (by kernel_rfl) ?_)
                                                            | (with_reducible exact done_eq rfl)
                                                            | (simp -dsimp [hi2, hi0, hlt2, hgk, hwk, hg1, hg2, dG, toDs, w1, clo_bsl]))); (all_goals try with_reducible refine done_eq ?_)
                  refine hK3 _ 1 ?_ (by omega) (by omega)
                  rw [if_neg (by decide), htk]
                  exact Weak.same (by simp -dsimp) (by simp -dsimp) (by first | rfl | (simp [closedSt, Av.ids, Ow.ids, Cl.ids, Go.Smd.keys]; done))
                · rw [if_neg h0]
                  obtain ⟨R0, hR0⟩ : ∃ R0, R0 = (ss.take i).map (zRow m1 m2) := ⟨_, rfl⟩
                  rw [← hR0] at htk hzl
                  rw [hz] at htk
                  have hb : (i + 1) * 64 ≤ 140737488351232 := by omega
                  rw [← hR0]
                  (repeat' (first
                                                            | (with_reducible refine br_d (fun _ => ?_) (fun _ => ?_))
                                                            | (with_reducible refine br_i (fun _ => ?_) (fun _ => ?_))
                                                            | (with_reducible refine nd_v (getUsing_a m1 hnd1 _) (by first | rfl | (simp -dsimp [hi2, hi0, hlt2, hgk, hwk, hg1, hg2, dG, toDs, w1, clo_bsl, hzl, hb]; done)) ?_)
                                                            | (with_reducible refine nw_v (getUsing_a m1 hnd1 _) rfl (by first | rfl | (simp -dsimp [hi2, hi0, hlt2, hgk, hwk, hg1, hg2, dG, toDs, w1, clo_bsl, hzl, hb]; done)) (by first | rfl | (simp -dsimp [hi2, hi0, hlt2, hgk, hwk, hg1, hg2, dG, toDs, w1, clo_bsl, hzl, hb]; done)) ?_)
                                                            | (with_reducible refine nd_v (getUsing_a m2 hnd2 _) (by first | rfl | (simp -dsimp [hi2, hi0, hlt2, hgk, hwk, hg1, hg2, dG, toDs, w1, clo_bsl, hzl, hb]; done)) ?_)
                                                            | (with_reducible refine nw_v (getUsing_a m2 hnd2 _) rfl (by first | rfl | (simp -dsimp [hi2, hi0, hlt2, hgk, hwk, hg1, hg2, dG, toDs, w1, clo_bsl, hzl, hb]; done)) (by first | rfl | (simp -dsimp [hi2, hi0, hlt2, hgk, hwk, hg1, hg2, dG, toDs, w1, clo_bsl, hzl, hb]; done)) ?_)
                                                            | ((with_reducible apply nd_i [] (f := 85)); (case hc => simp -dsimp [hi2, hi0, hlt2, hgk, hwk, hg1, hg2, dG, toDs, w1, clo_bsl, hzl, hb]; first | exact ⟨rfl, rfl⟩ | exact ⟨rfl, rfl, rfl⟩); (case hf => exact Try.func85); (case hA => simp -dsimp [hi2, hi0, hlt2, hgk, hwk, hg1, hg2, dG, toDs, w1, clo_bsl, hzl, hb] <;> with_reducible rfl); (case hok => simp -dsimp [hi2, hi0, hlt2, hgk, hwk, hg1, hg2, dG, toDs, w1, clo_bsl, hzl, hb]); (case hY => simp -dsimp [hi2, hi0, hlt2, hgk, hwk, hg1, hg2, dG, toDs, w1, clo_bsl, hzl, hb] <;> with_reducible rfl); (case hO => simp -dsimp [hi2, hi0, hlt2, hgk, hwk, hg1, hg2, dG, toDs, w1, clo_bsl, hzl, hb] <;> with_reducible rfl); (case hn => kernel_rfl); (case hb => rfl); (case hN => exact Try.ntmps85); (case hrs => exact Try.results85); (case hl => exact Nat.le_of_ble_eq_true (by kernel_rfl)); intro hok w0 S0)
                                                            | (with_reducible refine nd_v (hfy) (by first | rfl | (simp -dsimp [hi2, hi0, hlt2, hgk, hwk, hg1, hg2, dG, toDs, w1, clo_bsl, hzl, hb]; done)) ?_)
                                                            | (with_reducible refine nw_v (hfy) rfl (by first | rfl | (simp -dsimp [hi2, hi0, hlt2, hgk, hwk, hg1, hg2, dG, toDs, w1, clo_bsl, hzl, hb]; done)) (by first | rfl | (simp -dsimp [hi2, hi0, hlt2, hgk, hwk, hg1, hg2, dG, toDs, w1, clo_bsl, hzl, hb]; done)) ?_)
                                                            | ((with_reducible apply nd_f (F := [21])); (case hw => simp -dsimp [hi2, hi0, hlt2, hgk, hwk, hg1, hg2, dG, toDs, w1, clo_bsl, hzl, hb]; with_reducible rfl))
                                                            | ((with_reducible apply nd_i [] (f := 156)); (case hc => simp -dsimp [hi2, hi0, hlt2, hgk, hwk, hg1, hg2, dG, toDs, w1, clo_bsl, hzl, hb]; first | exact ⟨rfl, rfl⟩ | exact ⟨rfl, rfl, rfl⟩); (case hf => exact Try.func156); (case hA => simp -dsimp [hi2, hi0, hlt2, hgk, hwk, hg1, hg2, dG, toDs, w1, clo_bsl, hzl, hb] <;> with_reducible rfl); (case hok => simp -dsimp [hi2, hi0, hlt2, hgk, hwk, hg1, hg2, dG, toDs, w1, clo_bsl, hzl, hb]); (case hY => simp -dsimp [hi2, hi0, hlt2, hgk, hwk, hg1, hg2, dG, toDs, w1, clo_bsl, hzl, hb] <;> with_reducible rfl); (case hO => simp -dsimp [hi2, hi0, hlt2, hgk, hwk, hg1, hg2, dG, toDs, w1, clo_bsl, hzl, hb] <;> with_reducible rfl); (case hn => kernel_rfl); (case hb => rfl); (case hN => exact Try.ntmps156); (case hrs => exact Try.results156); (case hl => exact Nat.le_of_ble_eq_true (by kernel_rfl)); intro hok w0 S0)
                                                            | ((with_reducible apply nd_next); (case hx => simp -dsimp [hi2, hi0, hlt2, hgk, hwk, hg1, hg2, dG, toDs, w1, clo_bsl, hzl, hb]; first | done | with_reducible rfl); (case hid => simp -dsimp [hi2, hi0, hlt2, hgk, hwk, hg1, hg2, dG, toDs, w1, clo_bsl, hzl, hb]; first | done | with_reducible rfl | exact ⟨rfl, rfl, rfl⟩ | exact ⟨rfl, rfl⟩); (case' h1 => intro _ _ _); (case' h0 => intro _))
                                                            | ((with_reducible apply nd_entry); (case hx => simp -dsimp [hi2, hi0, hlt2, hgk, hwk, hg1, hg2, dG, toDs, w1, clo_bsl, hzl, hb]; first | done | with_reducible rfl); (case hid => simp -dsimp [hi2, hi0, hlt2, hgk, hwk, hg1, hg2, dG, toDs, w1, clo_bsl, hzl, hb]; first | done | with_reducible rfl | exact ⟨rfl, rfl, rfl⟩ | exact ⟨rfl, rfl⟩))
                                                            | ((with_reducible apply nd_range); (case hx => simp -dsimp [hi2, hi0, hlt2, hgk, hwk, hg1, hg2, dG, toDs, w1, clo_bsl, hzl, hb]; with_reducible rfl); (case hT => simp -dsimp [hi2, hi0, hlt2, hgk, hwk, hg1, hg2, dG, toDs, w1, clo_bsl, hzl, hb]); (case hnd => assumption); (case hz => simp -dsimp [hi2, hi0, hlt2, hgk, hwk, hg1, hg2, dG, toDs, w1, clo_bsl, hzl, hb]))
                                                            | (with_reducible refine dn_i follows_any (by kernel_rfl) ?_)
                                                            | (with_reducible exact done_eq rfl)
                                                            | (simp -dsimp [hi2, hi0, hlt2, hgk, hwk, hg1, hg2, dG, toDs, w1, clo_bsl, hzl, hb]))); (all_goals try with_reducible refine done_eq ?_)
                  refine hK3 _ (i + 1) ?_ (by omega) (by omega)
                  rw [if_neg hne1, htk]
                  exact Weak.same (by simp -dsimp) (by simp -dsimp) (by first | rfl | (simp [closedSt, Av.ids, Ow.ids, Cl.ids, Go.Smd.keys]; done))
            | some x =>
              cases hg2 : mget m2 k with
              | none =>
                obtain ⟨a, b, c, d, e, f, hx⟩ : ∃ a b c d e f, fromT x = .mk a b c d e f := by cases fromT x; exact ⟨_, _, _, _, _, _, rfl⟩
                have hfx := fromValue_x x (f1 (k, x) (mget_mem hg1)) hx
                have hz : zRow m1 m2 k = [dS k, .sl tGV [[dI a, dI b, dF c, dS d, dStrs e, dGVs f]], .v (.slice none 0 0)] := by simp only [zRow, hg1, hg2, gvO, oSl, gvD_mk, List.map_nil, List.map_cons, hx]
                by_cases h0 : i = 0
                · subst h0
                  simp only [List.take_zero, List.map_nil, List.nil_append, hz] at htk
                  rw [if_pos rfl]
                  (repeat' (first
                                                            | (with_reducible refine br_d (fun _ => ?_) (fun _ => ?_))
                                                            | (with_reducible refine br_i (fun _ => ?_) (fun _ => ?_))
                                                            | (with_reducible refine nd_v (getUsing_a m1 hnd1 _) (by first | rfl | (simp -dsimp [hi2, hi0, hlt2, hgk, hwk, hg1, hg2, dG, toDs, w1, clo_bsl]; done)) ?_)
                                                            | (with_reducible refine nw_v (getUsing_a m1 hnd1 _) rfl (by first | rfl | (simp -dsimp [hi2, hi0, hlt2, hgk, hwk, hg1, hg2, dG, toDs, w1, clo_bsl]; done)) (by first | rfl | (simp -dsimp [hi2, hi0, hlt2, hgk, hwk, hg1, hg2, dG, toDs, w1, clo_bsl]; done)) ?_)
                                                            | (with_reducible refine nd_v (getUsing_a m2 hnd2 _) (by first | rfl | (simp -dsimp [hi2, hi0, hlt2, hgk, hwk, hg1, hg2, dG, toDs, w1, clo_bsl]; done)) ?_)
                                                            | (with_reducible refine nw_v (getUsing_a m2 hnd2 _) rfl (by first | rfl | (simp -dsimp [hi2, hi0, hlt2, hgk, hwk, hg1, hg2, dG, toDs, w1, clo_bsl]; done)) (by first | rfl | (simp -dsimp [hi2, hi0, hlt2, hgk, hwk, hg1, hg2, dG, toDs, w1, clo_bsl]; done)) ?_)
                                                            | ((with_reducible apply nd_i [] (f := 85)); (case hc => simp -dsimp [hi2, hi0, hlt2, hgk, hwk, hg1, hg2, dG, toDs, w1, clo_bsl]; first | exact ⟨rfl, rfl⟩ | exact ⟨rfl, rfl, rfl⟩); (case hf => exact Try.func85); (case hA => simp -dsimp [hi2, hi0, hlt2, hgk, hwk, hg1, hg2, dG, toDs, w1, clo_bsl] <;> with_reducible rfl); (case hok => simp -dsimp [hi2, hi0, hlt2, hgk, hwk, hg1, hg2, dG, toDs, w1, clo_bsl]); (case hY => simp -dsimp [hi2, hi0, hlt2, hgk, hwk, hg1, hg2, dG, toDs, w1, clo_bsl] <;> with_reducible rfl); (case hO => simp -dsimp [hi2, hi0, hlt2, hgk, hwk, hg1, hg2, dG, toDs, w1, clo_bsl] <;> with_reducible rfl); (case hn => kernel_rfl); (case hb => rfl); (case hN => exact Try.ntmps85); (case hrs => exact Try.results85); (case hl => exact Nat.le_of_ble_eq_true (by kernel_rfl)); intro hok w0 S0)
                                                            | (with_reducible refine nd_v (hfx) (by first | rfl | (simp -dsimp [hi2, hi0, hlt2, hgk, hwk, hg1, hg2, dG, toDs, w1, clo_bsl]; done)) ?_)
                                                            | (with_reducible refine nw_v (hfx) rfl (by first | rfl | (simp -dsimp [hi2, hi0, hlt2, hgk, hwk, hg1, hg2, dG, toDs, w1, clo_bsl]; done)) (by first | rfl | (simp -dsimp [hi2, hi0, hlt2, hgk, hwk, hg1, hg2, dG, toDs, w1, clo_bsl]; done)) ?_)
                                                            | ((with_reducible apply nd_f (F := [15])); (case hw => simp -dsimp [hi2, hi0, hlt2, hgk, hwk, hg1, hg2, dG, toDs, w1, clo_bsl]; with_reducible rfl))
                                                            | ((with_reducible apply nd_i [] (f := 156)); (case hc => simp -dsimp [hi2, hi0, hlt2, hgk, hwk, hg1, hg2, dG, toDs, w1, clo_bsl]; first | exact ⟨rfl, rfl⟩ | exact ⟨rfl, rfl, rfl⟩); (case hf => exact Try.func156); (case hA => simp -dsimp [hi2, hi0, hlt2, hgk, hwk, hg1, hg2, dG, toDs, w1, clo_bsl] <;> with_reducible rfl); (case hok => simp -dsimp [hi2, hi0, hlt2, hgk, hwk, hg1, hg2, dG, toDs, w1, clo_bsl]); (case hY => simp -dsimp [hi2, hi0, hlt2, hgk, hwk, hg1, hg2, dG, toDs, w1, clo_bsl] <;> with_reducible rfl); (case hO => simp -dsimp [hi2, hi0, hlt2, hgk, hwk, hg1, hg2, dG, toDs, w1, clo_bsl] <;> with_reducible rfl); (case hn => kernel_rfl); (case hb => rfl); (case hN => exact Try.ntmps156); (case hrs => exact Try.results156); (case hl => exact Nat.le_of_ble_eq_true (by kernel_rfl)); intro hok w0 S0)
                                                            | ((with_reducible apply nd_next); (case hx => simp -dsimp [hi2, hi0, hlt2, hgk, hwk, hg1, hg2, dG, toDs, w1, clo_bsl]; first | done | with_reducible rfl); (case hid => simp -dsimp [hi2, hi0, hlt2, hgk, hwk, hg1, hg2, dG, toDs, w1, clo_bsl]; first | done | with_reducible rfl | exact ⟨rfl, rfl, rfl⟩ | exact ⟨rfl, rfl⟩); (case' h1 => intro _ _ _); (case' h0 => intro _))
                                                            | ((with_reducible apply nd_entry); (case hx => simp -dsimp [hi2, hi0, hlt2, hgk, hwk, hg1, hg2, dG, toDs, w1, clo_bsl]; first | done | with_reducible rfl); (case hid => simp -dsimp [hi2, hi0, hlt2, hgk, hwk, hg1, hg2, dG, toDs, w1, clo_bsl]; first | done | with_reducible rfl | exact ⟨rfl, rfl, rfl⟩ | exact ⟨rfl, rfl⟩))
                                                            | ((with_reducible apply nd_range); (case hx => simp -dsimp [hi2, hi0, hlt2, hgk, hwk, hg1, hg2, dG, toDs, w1, clo_bsl]; with_reducible rfl); (case hT => simp -dsimp [hi2, hi0, hlt2, hgk, hwk, hg1, hg2, dG, toDs, w1, clo_bsl]); (case hnd => assumption); (case hz => simp -dsimp [hi2, hi0, hlt2, hgk, hwk, hg1, hg2, dG, toDs, w1, clo_bsl]))
                                                            | (with_reducible refine dn_i follows_any (by kernel_rfl) ?_)
                                                            | (with_reducible exact done_eq rfl)
                                                            | (simp -dsimp [hi2, hi0, hlt2, hgk, hwk, hg1, hg2, dG, toDs, w1, clo_bsl]))); (all_goals try with_reducible refine done_eq ?_)
                  refine hK3 _ 1 ?_ (by omega) (by omega)
                  rw [if_neg (by decide), htk]
                  exact Weak.same (by simp -dsimp) (by simp -dsimp) (by first | rfl | (simp [closedSt, Av.ids, Ow.ids, Cl.ids, Go.Smd.keys]; done))
                · rw [if_neg h0]
                  obtain ⟨R0, hR0⟩ : ∃ R0, R0 = (ss.take i).map (zRow m1 m2) := ⟨_, rfl⟩
                  rw [← hR0] at htk hzl
                  rw [hz] at htk
                  have hb : (i + 1) * 64 ≤ 140737488351232 := by omega
                  rw [← hR0]
                  (repeat' (first
                                                            | (with_reducible refine br_d (fun _ => ?_) (fun _ => ?_))
                                                            | (with_reducible refine br_i (fun _ => ?_) (fun _ => ?_))
                                                            | (with_reducible refine nd_v (getUsing_a m1 hnd1 _) (by first | rfl | (simp -dsimp [hi2, hi0, hlt2, hgk, hwk, hg1, hg2, dG, toDs, w1, clo_bsl, hzl, hb]; done)) ?_)
                                                            | (with_reducible refine nw_v (getUsing_a m1 hnd1 _) rfl (by first | rfl | (simp -dsimp [hi2, hi0, hlt2, hgk, hwk, hg1, hg2, dG, toDs, w1, clo_bsl, hzl, hb]; done)) (by first | rfl | (simp -dsimp [hi2, hi0, hlt2, hgk, hwk, hg1, hg2, dG, toDs, w1, clo_bsl, hzl, hb]; done)) ?_)
                                                            | (with_reducible refine nd_v (getUsing_a m2 hnd2 _) (by first | rfl | (simp -dsimp [hi2, hi0, hlt2, hgk, hwk, hg1, hg2, dG, toDs, w1, clo_bsl, hzl, hb]; done)) ?_)
                                                            | (with_reducible refine nw_v (getUsing_a m2 hnd2 _) rfl (by first | rfl | (simp -dsimp [hi2, hi0, hlt2, hgk, hwk, hg1, hg2, dG, toDs, w1, clo_bsl, hzl, hb]; done)) (by first | rfl | (simp -dsimp [hi2, hi0, hlt2, hgk, hwk, hg1, hg2, dG, toDs, w1, clo_bsl, hzl, hb]; done)) ?_)
                                                            | ((with_reducible apply nd_i [] (f := 85)); (case hc => simp -dsimp [hi2, hi0, hlt2, hgk, hwk, hg1, hg2, dG, toDs, w1, clo_bsl, hzl, hb]; first | exact ⟨rfl, rfl⟩ | exact ⟨rfl, rfl, rfl⟩); (case hf => exact Try.func85); (case hA => simp -dsimp [hi2, hi0, hlt2, hgk, hwk, hg1, hg2, dG, toDs, w1, clo_bsl, hzl, hb] <;> with_reducible rfl); (case hok => simp -dsimp [hi2, hi0, hlt2, hgk, hwk, hg1, hg2, dG, toDs, w1, clo_bsl, hzl, hb]); (case hY => simp -dsimp [hi2, hi0, hlt2, hgk, hwk, hg1, hg2, dG, toDs, w1, clo_bsl, hzl, hb] <;> with_reducible rfl); (case hO => simp -dsimp [hi2, hi0, hlt2, hgk, hwk, hg1, hg2, dG, toDs, w1, clo_bsl, hzl, hb] <;> with_reducible rfl); (case hn => kernel_rfl); (case hb => rfl); (case hN => exact Try.ntmps85); (case hrs => exact Try.results85); (case hl => exact Nat.le_of_ble_eq_true (by kernel_rfl)); intro hok w0 S0)
                                                            | (with_reducible refine nd_v (hfx) (by first | rfl | (simp -dsimp [hi2, hi0, hlt2, hgk, hwk, hg1, hg2, dG, toDs, w1, clo_bsl, hzl, hb]; done)) ?_)
                                                            | (with_reducible refine nw_v (hfx) rfl (by first | rfl | (simp -dsimp [hi2, hi0, hlt2, hgk, hwk, hg1, hg2, dG, toDs, w1, clo_bsl, hzl, hb]; done)) (by first | rfl | (simp -dsimp [hi2, hi0, hlt2, hgk, hwk, hg1, hg2, dG, toDs, w1, clo_bsl, hzl, hb]; done)) ?_)
                                                            | ((with_reducible apply nd_f (F := [15])); (case hw => simp -dsimp [hi2, hi0, hlt2, hgk, hwk, hg1, hg2, dG, toDs, w1, clo_bsl, hzl, hb]; with_reducible rfl))
                                                            | ((with_reducible apply nd_i [] (f := 156)); (case hc => simp -dsimp [hi2, hi0, hlt2, hgk, hwk, hg1, hg2, dG, toDs, w1, clo_bsl, hzl, hb]; first | exact ⟨rfl, rfl⟩ | exact ⟨rfl, rfl, rfl⟩); (case hf => exact Try.func156); (case hA => simp -dsimp [hi2, hi0, hlt2, hgk, hwk, hg1, hg2, dG, toDs, w1, clo_bsl, hzl, hb] <;> with_reducible rfl); (case hok => simp -dsimp [hi2, hi0, hlt2, hgk, hwk, hg1, hg2, dG, toDs, w1, clo_bsl, hzl, hb]); (case hY => simp -dsimp [hi2, hi0, hlt2, hgk, hwk, hg1, hg2, dG, toDs, w1, clo_bsl, hzl, hb] <;> with_reducible rfl); (case hO => simp -dsimp [hi2, hi0, hlt2, hgk, hwk, hg1, hg2, dG, toDs, w1, clo_bsl, hzl, hb] <;> with_reducible rfl); (case hn => kernel_rfl); (case hb => rfl); (case hN => exact Try.ntmps156); (case hrs => exact Try.results156); (case hl => exact Nat.le_of_ble_eq_true (by kernel_rfl)); intro hok w0 S0)
                                                            | ((with_reducible apply nd_next); (case hx => simp -dsimp [hi2, hi0, hlt2, hgk, hwk, hg1, hg2, dG, toDs, w1, clo_bsl, hzl, hb]; first | done | with_reducible rfl); (case hid => simp -dsimp [hi2, hi0, hlt2, hgk, hwk, hg1, hg2, dG, toDs, w1, clo_bsl, hzl, hb]; first | done | with_reducible rfl | exact ⟨rfl, rfl, rfl⟩ | exact ⟨rfl, rfl⟩); (case' h1 => intro _ _ _); (case' h0 => intro _))
                                                            | ((with_reducible apply nd_entry); (case hx => simp -dsimp [hi2, hi0, hlt2, hgk, hwk, hg1, hg2, dG, toDs, w1, clo_bsl, hzl, hb]; first | done | with_reducible rfl); (case hid => simp -dsimp [hi2, hi0, hlt2, hgk, hwk, hg1, hg2, dG, toDs, w1, clo_bsl, hzl, hb]; first | done | with_reducible rfl | exact ⟨rfl, rfl, rfl⟩ | exact ⟨rfl, rfl⟩))
                                                            | ((with_reducible apply nd_range); (case hx => simp -dsimp [hi2, hi0, hlt2, hgk, hwk, hg1, hg2, dG, toDs, w1, clo_bsl, hzl, hb]; with_reducible rfl); (case hT => simp -dsimp [hi2, hi0, hlt2, hgk, hwk, hg1, hg2, dG, toDs, w1, clo_bsl, hzl, hb]); (case hnd => assumption); (case hz => simp -dsimp [hi2, hi0, hlt2, hgk, hwk, hg1, hg2, dG, toDs, w1, clo_bsl, hzl, hb]))
                                                            | (with_reducible refine dn_i follows_any (by kernel_rfl) ?_)
                                                            | (with_reducible exact done_eq rfl)
                                                            | (simp -dsimp [hi2, hi0, hlt2, hgk, hwk, hg1, hg2, dG, toDs, w1, clo_bsl, hzl, hb]))); (all_goals try with_reducible refine done_eq ?_)
                  refine hK3 _ (i + 1) ?_ (by omega) (by omega)
                  rw [if_neg hne1, htk]
                  exact Weak.same (by simp -dsimp) (by simp -dsimp) (by first | rfl | (simp [closedSt, Av.ids, Ow.ids, Cl.ids, Go.Smd.keys]; done))
              | some y =>
                obtain ⟨a, b, c, d, e, f, hx⟩ : ∃ a b c d e f, fromT x = .mk a b c d e f := by cases fromT x; exact ⟨_, _, _, _, _, _, rfl⟩
                have hfx := fromValue_x x (f1 (k, x) (mget_mem hg1)) hx
                obtain ⟨a', b', c', d', e', f', hy⟩ : ∃ a b c d e f, fromT y = .mk a b c d e f := by cases fromT y; exact ⟨_, _, _, _, _, _, rfl⟩
                have hfy := fromValue_x y (f2 (k, y) (mget_mem hg2)) hy
                have hz : zRow m1 m2 k = [dS k, .sl tGV [[dI a, dI b, dF c, dS d, dStrs e, dGVs f]], .sl tGV [[dI a', dI b', dF c', dS d', dStrs e', dGVs f']]] := by simp only [zRow, hg1, hg2, gvO, oSl, gvD_mk, List.map_nil, List.map_cons, hx, hy]
                by_cases h0 : i = 0
                · subst h0
                  simp only [List.take_zero, List.map_nil, List.nil_append, hz] at htk
                  rw [if_pos rfl]
                  (repeat' (first
                                                            | (with_reducible refine br_d (fun _ => ?_) (fun _ => ?_))
                                                            | (with_reducible refine br_i (fun _ => ?_) (fun _ => ?_))
                                                            | (with_reducible refine nd_v (getUsing_a m1 hnd1 _) (by first | rfl | (simp -dsimp [hi2, hi0, hlt2, hgk, hwk, hg1, hg2, dG, toDs, w1, clo_bsl]; done)) ?_)
                                                            | (with_reducible refine nw_v (getUsing_a m1 hnd1 _) rfl (by first | rfl | (simp -dsimp [hi2, hi0, hlt2, hgk, hwk, hg1, hg2, dG, toDs, w1, clo_bsl]; done)) (by first | rfl | (simp -dsimp [hi2, hi0, hlt2, hgk, hwk, hg1, hg2, dG, toDs, w1, clo_bsl]; done)) ?_)
                                                            | (with_reducible refine nd_v (getUsing_a m2 hnd2 _) (by first | rfl | (simp -dsimp [hi2, hi0, hlt2, hgk, hwk, hg1, hg2, dG, toDs, w1, clo_bsl]; done)) ?_)
                                                            | (with_reducible refine nw_v (getUsing_a m2 hnd2 _) rfl (by first | rfl | (simp -dsimp [hi2, hi0, hlt2, hgk, hwk, hg1, hg2, dG, toDs, w1, clo_bsl]; done)) (by first | rfl | (simp -dsimp [hi2, hi0, hlt2, hgk, hwk, hg1, hg2, dG, toDs, w1, clo_bsl]; done)) ?_)
                                                            | ((with_reducible apply nd_i [] (f := 85)); (case hc => simp -dsimp [hi2, hi0, hlt2, hgk, hwk, hg1, hg2, dG, toDs, w1, clo_bsl]; first | exact ⟨rfl, rfl⟩ | exact ⟨rfl, rfl, rfl⟩); (case hf => exact Try.func85); (case hA => simp -dsimp [hi2, hi0, hlt2, hgk, hwk, hg1, hg2, dG, toDs, w1, clo_bsl] <;> with_reducible rfl); (case hok => simp -dsimp [hi2, hi0, hlt2, hgk, hwk, hg1, hg2, dG, toDs, w1, clo_bsl]); (case hY => simp -dsimp [hi2, hi0, hlt2, hgk, hwk, hg1, hg2, dG, toDs, w1, clo_bsl] <;> with_reducible rfl); (case hO => simp -dsimp [hi2, hi0, hlt2, hgk, hwk, hg1, hg2, dG, toDs, w1, clo_bsl] <;> with_reducible rfl); (case hn => kernel_rfl); (case hb => rfl); (case hN => exact Try.ntmps85); (case hrs => exact Try.results85); (case hl => exact Nat.le_of_ble_eq_true (by kernel_rfl)); intro hok w0 S0)
                                                            | (with_reducible refine nd_v (hfx) (by first | rfl | (simp -dsimp [hi2, hi0, hlt2, hgk, hwk, hg1, hg2, dG, toDs, w1, clo_bsl]; done)) ?_)
                                                            | (with_reducible refine nw_v (hfx) rfl (by first | rfl | (simp -dsimp [hi2, hi0, hlt2, hgk, hwk, hg1, hg2, dG, toDs, w1, clo_bsl]; done)) (by first | rfl | (simp -dsimp [hi2, hi0, hlt2, hgk, hwk, hg1, hg2, dG, toDs, w1, clo_bsl]; done)) ?_)
                                                            | (with_reducible refine nd_v (hfy) (by first | rfl | (simp -dsimp [hi2, hi0, hlt2, hgk, hwk, hg1, hg2, dG, toDs, w1, clo_bsl]; done)) ?_)
                                                            | (with_reducible refine nw_v (hfy) rfl (by first | rfl | (simp -dsimp [hi2, hi0, hlt2, hgk, hwk, hg1, hg2, dG, toDs, w1, clo_bsl]; done)) (by first | rfl | (simp -dsimp [hi2, hi0, hlt2, hgk, hwk, hg1, hg2, dG, toDs, w1, clo_bsl]; done)) ?_)
                                                            | ((with_reducible apply nd_f (F := [15, 21])); (case hw => simp -dsimp [hi2, hi0, hlt2, hgk, hwk, hg1, hg2, dG, toDs, w1, clo_bsl]; with_reducible rfl))
                                                            | ((with_reducible apply nd_i [] (f := 156)); (case hc => simp -dsimp [hi2, hi0, hlt2, hgk, hwk, hg1, hg2, dG, toDs, w1, clo_bsl]; first | exact ⟨rfl, rfl⟩ | exact ⟨rfl, rfl, rfl⟩); (case hf => exact Try.func156); (case hA => simp -dsimp [hi2, hi0, hlt2, hgk, hwk, hg1, hg2, dG, toDs, w1, clo_bsl] <;> with_reducible rfl); (case hok => simp -dsimp [hi2, hi0, hlt2, hgk, hwk, hg1, hg2, dG, toDs, w1, clo_bsl]); (case hY => simp -dsimp [hi2, hi0, hlt2, hgk, hwk, hg1, hg2, dG, toDs, w1, clo_bsl] <;> with_reducible rfl); (case hO => simp -dsimp [hi2, hi0, hlt2, hgk, hwk, hg1, hg2, dG, toDs, w1, clo_bsl] <;> with_reducible rfl); (case hn => kernel_rfl); (case hb => rfl); (case hN => exact Try.ntmps156); (case hrs => exact Try.results156); (case hl => exact Nat.le_of_ble_eq_true (by kernel_rfl)); intro hok w0 S0)
                                                            | ((with_reducible apply nd_next); (case hx => simp -dsimp [hi2, hi0, hlt2, hgk, hwk, hg1, hg2, dG, toDs, w1, clo_bsl]; first | done | with_reducible rfl); (case hid => simp -dsimp [hi2, hi0, hlt2, hgk, hwk, hg1, hg2, dG, toDs, w1, clo_bsl]; first | done | with_reducible rfl | exact ⟨rfl, rfl, rfl⟩ | exact ⟨rfl, rfl⟩); (case' h1 => intro _ _ _); (case' h0 => intro _))
                                                            | ((with_reducible apply nd_entry); (case hx => simp -dsimp [hi2, hi0, hlt2, hgk, hwk, hg1, hg2, dG, toDs, w1, clo_bsl]; first | done | with_reducible rfl); (case hid => simp -dsimp [hi2, hi0, hlt2, hgk, hwk, hg1, hg2, dG, toDs, w1, clo_bsl]; first | done | with_reducible rfl | exact ⟨rfl, rfl, rfl⟩ | exact ⟨rfl, rfl⟩))
                                                            | ((with_reducible apply nd_range); (case hx => simp -dsimp [hi2, hi0, hlt2, hgk, hwk, hg1, hg2, dG, toDs, w1, clo_bsl]; with_reducible rfl); (case hT => simp -dsimp [hi2, hi0, hlt2, hgk, hwk, hg1, hg2, dG, toDs, w1, clo_bsl]); (case hnd => assumption); (case hz => simp -dsimp [hi2, hi0, hlt2, hgk, hwk, hg1, hg2, dG, toDs, w1, clo_bsl]))
                                                            | (with_reducible refine dn_i follows_any (by kernel_rfl) ?_)
                                                            | (with_reducible exact done_eq rfl)
                                                            | (simp -dsimp [hi2, hi0, hlt2, hgk, hwk, hg1, hg2, dG, toDs, w1, clo_bsl]))); (all_goals try with_reducible refine done_eq ?_)
                  refine hK3 _ 1 ?_ (by omega) (by omega)
                  rw [if_neg (by decide), htk]
                  exact Weak.same (by simp -dsimp) (by simp -dsimp) (by first | rfl | (simp [closedSt, Av.ids, Ow.ids, Cl.ids, Go.Smd.keys]; done))
                · rw [if_neg h0]
                  obtain ⟨R0, hR0⟩ : ∃ R0, R0 = (ss.take i).map (zRow m1 m2) := ⟨_, rfl⟩
                  rw [← hR0] at htk hzl
                  rw [hz] at htk
                  have hb : (i + 1) * 64 ≤ 140737488351232 := by omega
                  rw [← hR0]
                  (repeat' (first
                                                            | (with_reducible refine br_d (fun _ => ?_) (fun _ => ?_))
                                                            | (with_reducible refine br_i (fun _ => ?_) (fun _ => ?_))
                                                            | (with_reducible refine nd_v (getUsing_a m1 hnd1 _) (by first | rfl | (simp -dsimp [hi2, hi0, hlt2, hgk, hwk, hg1, hg2, dG, toDs, w1, clo_bsl, hzl, hb]; done)) ?_)
                                                            | (with_reducible refine nw_v (getUsing_a m1 hnd1 _) rfl (by first | rfl | (simp -dsimp [hi2, hi0, hlt2, hgk, hwk, hg1, hg2, dG, toDs, w1, clo_bsl, hzl, hb]; done)) (by first | rfl | (simp -dsimp [hi2, hi0, hlt2, hgk, hwk, hg1, hg2, dG, toDs, w1, clo_bsl, hzl, hb]; done)) ?_)
                                                            | (with_reducible refine nd_v (getUsing_a m2 hnd2 _) (by first | rfl | (simp -dsimp [hi2, hi0, hlt2, hgk, hwk, hg1, hg2, dG, toDs, w1, clo_bsl, hzl, hb]; done)) ?_)
                                                            | (with_reducible refine nw_v (getUsing_a m2 hnd2 _) rfl (by first | rfl | (simp -dsimp [hi2, hi0, hlt2, hgk, hwk, hg1, hg2, dG, toDs, w1, clo_bsl, hzl, hb]; done)) (by first | rfl | (simp -dsimp [hi2, hi0, hlt2, hgk, hwk, hg1, hg2, dG, toDs, w1, clo_bsl, hzl, hb]; done)) ?_)
                                                            | ((with_reducible apply nd_i [] (f := 85)); (case hc => simp -dsimp [hi2, hi0, hlt2, hgk, hwk, hg1, hg2, dG, toDs, w1, clo_bsl, hzl, hb]; first | exact ⟨rfl, rfl⟩ | exact ⟨rfl, rfl, rfl⟩); (case hf => exact Try.func85); (case hA => simp -dsimp [hi2, hi0, hlt2, hgk, hwk, hg1, hg2, dG, toDs, w1, clo_bsl, hzl, hb] <;> with_reducible rfl); (case hok => simp -dsimp [hi2, hi0, hlt2, hgk, hwk, hg1, hg2, dG, toDs, w1, clo_bsl, hzl, hb]); (case hY => simp -dsimp [hi2, hi0, hlt2, hgk, hwk, hg1, hg2, dG, toDs, w1, clo_bsl, hzl, hb] <;> with_reducible rfl); (case hO => simp -dsimp [hi2, hi0, hlt2, hgk, hwk, hg1, hg2, dG, toDs, w1, clo_bsl, hzl, hb] <;> with_reducible rfl); (case hn => kernel_rfl); (case hb => rfl); (case hN => exact Try.ntmps85); (case hrs => exact Try.results85); (case hl => exact Nat.le_of_ble_eq_true (by kernel_rfl)); intro hok w0 S0)
                                                            | (with_reducible refine nd_v (hfx) (by first | rfl | (simp -dsimp [hi2, hi0, hlt2, hgk, hwk, hg1, hg2, dG, toDs, w1, clo_bsl, hzl, hb]; done)) ?_)
                                                            | (with_reducible refine nw_v (hfx) rfl (by first | rfl | (simp -dsimp [hi2, hi0, hlt2, hgk, hwk, hg1, hg2, dG, toDs, w1, clo_bsl, hzl, hb]; done)) (by first | rfl | (simp -dsimp [hi2, hi0, hlt2, hgk, hwk, hg1, hg2, dG, toDs, w1, clo_bsl, hzl, hb]; done)) ?_)
                                                            | (with_reducible refine nd_v (hfy) (by first | rfl | (simp -dsimp [hi2, hi0, hlt2, hgk, hwk, hg1, hg2, dG, toDs, w1, clo_bsl, hzl, hb]; done)) ?_)
                                                            | (with_reducible refine nw_v (hfy) rfl (by first | rfl | (simp -dsimp [hi2, hi0, hlt2, hgk, hwk, hg1, hg2, dG, toDs, w1, clo_bsl, hzl, hb]; done)) (by first | rfl | (simp -dsimp [hi2, hi0, hlt2, hgk, hwk, hg1, hg2, dG, toDs, w1, clo_bsl, hzl, hb]; done)) ?_)
                                                            | ((with_reducible apply nd_f (F := [15, 21])); (case hw => simp -dsimp [hi2, hi0, hlt2, hgk, hwk, hg1, hg2, dG, toDs, w1, clo_bsl, hzl, hb]; with_reducible rfl))
                                                            | ((with_reducible apply nd_i [] (f := 156)); (case hc => simp -dsimp [hi2, hi0, hlt2, hgk, hwk, hg1, hg2, dG, toDs, w1, clo_bsl, hzl, hb]; first | exact ⟨rfl, rfl⟩ | exact ⟨rfl, rfl, rfl⟩); (case hf => exact Try.func156); (case hA => simp -dsimp [hi2, hi0, hlt2, hgk, hwk, hg1, hg2, dG, toDs, w1, clo_bsl, hzl, hb] <;> with_reducible rfl); (case hok => simp -dsimp [hi2, hi0, hlt2, hgk, hwk, hg1, hg2, dG, toDs, w1, clo_bsl, hzl, hb]); (case hY => simp -dsimp [hi2, hi0, hlt2, hgk, hwk, hg1, hg2, dG, toDs, w1, clo_bsl, hzl, hb] <;> with_reducible rfl); (case hO => simp -dsimp [hi2, hi0, hlt2, hgk, hwk, hg1, hg2, dG, toDs, w1, clo_bsl, hzl, hb] <;> with_reducible rfl); (case hn => kernel_rfl); (case hb => rfl); (case hN => exact Try.ntmps156); (case hrs => exact Try.results156); (case hl => exact Nat.le_of_ble_eq_true (by kernel_rfl)); intro hok w0 S0)
                                                            | ((with_reducible apply nd_next); (case hx => simp -dsimp [hi2, hi0, hlt2, hgk, hwk, hg1, hg2, dG, toDs, w1, clo_bsl, hzl, hb]; first | done | with_reducible rfl); (case hid => simp -dsimp [hi2, hi0, hlt2, hgk, hwk, hg1, hg2, dG, toDs, w1, clo_bsl, hzl, hb]; first | done | with_reducible rfl | exact ⟨rfl, rfl, rfl⟩ | exact ⟨rfl, rfl⟩); (case' h1 => intro _ _ _); (case' h0 => intro _))
                                                            | ((with_reducible apply nd_entry); (case hx => simp -dsimp [hi2, hi0, hlt2, hgk, hwk, hg1, hg2, dG, toDs, w1, clo_bsl, hzl, hb]; first | done | with_reducible rfl); (case hid => simp -dsimp [hi2, hi0, hlt2, hgk, hwk, hg1, hg2, dG, toDs, w1, clo_bsl, hzl, hb]; first | done | with_reducible rfl | exact ⟨rfl, rfl, rfl⟩ | exact ⟨rfl, rfl⟩))
                                                            | ((with_reducible apply nd_range); (case hx => simp -dsimp [hi2, hi0, hlt2, hgk, hwk, hg1, hg2, dG, toDs, w1, clo_bsl, hzl, hb]; with_reducible rfl); (case hT => simp -dsimp [hi2, hi0, hlt2, hgk, hwk, hg1, hg2, dG, toDs, w1, clo_bsl, hzl, hb]); (case hnd => assumption); (case hz => simp -dsimp [hi2, hi0, hlt2, hgk, hwk, hg1, hg2, dG, toDs, w1, clo_bsl, hzl, hb]))
                                                            | (with_reducible refine dn_i follows_any (by kernel_rfl) ?_)
                                                            | (with_reducible exact done_eq rfl)
                                                            | (simp -dsimp [hi2, hi0, hlt2, hgk, hwk, hg1, hg2, dG, toDs, w1, clo_bsl, hzl, hb]))); (all_goals try with_reducible refine done_eq ?_)
                  refine hK3 _ (i + 1) ?_ (by omega) (by omega)
                  rw [if_neg hne1, htk]
                  exact Weak.same (by simp -dsimp) (by simp -dsimp) (by first | rfl | (simp [closedSt, Av.ids, Ow.ids, Cl.ids, Go.Smd.keys]; done))
          · have e : i = ss.length := by omega
            have hi2 : ¬ ((i : Int) < ss.length) := by omega
            have h0 : ¬ i = 0 := by omega
            rw [if_neg h0]
            (repeat' (first
                                                            | (with_reducible refine br_d (fun _ => ?_) (fun _ => ?_))
                                                            | (with_reducible refine br_i (fun _ => ?_) (fun _ => ?_))
                                                            | ((with_reducible apply nd_next); (case hx => simp -dsimp [hi2]; first | done | with_reducible rfl); (case hid => simp -dsimp [hi2]; first | done | with_reducible rfl | exact ⟨rfl, rfl, rfl⟩ | exact ⟨rfl, rfl⟩); (case' h1 => intro _ _ _); (case' h0 => intro _))
                                                            | ((with_reducible apply nd_entry); (case hx => simp -dsimp [hi2]; first | done | with_reducible rfl); (case hid => simp -dsimp [hi2]; first | done | with_reducible rfl | exact ⟨rfl, rfl, rfl⟩ | exact ⟨rfl, rfl⟩))
                                                            | ((with_reducible apply nd_range); (case hx => simp -dsimp [hi2]; with_reducible rfl); (case hT => simp -dsimp [hi2]); (case hnd => assumption); (case hz => simp -dsimp [hi2]))
                                                            | (with_reducible refine dn_i follows_any (by kernel_rfl) ?_)
                                                            | (with_reducible exact done_eq rfl)
                                                            | (simp -dsimp [hi2]))); (all_goals try with_reducible refine done_eq ?_)
            refine ⟨ss, ⟨hso, hmem⟩, rfl, ?_⟩
            simp [look, e]
            exact List.take_of_length_le (by rw [List.length_map]; exact Nat.le_refl _)
      | cons k rest =>
        simp only [List.length_cons] at hlen
        obtain ⟨R, hR⟩ : ∃ R, R = ss ++ k :: rest := ⟨_, rfl⟩
        have hRl : R.length = ss.length + (rest.length + 1) := by rw [hR, List.length_append, List.length_cons]
        have hlt : (ss.length : Int) < R.length := by omega
        have hl9 : R.length ≤ 9223372036854775807 := by omega
        simp only [← hR]
        have hwi : IntKind.wrap .i64 ((ss.length : Int) + 1) = (ss.length : Int) + 1 := by rw [wrap_i64] <;> omega
        (repeat' (first
                                                            | (with_reducible refine br_d (fun _ => ?_) (fun _ => ?_))
                                                            | (with_reducible refine br_i (fun _ => ?_) (fun _ => ?_))
                                                            | ((with_reducible apply nd_next); (case hx => simp -dsimp [hlt, hl9]; first | done | with_reducible rfl); (case hid => simp -dsimp [hlt, hl9]; first | done | with_reducible rfl | exact ⟨rfl, rfl, rfl⟩ | exact ⟨rfl, rfl⟩); (case' h1 => intro _ _ _); (case' h0 => intro _))
                                                            | ((with_reducible apply nd_entry); (case hx => simp -dsimp [hlt, hl9]; first | done | with_reducible rfl); (case hid => simp -dsimp [hlt, hl9]; first | done | with_reducible rfl | exact ⟨rfl, rfl, rfl⟩ | exact ⟨rfl, rfl⟩))
                                                            | ((with_reducible apply nd_range); (case hx => simp -dsimp [hlt, hl9]; with_reducible rfl); (case hT => simp -dsimp [hlt, hl9]); (case hnd => assumption); (case hz => simp -dsimp [hlt, hl9]))
                                                            | (with_reducible refine dn_i follows_any (by kernel_rfl) ?_)
                                                            | (with_reducible exact done_eq rfl)
                                                            | (simp -dsimp [hlt, hl9]))); (all_goals try with_reducible refine done_eq ?_)
        refine ex_loop (fun j : Nat => ⟨[(0, aAlloc), (2, .c (.d (dM m2))), (3, .c (.fn 1000000000)), (5, .c (.own 5 0)), (12, .c (.own 12 0)), (13, aV (.int .i64 ss.length)), (14, aV (.int .i64 j))], [(12, .cells [.gs 40 V] tStrs), (40, .arr V tStr (sRow (putAt k ss j ++ rest))), (5, .cells [.d (dM m1)] 88), (1000000000, .clo (.fn fZip1) [.own 1000000001 0]), (1000000001, cZ (.d (.v (.slice none 0 0))))]⟩)
          (fun j => j ≤ ss.length ∧ ∀ q ∈ ss.drop j, blt k q = true) (fun j => j) ss.length ?_ ⟨Nat.le_refl _, by simp⟩ ?_
        · have e1 : putAt k ss ss.length ++ rest = R := by rw [putAt_end, hR]; simp
          simp only [e1]
          exact Weak.same (by simp -dsimp) (by simp -dsimp) (by first | rfl | (simp [closedSt, Av.ids, Ow.ids, Cl.ids, Go.Smd.keys]; done))
        · rintro j ⟨hj, hall⟩ K2 hK2
          have hRj : (putAt k ss j ++ rest).length = R.length := by rw [List.length_append, putAt_length, hRl]; omega
          cases j with
          | zero =>
            (repeat' (first
                                                            | (with_reducible refine br_d (fun _ => ?_) (fun _ => ?_))
                                                            | (with_reducible refine br_i (fun _ => ?_) (fun _ => ?_))
                                                            | ((with_reducible apply nd_next); (case hx => simp -dsimp [hwi]; first | done | with_reducible rfl); (case hid => simp -dsimp [hwi]; first | done | with_reducible rfl | exact ⟨rfl, rfl, rfl⟩ | exact ⟨rfl, rfl⟩); (case' h1 => intro _ _ _); (case' h0 => intro _))
                                                            | ((with_reducible apply nd_entry); (case hx => simp -dsimp [hwi]; first | done | with_reducible rfl); (case hid => simp -dsimp [hwi]; first | done | with_reducible rfl | exact ⟨rfl, rfl, rfl⟩ | exact ⟨rfl, rfl⟩))
                                                            | ((with_reducible apply nd_range); (case hx => simp -dsimp [hwi]; with_reducible rfl); (case hT => simp -dsimp [hwi]); (case hnd => assumption); (case hz => simp -dsimp [hwi]))
                                                            | (with_reducible refine dn_i follows_any (by kernel_rfl) ?_)
                                                            | (with_reducible exact done_eq rfl)
                                                            | (simp -dsimp [hwi]))); (all_goals try with_reducible refine done_eq ?_)
            refine hK _ (putAt k ss 0, rest) ?_ ⟨putAt_sorted hso (by simp) hall, (putAt_perm k ss rest 0).trans hpm, by dsimp only; rw [putAt_length]; omega⟩ (by simp)
            simp only [putAt_length]
            exact Weak.same (by simp -dsimp) (by simp -dsimp) (by first | rfl | (simp [closedSt, Av.ids, Ow.ids, Cl.ids, Go.Smd.keys]; done))
          | succ p =>
            obtain ⟨s, hs⟩ : ∃ s, ss[p]? = some s := ⟨ss[p], List.getElem?_eq_getElem (by omega)⟩
            obtain ⟨R2, hR2⟩ : ∃ R2, R2 = putAt k ss (p + 1) ++ rest := ⟨_, rfl⟩
            have hR2l : R2.length = R.length := by rw [hR2]; exact hRj
            have hpl := putAt_length k ss (p + 1)
            have g1 : R2[p + 1]? = some k := by rw [hR2, List.getElem?_append_left (by omega)]; exact putAt_at k hj
            have g2 : R2[p]? = some s := by rw [hR2, List.getElem?_append_left (by omega)]; exact putAt_prev k hs
            have hb1 : p + 1 < R2.length := by omega
            have hb2 : p < R2.length := by omega
            have hw : IntKind.wrap .i64 (p : Int) = (p : Int) := by rw [wrap_i64] <;> omega
            have g1' : R2[p + 1] = k := by rw [List.getElem?_eq_getElem hb1] at g1; exact Option.some.inj g1
            have g2' : R2[p] = s := by rw [List.getElem?_eq_getElem hb2] at g2; exact Option.some.inj g2
            have ht1 : ((p : Int) + 1).toNat = p + 1 := by omega
            have hp0 : (0 : Int) < (p : Int) + 1 := by omega
            have hp1 : (0 : Int) ≤ (p : Int) + 1 := by omega
            simp only [← hR2]
            (repeat' (first
                                                            | (with_reducible refine br_d (fun _ => ?_) (fun _ => ?_))
                                                            | (with_reducible refine br_i (fun _ => ?_) (fun _ => ?_))
                                                            | ((with_reducible apply nd_next); (case hx => simp -dsimp [hw, ht1, hp0, hp1, hb1, hb2, g1', g2', hl9, toDs, hwi]; first | done | with_reducible rfl); (case hid => simp -dsimp [hw, ht1, hp0, hp1, hb1, hb2, g1', g2', hl9, toDs, hwi]; first | done | with_reducible rfl | exact ⟨rfl, rfl, rfl⟩ | exact ⟨rfl, rfl⟩); (case' h1 => intro _ _ _); (case' h0 => intro _))
                                                            | ((with_reducible apply nd_entry); (case hx => simp -dsimp [hw, ht1, hp0, hp1, hb1, hb2, g1', g2', hl9, toDs, hwi]; first | done | with_reducible rfl); (case hid => simp -dsimp [hw, ht1, hp0, hp1, hb1, hb2, g1', g2', hl9, toDs, hwi]; first | done | with_reducible rfl | exact ⟨rfl, rfl, rfl⟩ | exact ⟨rfl, rfl⟩))
                                                            | ((with_reducible apply nd_range); (case hx => simp -dsimp [hw, ht1, hp0, hp1, hb1, hb2, g1', g2', hl9, toDs, hwi]; with_reducible rfl); (case hT => simp -dsimp [hw, ht1, hp0, hp1, hb1, hb2, g1', g2', hl9, toDs, hwi]); (case hnd => assumption); (case hz => simp -dsimp [hw, ht1, hp0, hp1, hb1, hb2, g1', g2', hl9, toDs, hwi]))
                                                            | (with_reducible refine dn_i follows_any (by kernel_rfl) ?_)
                                                            | (with_reducible exact done_eq rfl)
                                                            | (simp -dsimp [hw, ht1, hp0, hp1, hb1, hb2, g1', g2', hl9, toDs, hwi]))); (all_goals try with_reducible refine done_eq ?_)
            · rename_i hks
              refine hK2 _ p ?_ ⟨by omega, fun q hq => ?_⟩ (by omega)
              · simp only [← swap_row hR2 hs]
                exact Weak.same (by simp -dsimp) (by simp -dsimp) (by first | rfl | (simp [closedSt, Av.ids, Ow.ids, Cl.ids, Go.Smd.keys]; done))
              · rw [List.drop_eq_getElem_cons (show p < ss.length by omega)] at hq
                rcases List.mem_cons.1 hq with rfl | hq
                · rw [List.getElem?_eq_getElem (show p < ss.length by omega)] at hs
                  cases hs; exact hks
                · exact hall q hq
            · rename_i hks
              have hsk : blt s k = true := by
                rcases blt_tri k s with h | h | h
                · rw [h] at hks; cases hks
                · subst h
                  exact absurd ((List.nodup_append.1 hnd2').2.2 k (List.mem_of_getElem? hs) k (List.mem_cons_self ..)) (by simp)
                · exact h
              refine hK _ (putAt k ss (p + 1), rest) ?_ ⟨putAt_sorted hso (take_below hso hs hsk) hall, (putAt_perm k ss rest (p + 1)).trans hpm, by dsimp only; rw [putAt_length]; omega⟩ (by simp)
              simp only [putAt_length, ← hR2]
              exact Weak.same (by simp -dsimp) (by simp -dsimp) (by first | rfl | (simp [closedSt, Av.ids, Ow.ids, Cl.ids, Go.Smd.keys]; done)))
end Go.Smd
end
