/- Part 18 of the proof: Pd Pe. -/
import Derived.Test.YtphldfnnjoehpaaQP17
set_option linter.unusedVariables false
section
set_option linter.unusedSimpArgs false
set_option maxRecDepth 100000
set_option maxHeartbeats 8000000
namespace Go.Smd
open Go.RowKit Go.Proofs
theorem fromPath_a (p : List LE) (hf : ∀ q ∈ p, fitsLE q ∧ shortLE q) (hl : p.length * 168 ≤ 140737488351232) : ACalls Try.prog 73 [.c (.d (dLPath p))] (fun r => r = .c (.d (dPath (p.map fromLE)))) := by
  refine acalls_ex [] Try.func73 (by kernel_rfl) rfl Try.ntmps73 Try.results73 (Nat.le_of_ble_eq_true (by kernel_rfl)) ?_; intro hok w0 S0
  clear hok
  have b1 : p.length ≤ 9223372036854775807 := by omega
  (repeat' (first
                                                            | (with_reducible refine br_d (fun _ => ?_) (fun _ => ?_))
                                                            | (with_reducible refine br_i (fun _ => ?_) (fun _ => ?_))
                                                            | ((with_reducible apply nd_next); (case hx => simp -dsimp [b1]; first | done | with_reducible rfl); (case hid => simp -dsimp [b1]; first | done | with_reducible rfl | exact ⟨rfl, rfl, rfl⟩ | exact ⟨rfl, rfl⟩); (case' h1 => intro _ _ _); (case' h0 => intro _))
                                                            | ((with_reducible apply nd_entry); (case hx => simp -dsimp [b1]; first | done | with_reducible rfl); (case hid => simp -dsimp [b1]; first | done | with_reducible rfl | exact ⟨rfl, rfl, rfl⟩ | exact ⟨rfl, rfl⟩))
                                                            | ((with_reducible apply nd_range); (case hx => simp -dsimp [b1]; with_reducible rfl); (case hT => simp -dsimp [b1]); (case hnd => assumption); (case hz => simp -dsimp [b1]))
                                                            | (with_reducible refine dn_i follows_any (by kernel_rfl) ?_)
                                                            | (with_reducible exact done_eq rfl)
                                                            | (simp -dsimp [b1]))); (all_goals try with_reducible refine done_eq ?_)
  refine ex_loop (fun i : Nat => ⟨[(3, .c (.gs 6 i)), (7, .c (.d (dLPath p))), (8, aI p.length), (9, aI i)], [(6, .arr i 60 ((p.map (evD ∘ fromLE)).take i))]⟩) (fun i => i ≤ p.length) (fun i => p.length - i) 0 ?_ (Nat.zero_le _) ?_
  · exact Weak.same (by simp -dsimp) (by simp -dsimp) (by first | rfl | (simp [closedSt, Av.ids, Ow.ids, Cl.ids, Go.Smd.keys]; done))
  · rintro i hi K hK
    by_cases hlt : i < p.length
    · have hw : IntKind.wrap .i64 ((i : Int) + 1) = ((i + 1 : Nat) : Int) := by rw [wrap_i64] <;> omega
      have hb : (min i p.length + 1) * 168 ≤ 140737488351232 := by omega
      have h1 : (p.map (evD ∘ fromLE)).take (i + 1) = (p.map (evD ∘ fromLE)).take i ++ [evD (fromLE p[i])] := by
        rw [List.take_succ_eq_append_getElem (by simpa using hlt)]; simp
      have hq := hf _ (List.getElem_mem hlt)
      have hc := fromElem_a p[i] hq.1 hq.2
      (repeat' (first
                                                            | (with_reducible refine br_d (fun _ => ?_) (fun _ => ?_))
                                                            | (with_reducible refine br_i (fun _ => ?_) (fun _ => ?_))
                                                            | (with_reducible refine nd_v (hc) (by first | rfl | (simp -dsimp [b1, hlt, hw, hb, toDs]; done)) ?_)
                                                            | (with_reducible refine nw_v (hc) rfl (by first | rfl | (simp -dsimp [b1, hlt, hw, hb, toDs]; done)) (by first | rfl | (simp -dsimp [b1, hlt, hw, hb, toDs]; done)) ?_)
                                                            | ((with_reducible apply nd_next); (case hx => simp -dsimp [b1, hlt, hw, hb, toDs]; first | done | with_reducible rfl); (case hid => simp -dsimp [b1, hlt, hw, hb, toDs]; first | done | with_reducible rfl | exact ⟨rfl, rfl, rfl⟩ | exact ⟨rfl, rfl⟩); (case' h1 => intro _ _ _); (case' h0 => intro _))
                                                            | ((with_reducible apply nd_entry); (case hx => simp -dsimp [b1, hlt, hw, hb, toDs]; first | done | with_reducible rfl); (case hid => simp -dsimp [b1, hlt, hw, hb, toDs]; first | done | with_reducible rfl | exact ⟨rfl, rfl, rfl⟩ | exact ⟨rfl, rfl⟩))
                                                            | ((with_reducible apply nd_range); (case hx => simp -dsimp [b1, hlt, hw, hb, toDs]; with_reducible rfl); (case hT => simp -dsimp [b1, hlt, hw, hb, toDs]); (case hnd => assumption); (case hz => simp -dsimp [b1, hlt, hw, hb, toDs]))
                                                            | (with_reducible refine dn_i follows_any (by kernel_rfl) ?_)
                                                            | (with_reducible exact done_eq rfl)
                                                            | (simp -dsimp [b1, hlt, hw, hb, toDs]))); (all_goals try with_reducible refine done_eq ?_)
      refine hK _ (i + 1) ?_ (by omega) (by omega)
      rw [h1]
      exact Weak.same (by simp -dsimp) (by simp -dsimp) (by first | rfl | (simp [closedSt, Av.ids, Ow.ids, Cl.ids, Go.Smd.keys]; done))
    · (repeat' (first
                                                            | (with_reducible refine br_d (fun _ => ?_) (fun _ => ?_))
                                                            | (with_reducible refine br_i (fun _ => ?_) (fun _ => ?_))
                                                            | ((with_reducible apply nd_next); (case hx => simp -dsimp [hlt]; first | done | with_reducible rfl); (case hid => simp -dsimp [hlt]; first | done | with_reducible rfl | exact ⟨rfl, rfl, rfl⟩ | exact ⟨rfl, rfl⟩); (case' h1 => intro _ _ _); (case' h0 => intro _))
                                                            | ((with_reducible apply nd_entry); (case hx => simp -dsimp [hlt]; first | done | with_reducible rfl); (case hid => simp -dsimp [hlt]; first | done | with_reducible rfl | exact ⟨rfl, rfl, rfl⟩ | exact ⟨rfl, rfl⟩))
                                                            | ((with_reducible apply nd_range); (case hx => simp -dsimp [hlt]; with_reducible rfl); (case hT => simp -dsimp [hlt]); (case hnd => assumption); (case hz => simp -dsimp [hlt]))
                                                            | (with_reducible refine dn_i follows_any (by kernel_rfl) ?_)
                                                            | (with_reducible exact done_eq rfl)
                                                            | (simp -dsimp [hlt]))); (all_goals try with_reducible refine done_eq ?_)
      rw [List.take_of_length_le (by simp; omega)]
      show _ = Av.c (.d (.sl _ ((p.map fromLE).map evD)))
      rw [List.map_map]
theorem implMakePath_a (p : List EV) (hl : p.length * 168 ≤ 140737488351232) (hp : ∀ e ∈ p, EVs e ∧ FitsE e) : ACalls Try.prog 29 [.c (.d (dPath p))]
    (fun r => r = if (p.map toLE).all okLE = true then .tup [(false, [.d (dPath ((p.map toLE).map fromLE))]), (false, [.d (dB true)])] else .tup [(false, [.d (.v (.slice none 0 0))]), (false, [.d (dB false)])]) := by
  refine acalls_ex [] Try.func29 (by kernel_rfl) rfl Try.ntmps29 Try.results29 (Nat.le_of_ble_eq_true (by kernel_rfl)) ?_; intro hok w0 S0
  clear hok
  have b1 : p.length ≤ 9223372036854775807 := by omega
  (repeat' (first
                                                            | (with_reducible refine br_d (fun _ => ?_) (fun _ => ?_))
                                                            | (with_reducible refine br_i (fun _ => ?_) (fun _ => ?_))
                                                            | ((with_reducible apply nd_next); (case hx => simp -dsimp [b1]; first | done | with_reducible rfl); (case hid => simp -dsimp [b1]; first | done | with_reducible rfl | exact ⟨rfl, rfl, rfl⟩ | exact ⟨rfl, rfl⟩); (case' h1 => intro _ _ _); (case' h0 => intro _))
                                                            | ((with_reducible apply nd_entry); (case hx => simp -dsimp [b1]; first | done | with_reducible rfl); (case hid => simp -dsimp [b1]; first | done | with_reducible rfl | exact ⟨rfl, rfl, rfl⟩ | exact ⟨rfl, rfl⟩))
                                                            | ((with_reducible apply nd_range); (case hx => simp -dsimp [b1]; with_reducible rfl); (case hT => simp -dsimp [b1]); (case hnd => assumption); (case hz => simp -dsimp [b1]))
                                                            | (with_reducible refine dn_i follows_any (by kernel_rfl) ?_)
                                                            | (with_reducible exact done_eq rfl)
                                                            | (simp -dsimp [b1]))); (all_goals try with_reducible refine done_eq ?_)
  refine ex_loop (fun x : Nat × Nat => match x.1 with
      | 0 => ⟨[(4, .c (.d (.v (.slice none 0 0)))), (10, .c (.d (dPath p))), (11, aI p.length), (12, aI 0)], []⟩
      | i + 1 => ⟨[(4, .c (.gs x.2 (i + 1))), (10, .c (.d (dPath p))), (11, aI p.length), (12, aI ((i + 1 : Nat) : Int))], [(x.2, .arr (i + 1) 20 (((p.map toLE).map fun q => [partOf q]).take (i + 1)))]⟩)
    (fun x => x.1 ≤ p.length ∧ (x.2 = 25 ∨ x.2 = 35 ∨ x.2 = 46 ∨ x.2 = 58)) (fun x => p.length - x.1) (0, 25) ?_ ⟨Nat.zero_le _, .inl rfl⟩ ?_
  · exact Weak.same (by simp -dsimp) (by simp -dsimp) (by first | rfl | (simp [closedSt, Av.ids, Ow.ids, Cl.ids, Go.Smd.keys]; done))
  · rintro ⟨i, id⟩ ⟨hi, hid⟩ K hK
    dsimp only at hi hid hK ⊢
    have w1 := w1
    have step : ∀ (h : i < p.length), ((p.map toLE).map fun q => [partOf q]).take (i + 1) = ((p.map toLE).map fun q => [partOf q]).take i ++ [[partOf (toLE p[i])]] := fun h => by
      rw [List.take_succ_eq_append_getElem (by simpa using h)]; simp
    cases i with
    | zero =>
      dsimp only
      by_cases hlt : 0 < p.length
      · have he := hp _ (List.getElem_mem hlt)
        have hc := toElem_a p[0] he.1.hk he.1.hl
        have go : ∀ (id : Nat) (q : LE) (σ : St), toLE p[0] = q → (id = 25 ∨ id = 35 ∨ id = 46 ∨ id = 58) → Weak Try.prog _ w0 S0 σ ⟨[(4, .c (.gs id 1)), (10, .c (.d (dPath p))), (11, aI p.length), (12, aI 1)], [(id, .arr 1 20 [[partOf q]])]⟩ → K σ := fun id q σ e h1 h2 => by
          refine hK _ (1, id) ?_ ⟨by dsimp only; omega, h1⟩ (by dsimp only; omega)
          dsimp only
          have e1 := step hlt
          simp only [Nat.zero_add, List.take_zero, List.nil_append] at e1
          rw [e1, e]; exact h2
        cases hq : toLE p[0] with
        | name s =>
          rw [hq] at hc
          (repeat' (first
                                                            | (with_reducible refine br_d (fun _ => ?_) (fun _ => ?_))
                                                            | (with_reducible refine br_i (fun _ => ?_) (fun _ => ?_))
                                                            | (with_reducible refine nd_v (hc) (by first | rfl | (simp -dsimp [hlt, toDs, w1]; done)) ?_)
                                                            | (with_reducible refine nw_v (hc) rfl (by first | rfl | (simp -dsimp [hlt, toDs, w1]; done)) (by first | rfl | (simp -dsimp [hlt, toDs, w1]; done)) ?_)
                                                            | ((with_reducible apply nd_next); (case hx => simp -dsimp [hlt, toDs, w1]; first | done | with_reducible rfl); (case hid => simp -dsimp [hlt, toDs, w1]; first | done | with_reducible rfl | exact ⟨rfl, rfl, rfl⟩ | exact ⟨rfl, rfl⟩); (case' h1 => intro _ _ _); (case' h0 => intro _))
                                                            | ((with_reducible apply nd_entry); (case hx => simp -dsimp [hlt, toDs, w1]; first | done | with_reducible rfl); (case hid => simp -dsimp [hlt, toDs, w1]; first | done | with_reducible rfl | exact ⟨rfl, rfl, rfl⟩ | exact ⟨rfl, rfl⟩))
                                                            | ((with_reducible apply nd_range); (case hx => simp -dsimp [hlt, toDs, w1]; with_reducible rfl); (case hT => simp -dsimp [hlt, toDs, w1]); (case hnd => assumption); (case hz => simp -dsimp [hlt, toDs, w1]))
                                                            | (with_reducible refine dn_i follows_any (by kernel_rfl) ?_)
                                                            | (with_reducible exact done_eq rfl)
                                                            | (simp -dsimp [hlt, toDs, w1]))); (all_goals try with_reducible refine done_eq ?_)
          refine go 25 _ _ hq (by simp) ?_
          exact Weak.same (by simp -dsimp [partOf]) (by simp -dsimp [partOf]) (by first | rfl | (simp [closedSt, Av.ids, Ow.ids, Cl.ids, Go.Smd.keys]; done))
        | key l =>
          rw [hq] at hc
          (repeat' (first
                                                            | (with_reducible refine br_d (fun _ => ?_) (fun _ => ?_))
                                                            | (with_reducible refine br_i (fun _ => ?_) (fun _ => ?_))
                                                            | (with_reducible refine nd_v (hc) (by first | rfl | (simp -dsimp [hlt, toDs, w1]; done)) ?_)
                                                            | (with_reducible refine nw_v (hc) rfl (by first | rfl | (simp -dsimp [hlt, toDs, w1]; done)) (by first | rfl | (simp -dsimp [hlt, toDs, w1]; done)) ?_)
                                                            | ((with_reducible apply nd_next); (case hx => simp -dsimp [hlt, toDs, w1]; first | done | with_reducible rfl); (case hid => simp -dsimp [hlt, toDs, w1]; first | done | with_reducible rfl | exact ⟨rfl, rfl, rfl⟩ | exact ⟨rfl, rfl⟩); (case' h1 => intro _ _ _); (case' h0 => intro _))
                                                            | ((with_reducible apply nd_entry); (case hx => simp -dsimp [hlt, toDs, w1]; first | done | with_reducible rfl); (case hid => simp -dsimp [hlt, toDs, w1]; first | done | with_reducible rfl | exact ⟨rfl, rfl, rfl⟩ | exact ⟨rfl, rfl⟩))
                                                            | ((with_reducible apply nd_range); (case hx => simp -dsimp [hlt, toDs, w1]; with_reducible rfl); (case hT => simp -dsimp [hlt, toDs, w1]); (case hnd => assumption); (case hz => simp -dsimp [hlt, toDs, w1]))
                                                            | (with_reducible refine dn_i follows_any (by kernel_rfl) ?_)
                                                            | (with_reducible exact done_eq rfl)
                                                            | (simp -dsimp [hlt, toDs, w1]))); (all_goals try with_reducible refine done_eq ?_)
          refine go 35 _ _ hq (by simp) ?_
          exact Weak.same (by simp -dsimp [partOf]) (by simp -dsimp [partOf]) (by first | rfl | (simp [closedSt, Av.ids, Ow.ids, Cl.ids, Go.Smd.keys]; done))
        | val t =>
          rw [hq] at hc
          (repeat' (first
                                                            | (with_reducible refine br_d (fun _ => ?_) (fun _ => ?_))
                                                            | (with_reducible refine br_i (fun _ => ?_) (fun _ => ?_))
                                                            | (with_reducible refine nd_v (hc) (by first | rfl | (simp -dsimp [hlt, toDs, w1]; done)) ?_)
                                                            | (with_reducible refine nw_v (hc) rfl (by first | rfl | (simp -dsimp [hlt, toDs, w1]; done)) (by first | rfl | (simp -dsimp [hlt, toDs, w1]; done)) ?_)
                                                            | ((with_reducible apply nd_next); (case hx => simp -dsimp [hlt, toDs, w1]; first | done | with_reducible rfl); (case hid => simp -dsimp [hlt, toDs, w1]; first | done | with_reducible rfl | exact ⟨rfl, rfl, rfl⟩ | exact ⟨rfl, rfl⟩); (case' h1 => intro _ _ _); (case' h0 => intro _))
                                                            | ((with_reducible apply nd_entry); (case hx => simp -dsimp [hlt, toDs, w1]; first | done | with_reducible rfl); (case hid => simp -dsimp [hlt, toDs, w1]; first | done | with_reducible rfl | exact ⟨rfl, rfl, rfl⟩ | exact ⟨rfl, rfl⟩))
                                                            | ((with_reducible apply nd_range); (case hx => simp -dsimp [hlt, toDs, w1]; with_reducible rfl); (case hT => simp -dsimp [hlt, toDs, w1]); (case hnd => assumption); (case hz => simp -dsimp [hlt, toDs, w1]))
                                                            | (with_reducible refine dn_i follows_any (by kernel_rfl) ?_)
                                                            | (with_reducible exact done_eq rfl)
                                                            | (simp -dsimp [hlt, toDs, w1]))); (all_goals try with_reducible refine done_eq ?_)
          refine go 46 _ _ hq (by simp) ?_
          exact Weak.same (by simp -dsimp [partOf]) (by simp -dsimp [partOf]) (by first | rfl | (simp [closedSt, Av.ids, Ow.ids, Cl.ids, Go.Smd.keys]; done))
        | idx n =>
          rw [hq] at hc
          (repeat' (first
                                                            | (with_reducible refine br_d (fun _ => ?_) (fun _ => ?_))
                                                            | (with_reducible refine br_i (fun _ => ?_) (fun _ => ?_))
                                                            | (with_reducible refine nd_v (hc) (by first | rfl | (simp -dsimp [hlt, toDs, w1]; done)) ?_)
                                                            | (with_reducible refine nw_v (hc) rfl (by first | rfl | (simp -dsimp [hlt, toDs, w1]; done)) (by first | rfl | (simp -dsimp [hlt, toDs, w1]; done)) ?_)
                                                            | ((with_reducible apply nd_next); (case hx => simp -dsimp [hlt, toDs, w1]; first | done | with_reducible rfl); (case hid => simp -dsimp [hlt, toDs, w1]; first | done | with_reducible rfl | exact ⟨rfl, rfl, rfl⟩ | exact ⟨rfl, rfl⟩); (case' h1 => intro _ _ _); (case' h0 => intro _))
                                                            | ((with_reducible apply nd_entry); (case hx => simp -dsimp [hlt, toDs, w1]; first | done | with_reducible rfl); (case hid => simp -dsimp [hlt, toDs, w1]; first | done | with_reducible rfl | exact ⟨rfl, rfl, rfl⟩ | exact ⟨rfl, rfl⟩))
                                                            | ((with_reducible apply nd_range); (case hx => simp -dsimp [hlt, toDs, w1]; with_reducible rfl); (case hT => simp -dsimp [hlt, toDs, w1]); (case hnd => assumption); (case hz => simp -dsimp [hlt, toDs, w1]))
                                                            | (with_reducible refine dn_i follows_any (by kernel_rfl) ?_)
                                                            | (with_reducible exact done_eq rfl)
                                                            | (simp -dsimp [hlt, toDs, w1]))); (all_goals try with_reducible refine done_eq ?_)
          refine go 58 _ _ hq (by simp) ?_
          exact Weak.same (by simp -dsimp [partOf]) (by simp -dsimp [partOf]) (by first | rfl | (simp [closedSt, Av.ids, Ow.ids, Cl.ids, Go.Smd.keys]; done))
      · have e : p = [] := List.eq_nil_of_length_eq_zero (by omega)
        subst e
        have hc := fpMake_a [] (by simp) (by simp)
        have hfp := fromPath_a [] (by simp) (by simp)
        simp only [dParts, dLPath, List.map_nil, List.all_nil, if_true, oSl] at hc hfp
        (repeat' (first
                                                            | (with_reducible refine br_d (fun _ => ?_) (fun _ => ?_))
                                                            | (with_reducible refine br_i (fun _ => ?_) (fun _ => ?_))
                                                            | (with_reducible refine nd_v (hc) (by first | rfl | (simp -dsimp; done)) ?_)
                                                            | (with_reducible refine nw_v (hc) rfl (by first | rfl | (simp -dsimp; done)) (by first | rfl | (simp -dsimp; done)) ?_)
                                                            | (with_reducible refine nd_v (hfp) (by first | rfl | (simp -dsimp; done)) ?_)
                                                            | (with_reducible refine nw_v (hfp) rfl (by first | rfl | (simp -dsimp; done)) (by first | rfl | (simp -dsimp; done)) ?_)
                                                            | ((with_reducible apply nd_next); (case hx => simp -dsimp; first | done | with_reducible rfl); (case hid => simp -dsimp; first | done | with_reducible rfl | exact ⟨rfl, rfl, rfl⟩ | exact ⟨rfl, rfl⟩); (case' h1 => intro _ _ _); (case' h0 => intro _))
                                                            | ((with_reducible apply nd_entry); (case hx => simp -dsimp; first | done | with_reducible rfl); (case hid => simp -dsimp; first | done | with_reducible rfl | exact ⟨rfl, rfl, rfl⟩ | exact ⟨rfl, rfl⟩))
                                                            | ((with_reducible apply nd_range); (case hx => simp -dsimp; with_reducible rfl); (case hT => simp -dsimp); (case hnd => assumption); (case hz => simp -dsimp))
                                                            | (with_reducible refine dn_i follows_any (by kernel_rfl) ?_)
                                                            | (with_reducible exact done_eq rfl)
                                                            | (simp -dsimp))); (all_goals try with_reducible refine done_eq ?_)
    | succ i =>
      dsimp only
      have hrl : (((p.map toLE).map fun q => [partOf q]).take (i + 1)).length = i + 1 := by simp; omega
      obtain ⟨R, hR⟩ : ∃ R, R = ((p.map toLE).map fun q => [partOf q]).take (i + 1) := ⟨_, rfl⟩
      rw [← hR] at hrl ⊢
      by_cases hlt : i + 1 < p.length
      · have hw : IntKind.wrap .i64 (((i + 1 : Nat) : Int) + 1) = ((i + 1 + 1 : Nat) : Int) := by rw [wrap_i64] <;> omega
        have hw2 : IntKind.wrap .i64 ((i : Int) + 1 + 1) = ((i + 1 + 1 : Nat) : Int) := by rw [wrap_i64] <;> omega
        have hb : (i + 1 + 1) * 16 ≤ 140737488351232 := by omega
        have h1 : (i : Int) + 1 < p.length := by omega
        have h2 : (0 : Int) ≤ (i : Int) + 1 := by omega
        have h3 : ((i : Int) + 1).toNat = i + 1 := by omega
        have he := hp _ (List.getElem_mem hlt)
        have hc := toElem_a p[i + 1] he.1.hk he.1.hl
        have go : ∀ (q : LE) (σ : St), toLE p[i + 1] = q → Weak Try.prog _ w0 S0 σ ⟨[(4, .c (.gs id (i + 1 + 1))), (10, .c (.d (dPath p))), (11, aI p.length), (12, aI ((i + 1 + 1 : Nat) : Int))], [(id, .arr (i + 1 + 1) 20 (R ++ [[partOf q]]))]⟩ → K σ := fun q σ e h2 => by
          refine hK _ (i + 1 + 1, id) ?_ ⟨by dsimp only; omega, hid⟩ (by dsimp only; omega)
          dsimp only
          rw [step hlt, ← hR, e]; exact h2
        cases hq : toLE p[i + 1] with
        | name s =>
          rw [hq] at hc
          rcases hid with rfl | rfl | rfl | rfl
          all_goals
            (repeat' (first
                                                            | (with_reducible refine br_d (fun _ => ?_) (fun _ => ?_))
                                                            | (with_reducible refine br_i (fun _ => ?_) (fun _ => ?_))
                                                            | (with_reducible refine nd_v (hc) (by first | rfl | (simp -dsimp [hlt, hrl, toDs, hw, hw2, hb, h1, h2, h3]; done)) ?_)
                                                            | (with_reducible refine nw_v (hc) rfl (by first | rfl | (simp -dsimp [hlt, hrl, toDs, hw, hw2, hb, h1, h2, h3]; done)) (by first | rfl | (simp -dsimp [hlt, hrl, toDs, hw, hw2, hb, h1, h2, h3]; done)) ?_)
                                                            | ((with_reducible apply nd_next); (case hx => simp -dsimp [hlt, hrl, toDs, hw, hw2, hb, h1, h2, h3]; first | done | with_reducible rfl); (case hid => simp -dsimp [hlt, hrl, toDs, hw, hw2, hb, h1, h2, h3]; first | done | with_reducible rfl | exact ⟨rfl, rfl, rfl⟩ | exact ⟨rfl, rfl⟩); (case' h1 => intro _ _ _); (case' h0 => intro _))
                                                            | ((with_reducible apply nd_entry); (case hx => simp -dsimp [hlt, hrl, toDs, hw, hw2, hb, h1, h2, h3]; first | done | with_reducible rfl); (case hid => simp -dsimp [hlt, hrl, toDs, hw, hw2, hb, h1, h2, h3]; first | done | with_reducible rfl | exact ⟨rfl, rfl, rfl⟩ | exact ⟨rfl, rfl⟩))
                                                            | ((with_reducible apply nd_range); (case hx => simp -dsimp [hlt, hrl, toDs, hw, hw2, hb, h1, h2, h3]; with_reducible rfl); (case hT => simp -dsimp [hlt, hrl, toDs, hw, hw2, hb, h1, h2, h3]); (case hnd => assumption); (case hz => simp -dsimp [hlt, hrl, toDs, hw, hw2, hb, h1, h2, h3]))
                                                            | (with_reducible refine dn_i follows_any (by kernel_rfl) ?_)
                                                            | (with_reducible exact done_eq rfl)
                                                            | (simp -dsimp [hlt, hrl, toDs, hw, hw2, hb, h1, h2, h3]))); (all_goals try with_reducible refine done_eq ?_)
            refine go _ _ hq ?_
            exact Weak.same (by simp -dsimp [partOf]) (by simp -dsimp [partOf]) (by first | rfl | (simp [closedSt, Av.ids, Ow.ids, Cl.ids, Go.Smd.keys]; done))
        | key l =>
          rw [hq] at hc
          rcases hid with rfl | rfl | rfl | rfl
          all_goals
            (repeat' (first
                                                            | (with_reducible refine br_d (fun _ => ?_) (fun _ => ?_))
                                                            | (with_reducible refine br_i (fun _ => ?_) (fun _ => ?_))
                                                            | (with_reducible refine nd_v (hc) (by first | rfl | (simp -dsimp [hlt, hrl, toDs, hw, hw2, hb, h1, h2, h3]; done)) ?_)
                                                            | (with_reducible refine nw_v (hc) rfl (by first | rfl | (simp -dsimp [hlt, hrl, toDs, hw, hw2, hb, h1, h2, h3]; done)) (by first | rfl | (simp -dsimp [hlt, hrl, toDs, hw, hw2, hb, h1, h2, h3]; done)) ?_)
                                                            | ((with_reducible apply nd_next); (case hx => simp -dsimp [hlt, hrl, toDs, hw, hw2, hb, h1, h2, h3]; first | done | with_reducible rfl); (case hid => simp -dsimp [hlt, hrl, toDs, hw, hw2, hb, h1, h2, h3]; first | done | with_reducible rfl | exact ⟨rfl, rfl, rfl⟩ | exact ⟨rfl, rfl⟩); (case' h1 => intro _ _ _); (case' h0 => intro _))
                                                            | ((with_reducible apply nd_entry); (case hx => simp -dsimp [hlt, hrl, toDs, hw, hw2, hb, h1, h2, h3]; first | done | with_reducible rfl); (case hid => simp -dsimp [hlt, hrl, toDs, hw, hw2, hb, h1, h2, h3]; first | done | with_reducible rfl | exact ⟨rfl, rfl, rfl⟩ | exact ⟨rfl, rfl⟩))
                                                            | ((with_reducible apply nd_range); (case hx => simp -dsimp [hlt, hrl, toDs, hw, hw2, hb, h1, h2, h3]; with_reducible rfl); (case hT => simp -dsimp [hlt, hrl, toDs, hw, hw2, hb, h1, h2, h3]); (case hnd => assumption); (case hz => simp -dsimp [hlt, hrl, toDs, hw, hw2, hb, h1, h2, h3]))
                                                            | (with_reducible refine dn_i follows_any (by kernel_rfl) ?_)
                                                            | (with_reducible exact done_eq rfl)
                                                            | (simp -dsimp [hlt, hrl, toDs, hw, hw2, hb, h1, h2, h3]))); (all_goals try with_reducible refine done_eq ?_)
            refine go _ _ hq ?_
            exact Weak.same (by simp -dsimp [partOf]) (by simp -dsimp [partOf]) (by first | rfl | (simp [closedSt, Av.ids, Ow.ids, Cl.ids, Go.Smd.keys]; done))
        | val t =>
          rw [hq] at hc
          rcases hid with rfl | rfl | rfl | rfl
          all_goals
            (repeat' (first
                                                            | (with_reducible refine br_d (fun _ => ?_) (fun _ => ?_))
                                                            | (with_reducible refine br_i (fun _ => ?_) (fun _ => ?_))
                                                            | (with_reducible refine nd_v (hc) (by first | rfl | (simp -dsimp [hlt, hrl, toDs, hw, hw2, hb, h1, h2, h3]; done)) ?_)
                                                            | (with_reducible refine nw_v (hc) rfl (by first | rfl | (simp -dsimp [hlt, hrl, toDs, hw, hw2, hb, h1, h2, h3]; done)) (by first | rfl | (simp -dsimp [hlt, hrl, toDs, hw, hw2, hb, h1, h2, h3]; done)) ?_)
                                                            | ((with_reducible apply nd_next); (case hx => simp -dsimp [hlt, hrl, toDs, hw, hw2, hb, h1, h2, h3]; first | done | with_reducible rfl); (case hid => simp -dsimp [hlt, hrl, toDs, hw, hw2, hb, h1, h2, h3]; first | done | with_reducible rfl | exact ⟨rfl, rfl, rfl⟩ | exact ⟨rfl, rfl⟩); (case' h1 => intro _ _ _); (case' h0 => intro _))
                                                            | ((with_reducible apply nd_entry); (case hx => simp -dsimp [hlt, hrl, toDs, hw, hw2, hb, h1, h2, h3]; first | done | with_reducible rfl); (case hid => simp -dsimp [hlt, hrl, toDs, hw, hw2, hb, h1, h2, h3]; first | done | with_reducible rfl | exact ⟨rfl, rfl, rfl⟩ | exact ⟨rfl, rfl⟩))
                                                            | ((with_reducible apply nd_range); (case hx => simp -dsimp [hlt, hrl, toDs, hw, hw2, hb, h1, h2, h3]; with_reducible rfl); (case hT => simp -dsimp [hlt, hrl, toDs, hw, hw2, hb, h1, h2, h3]); (case hnd => assumption); (case hz => simp -dsimp [hlt, hrl, toDs, hw, hw2, hb, h1, h2, h3]))
                                                            | (with_reducible refine dn_i follows_any (by kernel_rfl) ?_)
                                                            | (with_reducible exact done_eq rfl)
                                                            | (simp -dsimp [hlt, hrl, toDs, hw, hw2, hb, h1, h2, h3]))); (all_goals try with_reducible refine done_eq ?_)
            refine go _ _ hq ?_
            exact Weak.same (by simp -dsimp [partOf]) (by simp -dsimp [partOf]) (by first | rfl | (simp [closedSt, Av.ids, Ow.ids, Cl.ids, Go.Smd.keys]; done))
        | idx n =>
          rw [hq] at hc
          rcases hid with rfl | rfl | rfl | rfl
          all_goals
            (repeat' (first
                                                            | (with_reducible refine br_d (fun _ => ?_) (fun _ => ?_))
                                                            | (with_reducible refine br_i (fun _ => ?_) (fun _ => ?_))
                                                            | (with_reducible refine nd_v (hc) (by first | rfl | (simp -dsimp [hlt, hrl, toDs, hw, hw2, hb, h1, h2, h3]; done)) ?_)
                                                            | (with_reducible refine nw_v (hc) rfl (by first | rfl | (simp -dsimp [hlt, hrl, toDs, hw, hw2, hb, h1, h2, h3]; done)) (by first | rfl | (simp -dsimp [hlt, hrl, toDs, hw, hw2, hb, h1, h2, h3]; done)) ?_)
                                                            | ((with_reducible apply nd_next); (case hx => simp -dsimp [hlt, hrl, toDs, hw, hw2, hb, h1, h2, h3]; first | done | with_reducible rfl); (case hid => simp -dsimp [hlt, hrl, toDs, hw, hw2, hb, h1, h2, h3]; first | done | with_reducible rfl | exact ⟨rfl, rfl, rfl⟩ | exact ⟨rfl, rfl⟩); (case' h1 => intro _ _ _); (case' h0 => intro _))
                                                            | ((with_reducible apply nd_entry); (case hx => simp -dsimp [hlt, hrl, toDs, hw, hw2, hb, h1, h2, h3]; first | done | with_reducible rfl); (case hid => simp -dsimp [hlt, hrl, toDs, hw, hw2, hb, h1, h2, h3]; first | done | with_reducible rfl | exact ⟨rfl, rfl, rfl⟩ | exact ⟨rfl, rfl⟩))
                                                            | ((with_reducible apply nd_range); (case hx => simp -dsimp [hlt, hrl, toDs, hw, hw2, hb, h1, h2, h3]; with_reducible rfl); (case hT => simp -dsimp [hlt, hrl, toDs, hw, hw2, hb, h1, h2, h3]); (case hnd => assumption); (case hz => simp -dsimp [hlt, hrl, toDs, hw, hw2, hb, h1, h2, h3]))
                                                            | (with_reducible refine dn_i follows_any (by kernel_rfl) ?_)
                                                            | (with_reducible exact done_eq rfl)
                                                            | (simp -dsimp [hlt, hrl, toDs, hw, hw2, hb, h1, h2, h3]))); (all_goals try with_reducible refine done_eq ?_)
            refine go _ _ hq ?_
            exact Weak.same (by simp -dsimp [partOf]) (by simp -dsimp [partOf]) (by first | rfl | (simp [closedSt, Av.ids, Ow.ids, Cl.ids, Go.Smd.keys]; done))
      · have h1 : ¬ (i : Int) + 1 < p.length := by omega
        have e2 : R = (p.map toLE).map fun q => [partOf q] := by rw [hR, List.take_of_length_le (by simp; omega)]
        rw [e2]
        have hkl : ∀ l, LE.key l ∈ p.map toLE → l.length ≤ 9223372036854775807 := fun l h => by
          obtain ⟨e, he, e1⟩ := List.mem_map.1 h
          have := short_of (hp e he).1.hl
          rw [e1] at this
          simp only [shortLE] at this
          omega
        have hc := fpMake_a (p.map toLE) (by simp; omega) hkl
        have hfp := fromPath_a (p.map toLE) (fun q hq => by obtain ⟨e, he, rfl⟩ := List.mem_map.1 hq; exact ⟨(hp e he).2.le, short_of (hp e he).1.hl⟩) (by simp; omega)
        obtain ⟨LS, hLS⟩ : ∃ LS, LS = p.map toLE := ⟨_, rfl⟩
        rw [← hLS] at hc hfp ⊢
        by_cases hall : LS.all okLE = true
        · rw [if_pos hall]
          have hne : LS.map leD ≠ [] := fun e => by have := congrArg List.length e; rw [hLS] at this; simp at this; subst this; simp at hi
          simp only [hall, if_true, oSl_pos hne] at hc
          rcases hid with rfl | rfl | rfl | rfl
          all_goals
            (repeat' (first
                                                            | (with_reducible refine br_d (fun _ => ?_) (fun _ => ?_))
                                                            | (with_reducible refine br_i (fun _ => ?_) (fun _ => ?_))
                                                            | (with_reducible refine nd_v (hc) (by first | rfl | (simp -dsimp [h1]; done)) ?_)
                                                            | (with_reducible refine nw_v (hc) rfl (by first | rfl | (simp -dsimp [h1]; done)) (by first | rfl | (simp -dsimp [h1]; done)) ?_)
                                                            | (with_reducible refine nd_v (hfp) (by first | rfl | (simp -dsimp [h1]; done)) ?_)
                                                            | (with_reducible refine nw_v (hfp) rfl (by first | rfl | (simp -dsimp [h1]; done)) (by first | rfl | (simp -dsimp [h1]; done)) ?_)
                                                            | ((with_reducible apply nd_next); (case hx => simp -dsimp [h1]; first | done | with_reducible rfl); (case hid => simp -dsimp [h1]; first | done | with_reducible rfl | exact ⟨rfl, rfl, rfl⟩ | exact ⟨rfl, rfl⟩); (case' h1 => intro _ _ _); (case' h0 => intro _))
                                                            | ((with_reducible apply nd_entry); (case hx => simp -dsimp [h1]; first | done | with_reducible rfl); (case hid => simp -dsimp [h1]; first | done | with_reducible rfl | exact ⟨rfl, rfl, rfl⟩ | exact ⟨rfl, rfl⟩))
                                                            | ((with_reducible apply nd_range); (case hx => simp -dsimp [h1]; with_reducible rfl); (case hT => simp -dsimp [h1]); (case hnd => assumption); (case hz => simp -dsimp [h1]))
                                                            | (with_reducible refine dn_i follows_any (by kernel_rfl) ?_)
                                                            | (with_reducible exact done_eq rfl)
                                                            | (simp -dsimp [h1]))); (all_goals try with_reducible refine done_eq ?_)
        · rw [if_neg hall]
          have hc := hc.mono fun r h => (by rw [if_neg hall] at h; exact h : ∃ x T y, r = _)
          rcases hid with rfl | rfl | rfl | rfl
          all_goals
            (repeat' (first
                                                            | (with_reducible refine br_d (fun _ => ?_) (fun _ => ?_))
                                                            | (with_reducible refine br_i (fun _ => ?_) (fun _ => ?_))
                                                            | ((with_reducible refine nd_c (hc) (by first | rfl | (simp -dsimp [h1]; done)) ?_); rintro _ ⟨x, T, y, rfl⟩ _)
                                                            | ((with_reducible refine nw_c (hc) rfl (by first | rfl | (simp -dsimp [h1]; done)) (by first | rfl | (simp -dsimp [h1]; done)) ?_); rintro _ ⟨x, T, y, rfl⟩ _)
                                                            | (with_reducible refine nd_v (hfp) (by first | rfl | (simp -dsimp [h1]; done)) ?_)
                                                            | (with_reducible refine nw_v (hfp) rfl (by first | rfl | (simp -dsimp [h1]; done)) (by first | rfl | (simp -dsimp [h1]; done)) ?_)
                                                            | ((with_reducible apply nd_next); (case hx => simp -dsimp [h1]; first | done | with_reducible rfl); (case hid => simp -dsimp [h1]; first | done | with_reducible rfl | exact ⟨rfl, rfl, rfl⟩ | exact ⟨rfl, rfl⟩); (case' h1 => intro _ _ _); (case' h0 => intro _))
                                                            | ((with_reducible apply nd_entry); (case hx => simp -dsimp [h1]; first | done | with_reducible rfl); (case hid => simp -dsimp [h1]; first | done | with_reducible rfl | exact ⟨rfl, rfl, rfl⟩ | exact ⟨rfl, rfl⟩))
                                                            | ((with_reducible apply nd_range); (case hx => simp -dsimp [h1]; with_reducible rfl); (case hT => simp -dsimp [h1]); (case hnd => assumption); (case hz => simp -dsimp [h1]))
                                                            | (with_reducible refine dn_i follows_any (by kernel_rfl) ?_)
                                                            | (with_reducible exact done_eq rfl)
                                                            | (simp -dsimp [h1]))); (all_goals try with_reducible refine done_eq ?_)
end Go.Smd
end
section
set_option linter.unusedSimpArgs false
set_option maxRecDepth 100000
set_option maxHeartbeats 8000000
namespace Go.Smd
open Go.RowKit Go.Proofs
theorem okLE_CE (e : EV) : okLE (toLE e) = (decide (¬ (CE e).k = 1) || decide (0 < (CE e).keys.length)) := by
  unfold toLE CE
  split
  · next h =>
    have hz : (zipF e.keys e.l).length = min e.keys.length e.l.length := by simp [zipF]
    have hm : min (min e.keys.length e.l.length) e.keys.length = min e.keys.length e.l.length := by omega
    simp only [okLE, not_true_eq_false, decide_false, Bool.false_or, List.length_take, hm]
    rw [← hz]
    cases zipF e.keys e.l <;> simp
  · split
    · simp [okLE]
    · split <;> simp [okLE]
theorem EVs_from {e : EV} (h : EVs e) : EVs (fromLE (toLE e)) := by
  obtain ⟨h1, h2⟩ := h
  unfold toLE
  split
  · refine ⟨?_, ?_⟩ <;> simp [fromLE, zipF] <;> omega
  · split
    · exact ⟨by simp [fromLE], by simp [fromLE]⟩
    · split <;> exact ⟨by simp [fromLE], by simp [fromLE]⟩
theorem fnMakePath_a (p : List EV) : ACalls Try.prog 7 [.c (.d (dPath p))] (fun r => r = aV (.bool true)) := by
  refine acalls_ex [] Try.func7 (by kernel_rfl) rfl Try.ntmps7 Try.results7 (Nat.le_of_ble_eq_true (by kernel_rfl)) ?_; intro hok w0 S0
  obtain ⟨hl, hp⟩ := path_ok (okA_c (hok (.c (.d (dPath p))) (by simp)))
  clear hok
  have hp2 : ∀ e ∈ p, EVs e ∧ FitsE e := fun e he => ⟨⟨(hp e he).1, (hp e he).2.2.1⟩, (hp e he).2.2.2⟩
  have b1 : p.length ≤ 9223372036854775807 := by omega
  have hm := implMakePath_a p hl hp2
  have hs := samePath_a ((p.map toLE).map fromLE) p (by rw [List.map_map, List.map_map]; exact List.map_congr_left fun e _ => CE_from e) (fun e he => by
    rw [List.map_map] at he
    obtain ⟨x, hx, rfl⟩ := List.mem_map.1 he
    exact EVs_from (hp2 x hx).1) (fun e he => (hp2 e he).1) (by omega)
  rw [List.map_map] at hs
  (repeat' (first
                                                            | (with_reducible refine br_d (fun _ => ?_) (fun _ => ?_))
                                                            | (with_reducible refine br_i (fun _ => ?_) (fun _ => ?_))
                                                            | ((with_reducible apply nd_next); (case hx => simp -dsimp [b1]; first | done | with_reducible rfl); (case hid => simp -dsimp [b1]; first | done | with_reducible rfl | exact ⟨rfl, rfl, rfl⟩ | exact ⟨rfl, rfl⟩); (case' h1 => intro _ _ _); (case' h0 => intro _))
                                                            | ((with_reducible apply nd_entry); (case hx => simp -dsimp [b1]; first | done | with_reducible rfl); (case hid => simp -dsimp [b1]; first | done | with_reducible rfl | exact ⟨rfl, rfl, rfl⟩ | exact ⟨rfl, rfl⟩))
                                                            | ((with_reducible apply nd_range); (case hx => simp -dsimp [b1]; with_reducible rfl); (case hT => simp -dsimp [b1]); (case hnd => assumption); (case hz => simp -dsimp [b1]))
                                                            | (with_reducible refine dn_i follows_any (by kernel_rfl) ?_)
                                                            | (with_reducible exact done_eq rfl)
                                                            | (simp -dsimp [b1]))); (all_goals try with_reducible refine done_eq ?_)
  refine ex_loop (fun i : Nat => ⟨[(0, .c (.d (dPath p))), (3, aV (.bool ((p.take i).all fun e => okLE (toLE e)))), (11, .c (.d (dPath p))), (12, aI p.length), (13, aI i)], []⟩) (fun i => i ≤ p.length) (fun i => p.length - i) 0 ?_ (Nat.zero_le _) ?_
  · exact Weak.same (by simp -dsimp) (by simp -dsimp) (by first | rfl | (simp [closedSt, Av.ids, Ow.ids, Cl.ids, Go.Smd.keys]; done))
  · rintro i hi K hK
    by_cases hlt : i < p.length
    · have hw : IntKind.wrap .i64 ((i : Int) + 1) = ((i + 1 : Nat) : Int) := by rw [wrap_i64] <;> omega
      have he := (hp2 _ (List.getElem_mem hlt)).1
      have hc := cleanElem_a p[i] he.hk he.hl
      have ho := okLE_CE p[i]
      have hkl : (CE p[i]).keys.length ≤ 9223372036854775807 := by
        have := he.hk
        unfold CE
        repeat' split
        all_goals simp
        omega
      have h1 : ((p.take (i + 1)).all fun e => okLE (toLE e)) = (((p.take i).all fun e => okLE (toLE e)) && okLE (toLE p[i])) := by
        rw [List.take_succ_eq_append_getElem hlt, List.all_append]; simp
      obtain ⟨B, hB⟩ : ∃ B, B = ((p.take i).all fun e => okLE (toLE e)) := ⟨_, rfl⟩
      rw [← hB] at h1 ⊢
      have go : ∀ σ : St, Weak Try.prog _ w0 S0 σ ⟨[(0, .c (.d (dPath p))), (3, aV (.bool (B && okLE (toLE p[i])))), (11, .c (.d (dPath p))), (12, aI p.length), (13, aI ((i + 1 : Nat) : Int))], []⟩ → K σ := fun σ h => by
        refine hK _ (i + 1) ?_ (by omega) (by omega)
        rw [h1]; exact h
      obtain ⟨ce, hce⟩ : ∃ ce, CE p[i] = ce := ⟨_, rfl⟩
      obtain ⟨k2, s2, ks2, l2, ⟨a2, b2, c2, d2, e2, f2⟩, n2⟩ := ce
      rw [hce] at ho hkl
      rw [hce, evA_x] at hc
      dsimp only at ho hkl
      by_cases hk : k2 = 1
      · by_cases hz : 0 < ks2.length
        · have hz' : (0 : Int) < ks2.length := by omega
          have ho : okLE (toLE p[i]) = true := by rw [ho]; simp [hz]
          rw [ho] at go
          cases B
          all_goals
            (repeat' (first
                                                            | (with_reducible refine br_d (fun _ => ?_) (fun _ => ?_))
                                                            | (with_reducible refine br_i (fun _ => ?_) (fun _ => ?_))
                                                            | (with_reducible refine nd_v (hc) (by first | rfl | (simp -dsimp [b1, hlt, hw, hkl, hk, hz, hz']; done)) ?_)
                                                            | (with_reducible refine nw_v (hc) rfl (by first | rfl | (simp -dsimp [b1, hlt, hw, hkl, hk, hz, hz']; done)) (by first | rfl | (simp -dsimp [b1, hlt, hw, hkl, hk, hz, hz']; done)) ?_)
                                                            | ((with_reducible apply nd_next); (case hx => simp -dsimp [b1, hlt, hw, hkl, hk, hz, hz']; first | done | with_reducible rfl); (case hid => simp -dsimp [b1, hlt, hw, hkl, hk, hz, hz']; first | done | with_reducible rfl | exact ⟨rfl, rfl, rfl⟩ | exact ⟨rfl, rfl⟩); (case' h1 => intro _ _ _); (case' h0 => intro _))
                                                            | ((with_reducible apply nd_entry); (case hx => simp -dsimp [b1, hlt, hw, hkl, hk, hz, hz']; first | done | with_reducible rfl); (case hid => simp -dsimp [b1, hlt, hw, hkl, hk, hz, hz']; first | done | with_reducible rfl | exact ⟨rfl, rfl, rfl⟩ | exact ⟨rfl, rfl⟩))
                                                            | ((with_reducible apply nd_range); (case hx => simp -dsimp [b1, hlt, hw, hkl, hk, hz, hz']; with_reducible rfl); (case hT => simp -dsimp [b1, hlt, hw, hkl, hk, hz, hz']); (case hnd => assumption); (case hz => simp -dsimp [b1, hlt, hw, hkl, hk, hz, hz']))
                                                            | (with_reducible refine dn_i follows_any (by kernel_rfl) ?_)
                                                            | (with_reducible exact done_eq rfl)
                                                            | (simp -dsimp [b1, hlt, hw, hkl, hk, hz, hz']))); (all_goals try with_reducible refine done_eq ?_)
            refine go _ ?_
            exact Weak.same (by simp -dsimp) (by simp -dsimp) (by first | rfl | (simp [closedSt, Av.ids, Ow.ids, Cl.ids, Go.Smd.keys]; done))
        · have hz' : ¬ (0 : Int) < ks2.length := by omega
          have ho : okLE (toLE p[i]) = false := by rw [ho]; simp [hz, hk]
          rw [ho] at go
          cases B
          all_goals
            (repeat' (first
                                                            | (with_reducible refine br_d (fun _ => ?_) (fun _ => ?_))
                                                            | (with_reducible refine br_i (fun _ => ?_) (fun _ => ?_))
                                                            | (with_reducible refine nd_v (hc) (by first | rfl | (simp -dsimp [b1, hlt, hw, hkl, hk, hz, hz']; done)) ?_)
                                                            | (with_reducible refine nw_v (hc) rfl (by first | rfl | (simp -dsimp [b1, hlt, hw, hkl, hk, hz, hz']; done)) (by first | rfl | (simp -dsimp [b1, hlt, hw, hkl, hk, hz, hz']; done)) ?_)
                                                            | ((with_reducible apply nd_next); (case hx => simp -dsimp [b1, hlt, hw, hkl, hk, hz, hz']; first | done | with_reducible rfl); (case hid => simp -dsimp [b1, hlt, hw, hkl, hk, hz, hz']; first | done | with_reducible rfl | exact ⟨rfl, rfl, rfl⟩ | exact ⟨rfl, rfl⟩); (case' h1 => intro _ _ _); (case' h0 => intro _))
                                                            | ((with_reducible apply nd_entry); (case hx => simp -dsimp [b1, hlt, hw, hkl, hk, hz, hz']; first | done | with_reducible rfl); (case hid => simp -dsimp [b1, hlt, hw, hkl, hk, hz, hz']; first | done | with_reducible rfl | exact ⟨rfl, rfl, rfl⟩ | exact ⟨rfl, rfl⟩))
                                                            | ((with_reducible apply nd_range); (case hx => simp -dsimp [b1, hlt, hw, hkl, hk, hz, hz']; with_reducible rfl); (case hT => simp -dsimp [b1, hlt, hw, hkl, hk, hz, hz']); (case hnd => assumption); (case hz => simp -dsimp [b1, hlt, hw, hkl, hk, hz, hz']))
                                                            | (with_reducible refine dn_i follows_any (by kernel_rfl) ?_)
                                                            | (with_reducible exact done_eq rfl)
                                                            | (simp -dsimp [b1, hlt, hw, hkl, hk, hz, hz']))); (all_goals try with_reducible refine done_eq ?_)
            refine go _ ?_
            exact Weak.same (by simp -dsimp) (by simp -dsimp) (by first | rfl | (simp [closedSt, Av.ids, Ow.ids, Cl.ids, Go.Smd.keys]; done))
      · have ho : okLE (toLE p[i]) = true := by rw [ho]; simp [hk]
        rw [ho] at go
        cases B
        all_goals
          (repeat' (first
                                                            | (with_reducible refine br_d (fun _ => ?_) (fun _ => ?_))
                                                            | (with_reducible refine br_i (fun _ => ?_) (fun _ => ?_))
                                                            | (with_reducible refine nd_v (hc) (by first | rfl | (simp -dsimp [b1, hlt, hw, hkl, hk]; done)) ?_)
                                                            | (with_reducible refine nw_v (hc) rfl (by first | rfl | (simp -dsimp [b1, hlt, hw, hkl, hk]; done)) (by first | rfl | (simp -dsimp [b1, hlt, hw, hkl, hk]; done)) ?_)
                                                            | ((with_reducible apply nd_next); (case hx => simp -dsimp [b1, hlt, hw, hkl, hk]; first | done | with_reducible rfl); (case hid => simp -dsimp [b1, hlt, hw, hkl, hk]; first | done | with_reducible rfl | exact ⟨rfl, rfl, rfl⟩ | exact ⟨rfl, rfl⟩); (case' h1 => intro _ _ _); (case' h0 => intro _))
                                                            | ((with_reducible apply nd_entry); (case hx => simp -dsimp [b1, hlt, hw, hkl, hk]; first | done | with_reducible rfl); (case hid => simp -dsimp [b1, hlt, hw, hkl, hk]; first | done | with_reducible rfl | exact ⟨rfl, rfl, rfl⟩ | exact ⟨rfl, rfl⟩))
                                                            | ((with_reducible apply nd_range); (case hx => simp -dsimp [b1, hlt, hw, hkl, hk]; with_reducible rfl); (case hT => simp -dsimp [b1, hlt, hw, hkl, hk]); (case hnd => assumption); (case hz => simp -dsimp [b1, hlt, hw, hkl, hk]))
                                                            | (with_reducible refine dn_i follows_any (by kernel_rfl) ?_)
                                                            | (with_reducible exact done_eq rfl)
                                                            | (simp -dsimp [b1, hlt, hw, hkl, hk]))); (all_goals try with_reducible refine done_eq ?_)
          refine go _ ?_
          exact Weak.same (by simp -dsimp) (by simp -dsimp) (by first | rfl | (simp [closedSt, Av.ids, Ow.ids, Cl.ids, Go.Smd.keys]; done))
    · have e1 : p.take i = p := List.take_of_length_le (by omega)
      have e2 : (p.all fun e => okLE (toLE e)) = (p.map toLE).all okLE := by rw [List.all_map]; rfl
      rw [e1, e2]
      by_cases hall : (p.map toLE).all okLE = true
      · rw [if_pos hall] at hm
        rw [hall]
        (repeat' (first
                                                            | (with_reducible refine br_d (fun _ => ?_) (fun _ => ?_))
                                                            | (with_reducible refine br_i (fun _ => ?_) (fun _ => ?_))
                                                            | (with_reducible refine nd_v (hm) (by first | rfl | (simp -dsimp [hlt]; done)) ?_)
                                                            | (with_reducible refine nw_v (hm) rfl (by first | rfl | (simp -dsimp [hlt]; done)) (by first | rfl | (simp -dsimp [hlt]; done)) ?_)
                                                            | (with_reducible refine nd_v (hs) (by first | rfl | (simp -dsimp [hlt]; done)) ?_)
                                                            | (with_reducible refine nw_v (hs) rfl (by first | rfl | (simp -dsimp [hlt]; done)) (by first | rfl | (simp -dsimp [hlt]; done)) ?_)
                                                            | ((with_reducible apply nd_next); (case hx => simp -dsimp [hlt]; first | done | with_reducible rfl); (case hid => simp -dsimp [hlt]; first | done | with_reducible rfl | exact ⟨rfl, rfl, rfl⟩ | exact ⟨rfl, rfl⟩); (case' h1 => intro _ _ _); (case' h0 => intro _))
                                                            | ((with_reducible apply nd_entry); (case hx => simp -dsimp [hlt]; first | done | with_reducible rfl); (case hid => simp -dsimp [hlt]; first | done | with_reducible rfl | exact ⟨rfl, rfl, rfl⟩ | exact ⟨rfl, rfl⟩))
                                                            | ((with_reducible apply nd_range); (case hx => simp -dsimp [hlt]; with_reducible rfl); (case hT => simp -dsimp [hlt]); (case hnd => assumption); (case hz => simp -dsimp [hlt]))
                                                            | (with_reducible refine dn_i follows_any (by kernel_rfl) ?_)
                                                            | (with_reducible exact done_eq rfl)
                                                            | (simp -dsimp [hlt]))); (all_goals try with_reducible refine done_eq ?_)
      · rw [if_neg hall] at hm
        have hall : (p.map toLE).all okLE = false := by simpa using hall
        rw [hall]
        (repeat' (first
                                                            | (with_reducible refine br_d (fun _ => ?_) (fun _ => ?_))
                                                            | (with_reducible refine br_i (fun _ => ?_) (fun _ => ?_))
                                                            | (with_reducible refine nd_v (hm) (by first | rfl | (simp -dsimp [hlt]; done)) ?_)
                                                            | (with_reducible refine nw_v (hm) rfl (by first | rfl | (simp -dsimp [hlt]; done)) (by first | rfl | (simp -dsimp [hlt]; done)) ?_)
                                                            | ((with_reducible apply nd_next); (case hx => simp -dsimp [hlt]; first | done | with_reducible rfl); (case hid => simp -dsimp [hlt]; first | done | with_reducible rfl | exact ⟨rfl, rfl, rfl⟩ | exact ⟨rfl, rfl⟩); (case' h1 => intro _ _ _); (case' h0 => intro _))
                                                            | ((with_reducible apply nd_entry); (case hx => simp -dsimp [hlt]; first | done | with_reducible rfl); (case hid => simp -dsimp [hlt]; first | done | with_reducible rfl | exact ⟨rfl, rfl, rfl⟩ | exact ⟨rfl, rfl⟩))
                                                            | ((with_reducible apply nd_range); (case hx => simp -dsimp [hlt]; with_reducible rfl); (case hT => simp -dsimp [hlt]); (case hnd => assumption); (case hz => simp -dsimp [hlt]))
                                                            | (with_reducible refine dn_i follows_any (by kernel_rfl) ?_)
                                                            | (with_reducible exact done_eq rfl)
                                                            | (simp -dsimp [hlt]))); (all_goals try with_reducible refine done_eq ?_)
end Go.Smd
end
