/- Values held equal, by value: lists, maps' closure, kinds. -/
import Derived.Test.YtphldfnnjoehpaaMs
import Derived.Test.YtphldfnnjoehpaaAr
import Derived.Test.YtphldfnnjoehpaaVh
set_option linter.unusedSimpArgs false
set_option maxRecDepth 100000
set_option maxHeartbeats 8000000
namespace Go.Smd
open Go.RowKit Go.Proofs

abbrev fEqualsUsing : FuncId := 115
abbrev dLp (l : List Tree) : D := .ifc 302 (.pt [dAny l])
def eqL (e : Tree → Tree → Bool) : List Tree → List Tree → Bool
  | [], [] => true
  | x :: xs, y :: ys => e x y && eqL e xs ys
  | _, _ => false
theorem eqL_len {e : Tree → Tree → Bool} : ∀ {l m : List Tree}, l.length ≠ m.length → eqL e l m = false
  | [], [], h => absurd rfl h
  | [], _ :: _, _ => rfl
  | _ :: _, [], _ => rfl
  | x :: xs, y :: ys, h => by simp only [eqL]; rw [eqL_len (by simpa using h)]; simp
theorem listEqualsUsing_a (e : Tree → Tree → Bool) (l m : List Tree) (hl : l.length ≤ 140737488351232) (hm : m.length ≤ 140737488351232)
    (hc : ∀ x ∈ l, ∀ y ∈ m, ACalls Try.prog fEqualsUsing [aAlloc, .c (.d (dV x)), .c (.d (dV y))] (fun r => r = aV (.bool (e x y)))) (d : D) (hd : d = dL l ∨ d = dLp l) :
    ACalls Try.prog 182 [aAlloc, .c (.d d), .c (.d (dL m))] (fun r => r = aV (.bool (eqL e l m))) := by
  have hl2 : l.length ≤ 9223372036854775807 := by omega
  have hm2 : m.length ≤ 9223372036854775807 := by omega
  rcases hd with rfl | rfl
  all_goals
    by_cases hlen : l.length = m.length
    · have hi : (l.length : Int) = m.length := by omega
      by_cases hl0 : l = []
      · subst hl0
        have hm0 : m = [] := List.eq_nil_of_length_eq_zero hlen.symm
        subst hm0
        refine acalls_ex [] Try.func182 (by kernel_rfl) rfl Try.ntmps182 Try.results182 (Nat.le_of_ble_eq_true (by kernel_rfl)) ?_; intro hok w0 S0
        (repeat' (first
                                                            | (with_reducible refine br_d (fun _ => ?_) (fun _ => ?_))
                                                            | (with_reducible refine br_i (fun _ => ?_) (fun _ => ?_))
                                                            | ((with_reducible apply nd_i [] (f := 179)); (case hc => simp -dsimp [hl2, hm2]; first | exact ⟨rfl, rfl⟩ | exact ⟨rfl, rfl, rfl⟩); (case hf => exact Try.func179); (case hA => simp -dsimp [hl2, hm2] <;> with_reducible rfl); (case hok => simp -dsimp [hl2, hm2]); (case hY => simp -dsimp [hl2, hm2] <;> with_reducible rfl); (case hO => simp -dsimp [hl2, hm2] <;> with_reducible rfl); (case hn => kernel_rfl); (case hb => rfl); (case hN => exact Try.ntmps179); (case hrs => exact Try.results179); (case hl => exact Nat.le_of_ble_eq_true (by kernel_rfl)); intro hok w0 S0)
                                                            | ((with_reducible apply nd_i [] (f := 181)); (case hc => simp -dsimp [hl2, hm2]; first | exact ⟨rfl, rfl⟩ | exact ⟨rfl, rfl, rfl⟩); (case hf => exact Try.func181); (case hA => simp -dsimp [hl2, hm2] <;> with_reducible rfl); (case hok => simp -dsimp [hl2, hm2]); (case hY => simp -dsimp [hl2, hm2] <;> with_reducible rfl); (case hO => simp -dsimp [hl2, hm2] <;> with_reducible rfl); (case hn => kernel_rfl); (case hb => rfl); (case hN => exact Try.ntmps181); (case hrs => exact Try.results181); (case hl => exact Nat.le_of_ble_eq_true (by kernel_rfl)); intro hok w0 S0)
                                                            | ((with_reducible apply nd_defer); (case hx => simp -dsimp [hl2, hm2]; with_reducible rfl); (case hd => exact free_any))
                                                            | ((with_reducible apply nd_next); (case hx => simp -dsimp [hl2, hm2]; first | done | with_reducible rfl); (case hid => simp -dsimp [hl2, hm2]; first | done | with_reducible rfl | exact ⟨rfl, rfl, rfl⟩ | exact ⟨rfl, rfl⟩); (case' h1 => intro _ _ _); (case' h0 => intro _))
                                                            | ((with_reducible apply nd_entry); (case hx => simp -dsimp [hl2, hm2]; first | done | with_reducible rfl); (case hid => simp -dsimp [hl2, hm2]; first | done | with_reducible rfl | exact ⟨rfl, rfl, rfl⟩ | exact ⟨rfl, rfl⟩))
                                                            | ((with_reducible apply nd_range); (case hx => simp -dsimp [hl2, hm2]; with_reducible rfl); (case hT => simp -dsimp [hl2, hm2]); (case hnd => assumption); (case hz => simp -dsimp [hl2, hm2]))
                                                            | (with_reducible refine dn_i follows_any (by kernel_rfl) ?_)
                                                            | (with_reducible exact done_eq rfl)
                                                            | (simp -dsimp [hl2, hm2]))); (all_goals try with_reducible refine done_eq ?_)
        refine ex_loop (fun _ : Unit => ⟨[(0, aAlloc), (7, .c (.io 303 21010 0)), (8, .c (.io 303 27010 0))], [(21010, .cells [] 304), (27010, .cells [] 304)]⟩) (fun _ => True) (fun _ => 0) () ?_ trivial ?_
        · exact Weak.same (by simp -dsimp) (by simp -dsimp) (by first | rfl | (simp [closedSt, Av.ids, Ow.ids, Cl.ids, Go.Smd.keys]; done))
        · rintro _ _ K hK
          (repeat' (first
                                                            | (with_reducible refine br_d (fun _ => ?_) (fun _ => ?_))
                                                            | (with_reducible refine br_i (fun _ => ?_) (fun _ => ?_))
                                                            | ((with_reducible apply nd_i [] (f := 205)); (case hc => simp -dsimp; first | exact ⟨rfl, rfl⟩ | exact ⟨rfl, rfl, rfl⟩); (case hf => exact Try.func205); (case hA => simp -dsimp <;> with_reducible rfl); (case hok => simp -dsimp); (case hY => simp -dsimp <;> with_reducible rfl); (case hO => simp -dsimp <;> with_reducible rfl); (case hn => kernel_rfl); (case hb => rfl); (case hN => exact Try.ntmps205); (case hrs => exact Try.results205); (case hl => exact Nat.le_of_ble_eq_true (by kernel_rfl)); intro hok w0 S0)
                                                            | ((with_reducible apply nd_next); (case hx => simp -dsimp; first | done | with_reducible rfl); (case hid => simp -dsimp; first | done | with_reducible rfl | exact ⟨rfl, rfl, rfl⟩ | exact ⟨rfl, rfl⟩); (case' h1 => intro _ _ _); (case' h0 => intro _))
                                                            | ((with_reducible apply nd_entry); (case hx => simp -dsimp; first | done | with_reducible rfl); (case hid => simp -dsimp; first | done | with_reducible rfl | exact ⟨rfl, rfl, rfl⟩ | exact ⟨rfl, rfl⟩))
                                                            | ((with_reducible apply nd_range); (case hx => simp -dsimp; with_reducible rfl); (case hT => simp -dsimp); (case hnd => assumption); (case hz => simp -dsimp))
                                                            | (with_reducible refine dn_i follows_any (by kernel_rfl) ?_)
                                                            | (with_reducible exact done_eq rfl)
                                                            | (simp -dsimp))); (all_goals try with_reducible refine done_eq ?_)
          all_goals rfl
      · have hm0 : m ≠ [] := fun h => hl0 (List.eq_nil_of_length_eq_zero (by rw [hlen, h]; rfl))
        refine acalls_ex [] Try.func182 (by kernel_rfl) rfl Try.ntmps182 Try.results182 (Nat.le_of_ble_eq_true (by kernel_rfl)) ?_; intro hok w0 S0
        (repeat' (first
                                                            | (with_reducible refine br_d (fun _ => ?_) (fun _ => ?_))
                                                            | (with_reducible refine br_i (fun _ => ?_) (fun _ => ?_))
                                                            | ((with_reducible apply nd_i [] (f := 179)); (case hc => simp -dsimp [hl2, hm2, hi, hl0, hm0]; first | exact ⟨rfl, rfl⟩ | exact ⟨rfl, rfl, rfl⟩); (case hf => exact Try.func179); (case hA => simp -dsimp [hl2, hm2, hi, hl0, hm0] <;> with_reducible rfl); (case hok => simp -dsimp [hl2, hm2, hi, hl0, hm0]); (case hY => simp -dsimp [hl2, hm2, hi, hl0, hm0] <;> with_reducible rfl); (case hO => simp -dsimp [hl2, hm2, hi, hl0, hm0] <;> with_reducible rfl); (case hn => kernel_rfl); (case hb => rfl); (case hN => exact Try.ntmps179); (case hrs => exact Try.results179); (case hl => exact Nat.le_of_ble_eq_true (by kernel_rfl)); intro hok w0 S0)
                                                            | ((with_reducible apply nd_i [] (f := 181)); (case hc => simp -dsimp [hl2, hm2, hi, hl0, hm0]; first | exact ⟨rfl, rfl⟩ | exact ⟨rfl, rfl, rfl⟩); (case hf => exact Try.func181); (case hA => simp -dsimp [hl2, hm2, hi, hl0, hm0] <;> with_reducible rfl); (case hok => simp -dsimp [hl2, hm2, hi, hl0, hm0]); (case hY => simp -dsimp [hl2, hm2, hi, hl0, hm0] <;> with_reducible rfl); (case hO => simp -dsimp [hl2, hm2, hi, hl0, hm0] <;> with_reducible rfl); (case hn => kernel_rfl); (case hb => rfl); (case hN => exact Try.ntmps181); (case hrs => exact Try.results181); (case hl => exact Nat.le_of_ble_eq_true (by kernel_rfl)); intro hok w0 S0)
                                                            | ((with_reducible apply nd_i [] (f := 208)); (case hc => simp -dsimp [hl2, hm2, hi, hl0, hm0]; first | exact ⟨rfl, rfl⟩ | exact ⟨rfl, rfl, rfl⟩); (case hf => exact Try.func208); (case hA => simp -dsimp [hl2, hm2, hi, hl0, hm0] <;> with_reducible rfl); (case hok => simp -dsimp [hl2, hm2, hi, hl0, hm0]); (case hY => simp -dsimp [hl2, hm2, hi, hl0, hm0] <;> with_reducible rfl); (case hO => simp -dsimp [hl2, hm2, hi, hl0, hm0] <;> with_reducible rfl); (case hn => kernel_rfl); (case hb => rfl); (case hN => exact Try.ntmps208); (case hrs => exact Try.results208); (case hl => exact Nat.le_of_ble_eq_true (by kernel_rfl)); intro hok w0 S0)
                                                            | ((with_reducible apply nd_defer); (case hx => simp -dsimp [hl2, hm2, hi, hl0, hm0]; with_reducible rfl); (case hd => exact free_any))
                                                            | ((with_reducible apply nd_next); (case hx => simp -dsimp [hl2, hm2, hi, hl0, hm0]; first | done | with_reducible rfl); (case hid => simp -dsimp [hl2, hm2, hi, hl0, hm0]; first | done | with_reducible rfl | exact ⟨rfl, rfl, rfl⟩ | exact ⟨rfl, rfl⟩); (case' h1 => intro _ _ _); (case' h0 => intro _))
                                                            | ((with_reducible apply nd_entry); (case hx => simp -dsimp [hl2, hm2, hi, hl0, hm0]; first | done | with_reducible rfl); (case hid => simp -dsimp [hl2, hm2, hi, hl0, hm0]; first | done | with_reducible rfl | exact ⟨rfl, rfl, rfl⟩ | exact ⟨rfl, rfl⟩))
                                                            | ((with_reducible apply nd_range); (case hx => simp -dsimp [hl2, hm2, hi, hl0, hm0]; with_reducible rfl); (case hT => simp -dsimp [hl2, hm2, hi, hl0, hm0]); (case hnd => assumption); (case hz => simp -dsimp [hl2, hm2, hi, hl0, hm0]))
                                                            | (with_reducible refine dn_i follows_any (by kernel_rfl) ?_)
                                                            | (with_reducible exact done_eq rfl)
                                                            | (simp -dsimp [hl2, hm2, hi, hl0, hm0]))); (all_goals try with_reducible refine done_eq ?_)
        refine ex_loop (fun i : Nat => ⟨[(0, aAlloc), (7, .c (.io 305 35006 0)), (8, .c (.io 305 41006 0))], [(35006, cRng l 35004 ((i : Int) - 1)), (35004, cVU (yv l i)), (41006, cRng m 41004 ((i : Int) - 1)), (41004, cVU (yv m i))]⟩) (fun i => i ≤ l.length ∧ eqL e l m = eqL e (l.drop i) (m.drop i)) (fun i => l.length - i) 0 ?_ ⟨Nat.zero_le _, rfl⟩ ?_
        · exact Weak.same (by simp -dsimp [yv]) (by simp -dsimp [yv]) (by first | rfl | (simp [closedSt, Av.ids, Ow.ids, Cl.ids, Go.Smd.keys]; done))
        · rintro i ⟨hi1, hi3⟩ K hK
          have a1 : ((i : Int) - 1) + 1 = (i : Int) := by omega
          have hn1 := next_p l ((i : Int) - 1) (by omega) (by omega) hl (yv l i)
          have hn2 := next_p m ((i : Int) - 1) (by omega) (by omega) hm (yv m i)
          rw [a1] at hn1 hn2
          by_cases c1 : i < l.length
          · have c2 : i < m.length := by omega
            have hcons : eqL e (l.drop i) (m.drop i) = (e l[i] m[i] && eqL e (l.drop (i + 1)) (m.drop (i + 1))) := by rw [List.drop_eq_getElem_cons c1, List.drop_eq_getElem_cons c2]; rfl
            have hi : ((i : Int) < l.length) := by omega
            have hj : ((i : Int) < m.length) := by omega
            (repeat' (first
                                                            | (with_reducible refine br_d (fun _ => ?_) (fun _ => ?_))
                                                            | (with_reducible refine br_i (fun _ => ?_) (fun _ => ?_))
                                                            | ((with_reducible apply nd_q (ρ := [(1000000000, 35006), (1000000001, 35004)]) 7 (hn1)); (case hc => simp -dsimp [c1, c2, hi, hj] <;> first | exact ⟨rfl, rfl, rfl⟩ | exact ⟨rfl, rfl⟩ | done); (case hx => simp -dsimp [c1, c2, hi, hj] <;> with_reducible rfl); (case ho => simp -dsimp [c1, c2, hi, hj]); (case hh => simp -dsimp [c1, c2, hi, hj]); (case hb => simp -dsimp [c1, c2, hi, hj]))
                                                            | ((with_reducible apply nd_q (ρ := [(1000000000, 41006), (1000000001, 41004)]) 7 (hn2)); (case hc => simp -dsimp [c1, c2, hi, hj] <;> first | exact ⟨rfl, rfl, rfl⟩ | exact ⟨rfl, rfl⟩ | done); (case hx => simp -dsimp [c1, c2, hi, hj] <;> with_reducible rfl); (case ho => simp -dsimp [c1, c2, hi, hj]); (case hh => simp -dsimp [c1, c2, hi, hj]); (case hb => simp -dsimp [c1, c2, hi, hj]))
                                                            | ((with_reducible apply nd_q (ρ := [(1000000000, 35006), (1000000001, 35004)]) 7 (item_p l i c1 hl (yv l i))); (case hc => simp -dsimp [c1, c2, hi, hj] <;> first | exact ⟨rfl, rfl, rfl⟩ | exact ⟨rfl, rfl⟩ | done); (case hx => simp -dsimp [c1, c2, hi, hj] <;> with_reducible rfl); (case ho => simp -dsimp [c1, c2, hi, hj]); (case hh => simp -dsimp [c1, c2, hi, hj]); (case hb => simp -dsimp [c1, c2, hi, hj]))
                                                            | ((with_reducible apply nd_q (ρ := [(1000000000, 41006), (1000000001, 41004)]) 7 (item_p m i c2 hm (yv m i))); (case hc => simp -dsimp [c1, c2, hi, hj] <;> first | exact ⟨rfl, rfl, rfl⟩ | exact ⟨rfl, rfl⟩ | done); (case hx => simp -dsimp [c1, c2, hi, hj] <;> with_reducible rfl); (case ho => simp -dsimp [c1, c2, hi, hj]); (case hh => simp -dsimp [c1, c2, hi, hj]); (case hb => simp -dsimp [c1, c2, hi, hj]))
                                                            | (with_reducible refine nd_lv (hc _ (List.getElem_mem c1) _ (List.getElem_mem c2)) (by first | rfl | (simp -dsimp [c1, c2, hi, hj]; done)) rfl ?_)
                                                            | ((with_reducible apply nd_next); (case hx => simp -dsimp [c1, c2, hi, hj]; first | done | with_reducible rfl); (case hid => simp -dsimp [c1, c2, hi, hj]; first | done | with_reducible rfl | exact ⟨rfl, rfl, rfl⟩ | exact ⟨rfl, rfl⟩); (case' h1 => intro _ _ _); (case' h0 => intro _))
                                                            | ((with_reducible apply nd_entry); (case hx => simp -dsimp [c1, c2, hi, hj]; first | done | with_reducible rfl); (case hid => simp -dsimp [c1, c2, hi, hj]; first | done | with_reducible rfl | exact ⟨rfl, rfl, rfl⟩ | exact ⟨rfl, rfl⟩))
                                                            | ((with_reducible apply nd_range); (case hx => simp -dsimp [c1, c2, hi, hj]; with_reducible rfl); (case hT => simp -dsimp [c1, c2, hi, hj]); (case hnd => assumption); (case hz => simp -dsimp [c1, c2, hi, hj]))
                                                            | (with_reducible refine dn_i follows_any (by kernel_rfl) ?_)
                                                            | (with_reducible exact done_eq rfl)
                                                            | (simp -dsimp [c1, c2, hi, hj]))); (all_goals try with_reducible refine done_eq ?_)
            · rename_i hn
              have hn : e l[i] m[i] = false := by simpa using hn
              rw [hi3, hcons, hn]; rfl
            · rename_i hn
              have hn : e l[i] m[i] = true := by simpa using hn
              refine hK _ (i + 1) ?_ ⟨by omega, by rw [hi3, hcons, hn]; rfl⟩ (by omega)
              have a3 : (((i + 1 : Nat) : Int) - 1) = i := by omega
              have hy1 : yv l (i + 1) = .tr l[i] := by simp [yv, c1]
              have hy2 : yv m (i + 1) = .tr m[i] := by simp [yv, c2]
              exact Weak.same (by simp -dsimp [a3, hy1, hy2]) (by simp -dsimp [a3, hy1, hy2]) (by first | rfl | (simp [closedSt, Av.ids, Ow.ids, Cl.ids, Go.Smd.keys]; done))
          · have hi : ¬ ((i : Int) < l.length) := by omega
            have hj : ¬ ((i : Int) < m.length) := by omega
            (repeat' (first
                                                            | (with_reducible refine br_d (fun _ => ?_) (fun _ => ?_))
                                                            | (with_reducible refine br_i (fun _ => ?_) (fun _ => ?_))
                                                            | ((with_reducible apply nd_q (ρ := [(1000000000, 35006), (1000000001, 35004)]) 7 (hn1)); (case hc => simp -dsimp [c1, hi, hj] <;> first | exact ⟨rfl, rfl, rfl⟩ | exact ⟨rfl, rfl⟩ | done); (case hx => simp -dsimp [c1, hi, hj] <;> with_reducible rfl); (case ho => simp -dsimp [c1, hi, hj]); (case hh => simp -dsimp [c1, hi, hj]); (case hb => simp -dsimp [c1, hi, hj]))
                                                            | ((with_reducible apply nd_q (ρ := [(1000000000, 41006), (1000000001, 41004)]) 7 (hn2)); (case hc => simp -dsimp [c1, hi, hj] <;> first | exact ⟨rfl, rfl, rfl⟩ | exact ⟨rfl, rfl⟩ | done); (case hx => simp -dsimp [c1, hi, hj] <;> with_reducible rfl); (case ho => simp -dsimp [c1, hi, hj]); (case hh => simp -dsimp [c1, hi, hj]); (case hb => simp -dsimp [c1, hi, hj]))
                                                            | ((with_reducible apply nd_next); (case hx => simp -dsimp [c1, hi, hj]; first | done | with_reducible rfl); (case hid => simp -dsimp [c1, hi, hj]; first | done | with_reducible rfl | exact ⟨rfl, rfl, rfl⟩ | exact ⟨rfl, rfl⟩); (case' h1 => intro _ _ _); (case' h0 => intro _))
                                                            | ((with_reducible apply nd_entry); (case hx => simp -dsimp [c1, hi, hj]; first | done | with_reducible rfl); (case hid => simp -dsimp [c1, hi, hj]; first | done | with_reducible rfl | exact ⟨rfl, rfl, rfl⟩ | exact ⟨rfl, rfl⟩))
                                                            | ((with_reducible apply nd_range); (case hx => simp -dsimp [c1, hi, hj]; with_reducible rfl); (case hT => simp -dsimp [c1, hi, hj]); (case hnd => assumption); (case hz => simp -dsimp [c1, hi, hj]))
                                                            | (with_reducible refine dn_i follows_any (by kernel_rfl) ?_)
                                                            | (with_reducible exact done_eq rfl)
                                                            | (simp -dsimp [c1, hi, hj]))); (all_goals try with_reducible refine done_eq ?_)
            all_goals (rw [hi3, List.drop_eq_nil_of_le (show l.length ≤ i by omega), List.drop_eq_nil_of_le (show m.length ≤ i by omega)]; rfl)
    · have hi : ¬ (l.length : Int) = m.length := by omega
      refine acalls_ex [] Try.func182 (by kernel_rfl) rfl Try.ntmps182 Try.results182 (Nat.le_of_ble_eq_true (by kernel_rfl)) ?_; intro hok w0 S0
      (repeat' (first
                                                            | (with_reducible refine br_d (fun _ => ?_) (fun _ => ?_))
                                                            | (with_reducible refine br_i (fun _ => ?_) (fun _ => ?_))
                                                            | ((with_reducible apply nd_i [] (f := 179)); (case hc => simp -dsimp [hl2, hm2, hi]; first | exact ⟨rfl, rfl⟩ | exact ⟨rfl, rfl, rfl⟩); (case hf => exact Try.func179); (case hA => simp -dsimp [hl2, hm2, hi] <;> with_reducible rfl); (case hok => simp -dsimp [hl2, hm2, hi]); (case hY => simp -dsimp [hl2, hm2, hi] <;> with_reducible rfl); (case hO => simp -dsimp [hl2, hm2, hi] <;> with_reducible rfl); (case hn => kernel_rfl); (case hb => rfl); (case hN => exact Try.ntmps179); (case hrs => exact Try.results179); (case hl => exact Nat.le_of_ble_eq_true (by kernel_rfl)); intro hok w0 S0)
                                                            | ((with_reducible apply nd_next); (case hx => simp -dsimp [hl2, hm2, hi]; first | done | with_reducible rfl); (case hid => simp -dsimp [hl2, hm2, hi]; first | done | with_reducible rfl | exact ⟨rfl, rfl, rfl⟩ | exact ⟨rfl, rfl⟩); (case' h1 => intro _ _ _); (case' h0 => intro _))
                                                            | ((with_reducible apply nd_entry); (case hx => simp -dsimp [hl2, hm2, hi]; first | done | with_reducible rfl); (case hid => simp -dsimp [hl2, hm2, hi]; first | done | with_reducible rfl | exact ⟨rfl, rfl, rfl⟩ | exact ⟨rfl, rfl⟩))
                                                            | ((with_reducible apply nd_range); (case hx => simp -dsimp [hl2, hm2, hi]; with_reducible rfl); (case hT => simp -dsimp [hl2, hm2, hi]); (case hnd => assumption); (case hz => simp -dsimp [hl2, hm2, hi]))
                                                            | (with_reducible refine dn_i follows_any (by kernel_rfl) ?_)
                                                            | (with_reducible exact done_eq rfl)
                                                            | (simp -dsimp [hl2, hm2, hi]))); (all_goals try with_reducible refine done_eq ?_)
      all_goals (rw [eqL_len hlen])
end Go.Smd
