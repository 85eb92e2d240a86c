/- Comparing lists of trees, by value: the walk. -/
import Derived.Test.YtphldfnnjoehpaaMs
import Derived.Test.YtphldfnnjoehpaaVb
set_option linter.unusedSimpArgs false
set_option maxRecDepth 100000
set_option maxHeartbeats 8000000
namespace Go.Smd
open Go.RowKit Go.Proofs

/-- Lists item by item. -/
def cmpL (c : Tree → Tree → Int) : List Tree → List Tree → Int
  | [], [] => 0
  | [], _ :: _ => -1
  | _ :: _, [] => 1
  | x :: xs, y :: ys => if c x y ≠ 0 then c x y else cmpL c xs ys
/-- What the range's value holds when i items have come. -/
def yv (l : List Tree) : Nat → D
  | 0 => .v .nilIface
  | i + 1 => .tr (l.getD i .nil)
abbrev fCompareUsing : FuncId := 114
theorem listCompareUsing_a (c : Tree → Tree → Int) (l m : List Tree) (hl : l.length ≤ 140737488351232) (hm : m.length ≤ 140737488351232)
    (hc : ∀ x ∈ l, ∀ y ∈ m, ACalls Try.prog fCompareUsing [aAlloc, .c (.d (dV x)), .c (.d (dV y))] (fun r => r = aV (.int .i64 (c x y)))) :
    ACalls Try.prog 128 [aAlloc, .c (.d (dL l)), .c (.d (dL m))] (fun r => r = aV (.int .i64 (cmpL c l m))) := by
  have hl2 : l.length ≤ 9223372036854775807 := by omega
  have hm2 : m.length ≤ 9223372036854775807 := by omega
  refine acalls_ex [] Try.func128 (by kernel_rfl) rfl Try.ntmps128 Try.results128 (Nat.le_of_ble_eq_true (by kernel_rfl)) ?_; intro hok w0 S0
  (repeat' (first
                                                            | (with_reducible refine br_d (fun _ => ?_) (fun _ => ?_))
                                                            | (with_reducible refine br_i (fun _ => ?_) (fun _ => ?_))
                                                            | ((with_reducible apply nd_i [] (f := 181)); (case hc => simp -dsimp [hl2, hm2]; first | exact ⟨rfl, rfl⟩ | exact ⟨rfl, rfl, rfl⟩); (case hf => exact Try.func181); (case hA => simp -dsimp [hl2, hm2] <;> with_reducible rfl); (case hok => simp -dsimp [hl2, hm2]); (case hY => simp -dsimp [hl2, hm2] <;> with_reducible rfl); (case hO => simp -dsimp [hl2, hm2] <;> with_reducible rfl); (case hn => kernel_rfl); (case hb => rfl); (case hN => exact Try.ntmps181); (case hrs => exact Try.results181); (case hl => exact Nat.le_of_ble_eq_true (by kernel_rfl)); intro hok w0 S0)
                                                            | ((with_reducible apply nd_i [] (f := 208)); (case hc => simp -dsimp [hl2, hm2]; first | exact ⟨rfl, rfl⟩ | exact ⟨rfl, rfl, rfl⟩); (case hf => exact Try.func208); (case hA => simp -dsimp [hl2, hm2] <;> with_reducible rfl); (case hok => simp -dsimp [hl2, hm2]); (case hY => simp -dsimp [hl2, hm2] <;> with_reducible rfl); (case hO => simp -dsimp [hl2, hm2] <;> with_reducible rfl); (case hn => kernel_rfl); (case hb => rfl); (case hN => exact Try.ntmps208); (case hrs => exact Try.results208); (case hl => exact Nat.le_of_ble_eq_true (by kernel_rfl)); intro hok w0 S0)
                                                            | ((with_reducible apply nd_defer); (case hx => simp -dsimp [hl2, hm2]; with_reducible rfl); (case hd => exact free_any))
                                                            | ((with_reducible apply nd_next); (case hx => simp -dsimp [hl2, hm2]; first | done | with_reducible rfl); (case hid => simp -dsimp [hl2, hm2]; first | done | with_reducible rfl | exact ⟨rfl, rfl, rfl⟩ | exact ⟨rfl, rfl⟩); (case' h1 => intro _ _ _); (case' h0 => intro _))
                                                            | ((with_reducible apply nd_entry); (case hx => simp -dsimp [hl2, hm2]; first | done | with_reducible rfl); (case hid => simp -dsimp [hl2, hm2]; first | done | with_reducible rfl | exact ⟨rfl, rfl, rfl⟩ | exact ⟨rfl, rfl⟩))
                                                            | ((with_reducible apply nd_range); (case hx => simp -dsimp [hl2, hm2]; with_reducible rfl); (case hT => simp -dsimp [hl2, hm2]); (case hnd => assumption); (case hz => simp -dsimp [hl2, hm2]))
                                                            | (with_reducible refine dn_i follows_any (by kernel_rfl) ?_)
                                                            | (with_reducible exact done_eq rfl)
                                                            | (simp -dsimp [hl2, hm2]))); (all_goals try with_reducible refine done_eq ?_)
  · have e1 : l = [] := by assumption
    have e2 : m = [] := by assumption
    refine ex_loop (fun _ : Unit => ⟨[(0, aAlloc), (7, .c (.io 303 19010 0)), (8, .c (.io 303 25010 0))], [(19010, .cells [] 304), (25010, .cells [] 304)]⟩) (fun _ => True) (fun _ => 0) () ?_ trivial ?_
    · exact Weak.same (by simp -dsimp) (by simp -dsimp) (by first | rfl | (simp [closedSt, Av.ids, Ow.ids, Cl.ids, Go.Smd.keys]; done))
    · rintro _ _ K hK
      (repeat' (first
                                                            | (with_reducible refine br_d (fun _ => ?_) (fun _ => ?_))
                                                            | (with_reducible refine br_i (fun _ => ?_) (fun _ => ?_))
                                                            | ((with_reducible apply nd_i [] (f := 205)); (case hc => simp -dsimp; first | exact ⟨rfl, rfl⟩ | exact ⟨rfl, rfl, rfl⟩); (case hf => exact Try.func205); (case hA => simp -dsimp <;> with_reducible rfl); (case hok => simp -dsimp); (case hY => simp -dsimp <;> with_reducible rfl); (case hO => simp -dsimp <;> with_reducible rfl); (case hn => kernel_rfl); (case hb => rfl); (case hN => exact Try.ntmps205); (case hrs => exact Try.results205); (case hl => exact Nat.le_of_ble_eq_true (by kernel_rfl)); intro hok w0 S0)
                                                            | ((with_reducible apply nd_next); (case hx => simp -dsimp; first | done | with_reducible rfl); (case hid => simp -dsimp; first | done | with_reducible rfl | exact ⟨rfl, rfl, rfl⟩ | exact ⟨rfl, rfl⟩); (case' h1 => intro _ _ _); (case' h0 => intro _))
                                                            | ((with_reducible apply nd_entry); (case hx => simp -dsimp; first | done | with_reducible rfl); (case hid => simp -dsimp; first | done | with_reducible rfl | exact ⟨rfl, rfl, rfl⟩ | exact ⟨rfl, rfl⟩))
                                                            | ((with_reducible apply nd_range); (case hx => simp -dsimp; with_reducible rfl); (case hT => simp -dsimp); (case hnd => assumption); (case hz => simp -dsimp))
                                                            | (with_reducible refine dn_i follows_any (by kernel_rfl) ?_)
                                                            | (with_reducible exact done_eq rfl)
                                                            | (simp -dsimp))); (all_goals try with_reducible refine done_eq ?_)
      all_goals (subst e1; subst e2; rfl)
  · have e1 : l = [] := by assumption
    have e2 : m ≠ [] := by assumption
    have e3 : 0 < m.length := List.length_pos_iff.2 e2
    have e4 : (-1 : Int) + 1 < m.length := by omega
    refine ex_loop (fun _ : Unit => ⟨[(0, aAlloc), (7, .c (.io 303 19010 0)), (8, .c (.io 305 39006 0))], [(19010, .cells [] 304), (39006, cRng m 39004 (-1)), (39004, cVU (.v .nilIface))]⟩) (fun _ => True) (fun _ => 0) () ?_ trivial ?_
    · exact Weak.same (by simp -dsimp) (by simp -dsimp) (by first | rfl | (simp [closedSt, Av.ids, Ow.ids, Cl.ids, Go.Smd.keys]; done))
    · rintro _ _ K hK
      (repeat' (first
                                                            | (with_reducible refine br_d (fun _ => ?_) (fun _ => ?_))
                                                            | (with_reducible refine br_i (fun _ => ?_) (fun _ => ?_))
                                                            | ((with_reducible apply nd_i [] (f := 205)); (case hc => simp -dsimp [e3]; first | exact ⟨rfl, rfl⟩ | exact ⟨rfl, rfl, rfl⟩); (case hf => exact Try.func205); (case hA => simp -dsimp [e3] <;> with_reducible rfl); (case hok => simp -dsimp [e3]); (case hY => simp -dsimp [e3] <;> with_reducible rfl); (case hO => simp -dsimp [e3] <;> with_reducible rfl); (case hn => kernel_rfl); (case hb => rfl); (case hN => exact Try.ntmps205); (case hrs => exact Try.results205); (case hl => exact Nat.le_of_ble_eq_true (by kernel_rfl)); intro hok w0 S0)
                                                            | ((with_reducible apply nd_q (ρ := [(1000000000, 39006), (1000000001, 39004)]) 7 (next_p m (-1) (by omega) (by omega) hm (.v .nilIface))); (case hc => simp -dsimp [e3] <;> first | exact ⟨rfl, rfl, rfl⟩ | exact ⟨rfl, rfl⟩ | done); (case hx => simp -dsimp [e3] <;> with_reducible rfl); (case ho => simp -dsimp [e3]); (case hh => simp -dsimp [e3]); (case hb => simp -dsimp [e3]))
                                                            | ((with_reducible apply nd_next); (case hx => simp -dsimp [e3]; first | done | with_reducible rfl); (case hid => simp -dsimp [e3]; first | done | with_reducible rfl | exact ⟨rfl, rfl, rfl⟩ | exact ⟨rfl, rfl⟩); (case' h1 => intro _ _ _); (case' h0 => intro _))
                                                            | ((with_reducible apply nd_entry); (case hx => simp -dsimp [e3]; first | done | with_reducible rfl); (case hid => simp -dsimp [e3]; first | done | with_reducible rfl | exact ⟨rfl, rfl, rfl⟩ | exact ⟨rfl, rfl⟩))
                                                            | ((with_reducible apply nd_range); (case hx => simp -dsimp [e3]; with_reducible rfl); (case hT => simp -dsimp [e3]); (case hnd => assumption); (case hz => simp -dsimp [e3]))
                                                            | (with_reducible refine dn_i follows_any (by kernel_rfl) ?_)
                                                            | (with_reducible exact done_eq rfl)
                                                            | (simp -dsimp [e3]))); (all_goals try with_reducible refine done_eq ?_)
      all_goals (subst e1; cases m with | nil => exact absurd rfl e2 | cons y ys => rfl)
  · have e1 : l ≠ [] := by assumption
    have e2 : m = [] := by assumption
    have e3 : 0 < l.length := List.length_pos_iff.2 e1
    have e4 : (-1 : Int) + 1 < l.length := by omega
    refine ex_loop (fun _ : Unit => ⟨[(0, aAlloc), (7, .c (.io 305 33006 0)), (8, .c (.io 303 25010 0))], [(33006, cRng l 33004 (-1)), (33004, cVU (.v .nilIface)), (25010, .cells [] 304)]⟩) (fun _ => True) (fun _ => 0) () ?_ trivial ?_
    · exact Weak.same (by simp -dsimp) (by simp -dsimp) (by first | rfl | (simp [closedSt, Av.ids, Ow.ids, Cl.ids, Go.Smd.keys]; done))
    · rintro _ _ K hK
      (repeat' (first
                                                            | (with_reducible refine br_d (fun _ => ?_) (fun _ => ?_))
                                                            | (with_reducible refine br_i (fun _ => ?_) (fun _ => ?_))
                                                            | ((with_reducible apply nd_i [] (f := 205)); (case hc => simp -dsimp [e3]; first | exact ⟨rfl, rfl⟩ | exact ⟨rfl, rfl, rfl⟩); (case hf => exact Try.func205); (case hA => simp -dsimp [e3] <;> with_reducible rfl); (case hok => simp -dsimp [e3]); (case hY => simp -dsimp [e3] <;> with_reducible rfl); (case hO => simp -dsimp [e3] <;> with_reducible rfl); (case hn => kernel_rfl); (case hb => rfl); (case hN => exact Try.ntmps205); (case hrs => exact Try.results205); (case hl => exact Nat.le_of_ble_eq_true (by kernel_rfl)); intro hok w0 S0)
                                                            | ((with_reducible apply nd_q (ρ := [(1000000000, 33006), (1000000001, 33004)]) 7 (next_p l (-1) (by omega) (by omega) hl (.v .nilIface))); (case hc => simp -dsimp [e3] <;> first | exact ⟨rfl, rfl, rfl⟩ | exact ⟨rfl, rfl⟩ | done); (case hx => simp -dsimp [e3] <;> with_reducible rfl); (case ho => simp -dsimp [e3]); (case hh => simp -dsimp [e3]); (case hb => simp -dsimp [e3]))
                                                            | ((with_reducible apply nd_next); (case hx => simp -dsimp [e3]; first | done | with_reducible rfl); (case hid => simp -dsimp [e3]; first | done | with_reducible rfl | exact ⟨rfl, rfl, rfl⟩ | exact ⟨rfl, rfl⟩); (case' h1 => intro _ _ _); (case' h0 => intro _))
                                                            | ((with_reducible apply nd_entry); (case hx => simp -dsimp [e3]; first | done | with_reducible rfl); (case hid => simp -dsimp [e3]; first | done | with_reducible rfl | exact ⟨rfl, rfl, rfl⟩ | exact ⟨rfl, rfl⟩))
                                                            | ((with_reducible apply nd_range); (case hx => simp -dsimp [e3]; with_reducible rfl); (case hT => simp -dsimp [e3]); (case hnd => assumption); (case hz => simp -dsimp [e3]))
                                                            | (with_reducible refine dn_i follows_any (by kernel_rfl) ?_)
                                                            | (with_reducible exact done_eq rfl)
                                                            | (simp -dsimp [e3]))); (all_goals try with_reducible refine done_eq ?_)
      all_goals (subst e2; cases l with | nil => exact absurd rfl e1 | cons y ys => rfl)
  · have e1 : l ≠ [] := by assumption
    have e2 : m ≠ [] := by assumption
    refine ex_loop (fun i : Nat => ⟨[(0, aAlloc), (7, .c (.io 305 33006 0)), (8, .c (.io 305 39006 0))], [(33006, cRng l 33004 ((i : Int) - 1)), (33004, cVU (yv l i)), (39006, cRng m 39004 ((i : Int) - 1)), (39004, cVU (yv m i))]⟩) (fun i => i ≤ l.length ∧ i ≤ m.length ∧ cmpL c l m = cmpL c (l.drop i) (m.drop i)) (fun i => l.length - i) 0 ?_ ⟨Nat.zero_le _, Nat.zero_le _, rfl⟩ ?_
    · exact Weak.same (by simp -dsimp [yv]) (by simp -dsimp [yv]) (by first | rfl | (simp [closedSt, Av.ids, Ow.ids, Cl.ids, Go.Smd.keys]; done))
    · rintro i ⟨hi1, hi2, hi3⟩ K hK
      have a1 : ((i : Int) - 1) + 1 = (i : Int) := by omega
      have hn1 := next_p l ((i : Int) - 1) (by omega) (by omega) hl (yv l i)
      have hn2 := next_p m ((i : Int) - 1) (by omega) (by omega) hm (yv m i)
      rw [a1] at hn1 hn2
      by_cases c1 : i < l.length
      · by_cases c2 : i < m.length
        · have hcons : cmpL c (l.drop i) (m.drop i) = (if c l[i] m[i] ≠ 0 then c l[i] m[i] else cmpL c (l.drop (i + 1)) (m.drop (i + 1))) := by rw [List.drop_eq_getElem_cons c1, List.drop_eq_getElem_cons c2]; rfl
          have hi : ((i : Int) < l.length) := by omega
          have hj : ((i : Int) < m.length) := by omega
          (repeat' (first
                                                            | (with_reducible refine br_d (fun _ => ?_) (fun _ => ?_))
                                                            | (with_reducible refine br_i (fun _ => ?_) (fun _ => ?_))
                                                            | ((with_reducible apply nd_q (ρ := [(1000000000, 33006), (1000000001, 33004)]) 7 (hn1)); (case hc => simp -dsimp [c1, c2, hi, hj] <;> first | exact ⟨rfl, rfl, rfl⟩ | exact ⟨rfl, rfl⟩ | done); (case hx => simp -dsimp [c1, c2, hi, hj] <;> with_reducible rfl); (case ho => simp -dsimp [c1, c2, hi, hj]); (case hh => simp -dsimp [c1, c2, hi, hj]); (case hb => simp -dsimp [c1, c2, hi, hj]))
                                                            | ((with_reducible apply nd_q (ρ := [(1000000000, 39006), (1000000001, 39004)]) 7 (hn2)); (case hc => simp -dsimp [c1, c2, hi, hj] <;> first | exact ⟨rfl, rfl, rfl⟩ | exact ⟨rfl, rfl⟩ | done); (case hx => simp -dsimp [c1, c2, hi, hj] <;> with_reducible rfl); (case ho => simp -dsimp [c1, c2, hi, hj]); (case hh => simp -dsimp [c1, c2, hi, hj]); (case hb => simp -dsimp [c1, c2, hi, hj]))
                                                            | ((with_reducible apply nd_q (ρ := [(1000000000, 33006), (1000000001, 33004)]) 7 (item_p l i c1 hl (yv l i))); (case hc => simp -dsimp [c1, c2, hi, hj] <;> first | exact ⟨rfl, rfl, rfl⟩ | exact ⟨rfl, rfl⟩ | done); (case hx => simp -dsimp [c1, c2, hi, hj] <;> with_reducible rfl); (case ho => simp -dsimp [c1, c2, hi, hj]); (case hh => simp -dsimp [c1, c2, hi, hj]); (case hb => simp -dsimp [c1, c2, hi, hj]))
                                                            | ((with_reducible apply nd_q (ρ := [(1000000000, 39006), (1000000001, 39004)]) 7 (item_p m i c2 hm (yv m i))); (case hc => simp -dsimp [c1, c2, hi, hj] <;> first | exact ⟨rfl, rfl, rfl⟩ | exact ⟨rfl, rfl⟩ | done); (case hx => simp -dsimp [c1, c2, hi, hj] <;> with_reducible rfl); (case ho => simp -dsimp [c1, c2, hi, hj]); (case hh => simp -dsimp [c1, c2, hi, hj]); (case hb => simp -dsimp [c1, c2, hi, hj]))
                                                            | (with_reducible refine nd_lv (hc _ (List.getElem_mem c1) _ (List.getElem_mem c2)) (by first | rfl | (simp -dsimp [c1, c2, hi, hj]; done)) rfl ?_)
                                                            | ((with_reducible apply nd_next); (case hx => simp -dsimp [c1, c2, hi, hj]; first | done | with_reducible rfl); (case hid => simp -dsimp [c1, c2, hi, hj]; first | done | with_reducible rfl | exact ⟨rfl, rfl, rfl⟩ | exact ⟨rfl, rfl⟩); (case' h1 => intro _ _ _); (case' h0 => intro _))
                                                            | ((with_reducible apply nd_entry); (case hx => simp -dsimp [c1, c2, hi, hj]; first | done | with_reducible rfl); (case hid => simp -dsimp [c1, c2, hi, hj]; first | done | with_reducible rfl | exact ⟨rfl, rfl, rfl⟩ | exact ⟨rfl, rfl⟩))
                                                            | ((with_reducible apply nd_range); (case hx => simp -dsimp [c1, c2, hi, hj]; with_reducible rfl); (case hT => simp -dsimp [c1, c2, hi, hj]); (case hnd => assumption); (case hz => simp -dsimp [c1, c2, hi, hj]))
                                                            | (with_reducible refine dn_i follows_any (by kernel_rfl) ?_)
                                                            | (with_reducible exact done_eq rfl)
                                                            | (simp -dsimp [c1, c2, hi, hj]))); (all_goals try with_reducible refine done_eq ?_)
          · rename_i hn
            rw [hi3, hcons, if_pos (by simpa using hn)]
          · rename_i hn
            refine hK _ (i + 1) ?_ ⟨by omega, by omega, by rw [hi3, hcons, if_neg (by simpa using hn)]⟩ (by omega)
            have a3 : (((i + 1 : Nat) : Int) - 1) = i := by omega
            have hy1 : yv l (i + 1) = .tr l[i] := by simp [yv, c1]
            have hy2 : yv m (i + 1) = .tr m[i] := by simp [yv, c2]
            exact Weak.same (by simp -dsimp [a3, hy1, hy2]) (by simp -dsimp [a3, hy1, hy2]) (by first | rfl | (simp [closedSt, Av.ids, Ow.ids, Cl.ids, Go.Smd.keys]; done))
        · have hi : ((i : Int) < l.length) := by omega
          have hj : ¬ ((i : Int) < m.length) := by omega
          (repeat' (first
                                                            | (with_reducible refine br_d (fun _ => ?_) (fun _ => ?_))
                                                            | (with_reducible refine br_i (fun _ => ?_) (fun _ => ?_))
                                                            | ((with_reducible apply nd_q (ρ := [(1000000000, 33006), (1000000001, 33004)]) 7 (hn1)); (case hc => simp -dsimp [c1, c2, hi, hj] <;> first | exact ⟨rfl, rfl, rfl⟩ | exact ⟨rfl, rfl⟩ | done); (case hx => simp -dsimp [c1, c2, hi, hj] <;> with_reducible rfl); (case ho => simp -dsimp [c1, c2, hi, hj]); (case hh => simp -dsimp [c1, c2, hi, hj]); (case hb => simp -dsimp [c1, c2, hi, hj]))
                                                            | ((with_reducible apply nd_q (ρ := [(1000000000, 39006), (1000000001, 39004)]) 7 (hn2)); (case hc => simp -dsimp [c1, c2, hi, hj] <;> first | exact ⟨rfl, rfl, rfl⟩ | exact ⟨rfl, rfl⟩ | done); (case hx => simp -dsimp [c1, c2, hi, hj] <;> with_reducible rfl); (case ho => simp -dsimp [c1, c2, hi, hj]); (case hh => simp -dsimp [c1, c2, hi, hj]); (case hb => simp -dsimp [c1, c2, hi, hj]))
                                                            | ((with_reducible apply nd_next); (case hx => simp -dsimp [c1, c2, hi, hj]; first | done | with_reducible rfl); (case hid => simp -dsimp [c1, c2, hi, hj]; first | done | with_reducible rfl | exact ⟨rfl, rfl, rfl⟩ | exact ⟨rfl, rfl⟩); (case' h1 => intro _ _ _); (case' h0 => intro _))
                                                            | ((with_reducible apply nd_entry); (case hx => simp -dsimp [c1, c2, hi, hj]; first | done | with_reducible rfl); (case hid => simp -dsimp [c1, c2, hi, hj]; first | done | with_reducible rfl | exact ⟨rfl, rfl, rfl⟩ | exact ⟨rfl, rfl⟩))
                                                            | ((with_reducible apply nd_range); (case hx => simp -dsimp [c1, c2, hi, hj]; with_reducible rfl); (case hT => simp -dsimp [c1, c2, hi, hj]); (case hnd => assumption); (case hz => simp -dsimp [c1, c2, hi, hj]))
                                                            | (with_reducible refine dn_i follows_any (by kernel_rfl) ?_)
                                                            | (with_reducible exact done_eq rfl)
                                                            | (simp -dsimp [c1, c2, hi, hj]))); (all_goals try with_reducible refine done_eq ?_)
          all_goals (rw [hi3, List.drop_eq_getElem_cons c1, List.drop_eq_nil_of_le (show m.length ≤ i by omega)]; rfl)
      · by_cases c2 : i < m.length
        · have hi : ¬ ((i : Int) < l.length) := by omega
          have hj : ((i : Int) < m.length) := by omega
          (repeat' (first
                                                            | (with_reducible refine br_d (fun _ => ?_) (fun _ => ?_))
                                                            | (with_reducible refine br_i (fun _ => ?_) (fun _ => ?_))
                                                            | ((with_reducible apply nd_q (ρ := [(1000000000, 33006), (1000000001, 33004)]) 7 (hn1)); (case hc => simp -dsimp [c1, c2, hi, hj] <;> first | exact ⟨rfl, rfl, rfl⟩ | exact ⟨rfl, rfl⟩ | done); (case hx => simp -dsimp [c1, c2, hi, hj] <;> with_reducible rfl); (case ho => simp -dsimp [c1, c2, hi, hj]); (case hh => simp -dsimp [c1, c2, hi, hj]); (case hb => simp -dsimp [c1, c2, hi, hj]))
                                                            | ((with_reducible apply nd_q (ρ := [(1000000000, 39006), (1000000001, 39004)]) 7 (hn2)); (case hc => simp -dsimp [c1, c2, hi, hj] <;> first | exact ⟨rfl, rfl, rfl⟩ | exact ⟨rfl, rfl⟩ | done); (case hx => simp -dsimp [c1, c2, hi, hj] <;> with_reducible rfl); (case ho => simp -dsimp [c1, c2, hi, hj]); (case hh => simp -dsimp [c1, c2, hi, hj]); (case hb => simp -dsimp [c1, c2, hi, hj]))
                                                            | ((with_reducible apply nd_next); (case hx => simp -dsimp [c1, c2, hi, hj]; first | done | with_reducible rfl); (case hid => simp -dsimp [c1, c2, hi, hj]; first | done | with_reducible rfl | exact ⟨rfl, rfl, rfl⟩ | exact ⟨rfl, rfl⟩); (case' h1 => intro _ _ _); (case' h0 => intro _))
                                                            | ((with_reducible apply nd_entry); (case hx => simp -dsimp [c1, c2, hi, hj]; first | done | with_reducible rfl); (case hid => simp -dsimp [c1, c2, hi, hj]; first | done | with_reducible rfl | exact ⟨rfl, rfl, rfl⟩ | exact ⟨rfl, rfl⟩))
                                                            | ((with_reducible apply nd_range); (case hx => simp -dsimp [c1, c2, hi, hj]; with_reducible rfl); (case hT => simp -dsimp [c1, c2, hi, hj]); (case hnd => assumption); (case hz => simp -dsimp [c1, c2, hi, hj]))
                                                            | (with_reducible refine dn_i follows_any (by kernel_rfl) ?_)
                                                            | (with_reducible exact done_eq rfl)
                                                            | (simp -dsimp [c1, c2, hi, hj]))); (all_goals try with_reducible refine done_eq ?_)
          all_goals (rw [hi3, List.drop_eq_nil_of_le (show l.length ≤ i by omega), List.drop_eq_getElem_cons c2]; rfl)
        · have hi : ¬ ((i : Int) < l.length) := by omega
          have hj : ¬ ((i : Int) < m.length) := by omega
          (repeat' (first
                                                            | (with_reducible refine br_d (fun _ => ?_) (fun _ => ?_))
                                                            | (with_reducible refine br_i (fun _ => ?_) (fun _ => ?_))
                                                            | ((with_reducible apply nd_q (ρ := [(1000000000, 33006), (1000000001, 33004)]) 7 (hn1)); (case hc => simp -dsimp [c1, c2, hi, hj] <;> first | exact ⟨rfl, rfl, rfl⟩ | exact ⟨rfl, rfl⟩ | done); (case hx => simp -dsimp [c1, c2, hi, hj] <;> with_reducible rfl); (case ho => simp -dsimp [c1, c2, hi, hj]); (case hh => simp -dsimp [c1, c2, hi, hj]); (case hb => simp -dsimp [c1, c2, hi, hj]))
                                                            | ((with_reducible apply nd_q (ρ := [(1000000000, 39006), (1000000001, 39004)]) 7 (hn2)); (case hc => simp -dsimp [c1, c2, hi, hj] <;> first | exact ⟨rfl, rfl, rfl⟩ | exact ⟨rfl, rfl⟩ | done); (case hx => simp -dsimp [c1, c2, hi, hj] <;> with_reducible rfl); (case ho => simp -dsimp [c1, c2, hi, hj]); (case hh => simp -dsimp [c1, c2, hi, hj]); (case hb => simp -dsimp [c1, c2, hi, hj]))
                                                            | ((with_reducible apply nd_next); (case hx => simp -dsimp [c1, c2, hi, hj]; first | done | with_reducible rfl); (case hid => simp -dsimp [c1, c2, hi, hj]; first | done | with_reducible rfl | exact ⟨rfl, rfl, rfl⟩ | exact ⟨rfl, rfl⟩); (case' h1 => intro _ _ _); (case' h0 => intro _))
                                                            | ((with_reducible apply nd_entry); (case hx => simp -dsimp [c1, c2, hi, hj]; first | done | with_reducible rfl); (case hid => simp -dsimp [c1, c2, hi, hj]; first | done | with_reducible rfl | exact ⟨rfl, rfl, rfl⟩ | exact ⟨rfl, rfl⟩))
                                                            | ((with_reducible apply nd_range); (case hx => simp -dsimp [c1, c2, hi, hj]; with_reducible rfl); (case hT => simp -dsimp [c1, c2, hi, hj]); (case hnd => assumption); (case hz => simp -dsimp [c1, c2, hi, hj]))
                                                            | (with_reducible refine dn_i follows_any (by kernel_rfl) ?_)
                                                            | (with_reducible exact done_eq rfl)
                                                            | (simp -dsimp [c1, c2, hi, hj]))); (all_goals try with_reducible refine done_eq ?_)
          all_goals (rw [hi3, List.drop_eq_nil_of_le (show l.length ≤ i by omega), List.drop_eq_nil_of_le (show m.length ≤ i by omega)]; rfl)
end Go.Smd
