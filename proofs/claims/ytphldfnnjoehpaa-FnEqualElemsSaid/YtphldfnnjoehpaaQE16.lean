/- Part 16 of the proof: Vd Vc Vh Vi Sort Ve Vf. -/
import Derived.Test.YtphldfnnjoehpaaQE14
import Derived.Test.YtphldfnnjoehpaaQE15
import Derived.Test.YtphldfnnjoehpaaQE01
import Derived.Lib.Bytealg
import Derived.Laws.FloatBits
import Derived.Test.YtphldfnnjoehpaaQE02
import Derived.Test.YtphldfnnjoehpaaQE09
import Derived.Test.YtphldfnnjoehpaaQE07
section
set_option linter.unusedSimpArgs false
set_option maxRecDepth 100000
set_option maxHeartbeats 4000000
namespace Go.Smd
open Go.RowKit Go.Proofs
theorem length_a (m : List (ByteArray × Tree)) : ACalls Try.prog 192 [.c (.d (.mp m))] (fun r => r = aV (.int .i64 m.length)) := by
  refine acalls_ex [] Try.func192 (by kernel_rfl) rfl Try.ntmps192 Try.results192 (Nat.le_of_ble_eq_true (by kernel_rfl)) ?_; intro hok w0 S0
  (repeat' (first
                                                            | (with_reducible refine br_d (fun _ => ?_) (fun _ => ?_))
                                                            | (with_reducible refine br_i (fun _ => ?_) (fun _ => ?_))
                                                            | ((with_reducible apply nd_next); (case hx => simp -dsimp; first | done | with_reducible rfl); (case hid => simp -dsimp; first | done | with_reducible rfl | exact ⟨rfl, rfl, rfl⟩ | exact ⟨rfl, rfl⟩); (case' h1 => intro _ _ _); (case' h0 => intro _))
                                                            | ((with_reducible apply nd_entry); (case hx => simp -dsimp; first | done | with_reducible rfl); (case hid => simp -dsimp; first | done | with_reducible rfl | exact ⟨rfl, rfl, rfl⟩ | exact ⟨rfl, rfl⟩))
                                                            | ((with_reducible apply nd_range); (case hx => simp -dsimp; with_reducible rfl); (case hT => simp -dsimp); (case hnd => assumption); (case hz => simp -dsimp))
                                                            | (with_reducible refine dn_i follows_any (by kernel_rfl) ?_)
                                                            | (with_reducible exact done_eq rfl)
                                                            | (simp -dsimp))); (all_goals try with_reducible refine done_eq ?_)
  all_goals rfl
theorem left_perm {k : ByteArray} : ∀ {left : List ByteArray}, left.Nodup → k ∈ left → left.Perm (k :: left.filter fun x => decide (x ≠ k))
  | [], _, h => by cases h
  | x :: l, hn, h => by
    rw [List.nodup_cons] at hn
    by_cases e : x = k
    · subst e
      have h1 : (l.filter fun y => decide (y ≠ x)) = l := List.filter_eq_self.2 fun y hy => by
        have : y ≠ x := fun e => hn.1 (e ▸ hy)
        simpa using this
      rw [List.filter_cons_of_neg (by simp), h1]
    · have hk : k ∈ l := by rcases List.mem_cons.1 h with h | h; exact absurd h.symm e; exact h
      rw [List.filter_cons_of_pos (by simpa using e)]
      exact ((left_perm hn.2 hk).cons x).trans (List.Perm.swap ..)
theorem AProc.drop {P : Program} {f : FuncId} {args : List Av} {own : List (Nat × Ow)} {R R' : Av → List (Nat × Ow) → Prop} (h : AProc P f args own R)
    (k : ∀ r own', R r own' → ∃ own'', R' r own'' ∧ (∀ p ∈ own'', look own' p.1 = some p.2) ∧ closedSt [] own'' = true ∧ r.plain = true) : AProc P f args own R' :=
  ⟨h.1, fun w E β vs s ha => (h.2 w E β vs s ha).mono fun e w' ⟨v, r, β', own', h1, h2, h3, h4⟩ => by
    obtain ⟨own'', g1, g2, g3, g4⟩ := k r own' h2
    obtain ⟨β'', s''⟩ := Weak.same (P := P) (N := 0) (w0 := w) (S0 := E) (σ := ⟨[], own'⟩) (tl := []) (hl := own'') (fun p hp => by cases hp) g2 g3 β' act0 w' h3
    exact ⟨v, r, β'', own'', h1, g1, s'', plain_any g4 h4⟩⟩
end Go.Smd
end
section
set_option linter.unusedSimpArgs false
set_option maxRecDepth 100000
set_option maxHeartbeats 8000000
namespace Go.Smd
open Go.RowKit Go.Proofs
def yv (l : List Tree) : Nat → D
  | 0 => .v .nilIface
  | i + 1 => .tr (l.getD i .nil)
end Go.Smd
end
section
set_option linter.unusedSimpArgs false
set_option maxRecDepth 100000
set_option maxHeartbeats 8000000
namespace Go.Smd
open Go.RowKit Go.Proofs
def toFl (n : Int) : Nat := FloatKind.f64.nearest n
theorem toFl_lt (n : Int) : toFl n < 18446744073709551616 := Nat.lt_of_lt_of_eq (Ieee.Format.write_lt Ieee.double (.number (decide (n < 0)) n.natAbs 0)) (by kernel_rfl)
theorem conv_e (n : Int) : evalPure Try.prog (convert 2 22 (.int .i64 n)) = some (.float .f64 (toFl n)) := by kernel_rfl
theorem conv_a (n : Int) : valPure Try.prog (convert 2 22 (.int .i64 n)) = some (.c (.d (.v (.float .f64 (toFl n))))) := by
  unfold valPure; rw [conv_e]; simp [okVb, toFl_lt]
end Go.Smd
end
section
set_option linter.unusedSimpArgs false
set_option maxRecDepth 100000
set_option maxHeartbeats 8000000
namespace Go.Smd
open Go.RowKit Go.Proofs
abbrev fEqualsUsing : FuncId := 115
abbrev dLp (l : List Tree) : D := .ifc 302 (.pt [dAny l])
def eqL (e : Tree → Tree → Bool) : List Tree → List Tree → Bool
  | [], [] => true
  | x :: xs, y :: ys => e x y && eqL e xs ys
  | _, _ => false
theorem eqL_len {e : Tree → Tree → Bool} : ∀ {l m : List Tree}, l.length ≠ m.length → eqL e l m = false
  | [], [], h => absurd rfl h
  | [], _ :: _, _ => rfl
  | _ :: _, [], _ => rfl
  | x :: xs, y :: ys, h => by simp only [eqL]; rw [eqL_len (by simpa using h)]; simp
theorem listEqualsUsing_a (e : Tree → Tree → Bool) (l m : List Tree) (hl : l.length ≤ 140737488351232) (hm : m.length ≤ 140737488351232)
    (hc : ∀ x ∈ l, ∀ y ∈ m, ACalls Try.prog fEqualsUsing [aAlloc, .c (.d (dV x)), .c (.d (dV y))] (fun r => r = aV (.bool (e x y)))) (d : D) (hd : d = dL l ∨ d = dLp l) :
    ACalls Try.prog 182 [aAlloc, .c (.d d), .c (.d (dL m))] (fun r => r = aV (.bool (eqL e l m))) := by
  have hl2 : l.length ≤ 9223372036854775807 := by omega
  have hm2 : m.length ≤ 9223372036854775807 := by omega
  rcases hd with rfl | rfl
  all_goals
    by_cases hlen : l.length = m.length
    · have hi : (l.length : Int) = m.length := by omega
      by_cases hl0 : l = []
      · subst hl0
        have hm0 : m = [] := List.eq_nil_of_length_eq_zero hlen.symm
        subst hm0
        refine acalls_ex [] Try.func182 (by kernel_rfl) rfl Try.ntmps182 Try.results182 (Nat.le_of_ble_eq_true (by kernel_rfl)) ?_; intro hok w0 S0
        (repeat' (first
                                                            | (with_reducible refine br_d (fun _ => ?_) (fun _ => ?_))
                                                            | (with_reducible refine br_i (fun _ => ?_) (fun _ => ?_))
                                                            | ((with_reducible apply nd_i [] (f := 179)); (case hc => simp -dsimp [hl2, hm2]; first | exact ⟨rfl, rfl⟩ | exact ⟨rfl, rfl, rfl⟩); (case hf => exact Try.func179); (case hA => simp -dsimp [hl2, hm2] <;> with_reducible rfl); (case hok => simp -dsimp [hl2, hm2]); (case hY => simp -dsimp [hl2, hm2] <;> with_reducible rfl); (case hO => simp -dsimp [hl2, hm2] <;> with_reducible rfl); (case hn => kernel_rfl); (case hb => rfl); (case hN => exact Try.ntmps179); (case hrs => exact Try.results179); (case hl => exact Nat.le_of_ble_eq_true (by kernel_rfl)); intro hok w0 S0)
                                                            | ((with_reducible apply nd_i [] (f := 181)); (case hc => simp -dsimp [hl2, hm2]; first | exact ⟨rfl, rfl⟩ | exact ⟨rfl, rfl, rfl⟩); (case hf => exact Try.func181); (case hA => simp -dsimp [hl2, hm2] <;> with_reducible rfl); (case hok => simp -dsimp [hl2, hm2]); (case hY => simp -dsimp [hl2, hm2] <;> with_reducible rfl); (case hO => simp -dsimp [hl2, hm2] <;> with_reducible rfl); (case hn => kernel_rfl); (case hb => rfl); (case hN => exact Try.ntmps181); (case hrs => exact Try.results181); (case hl => exact Nat.le_of_ble_eq_true (by kernel_rfl)); intro hok w0 S0)
                                                            | ((with_reducible apply nd_defer); (case hx => simp -dsimp [hl2, hm2]; with_reducible rfl); (case hd => exact free_any))
                                                            | ((with_reducible apply nd_next); (case hx => simp -dsimp [hl2, hm2]; first | done | with_reducible rfl); (case hid => simp -dsimp [hl2, hm2]; first | done | with_reducible rfl | exact ⟨rfl, rfl, rfl⟩ | exact ⟨rfl, rfl⟩); (case' h1 => intro _ _ _); (case' h0 => intro _))
                                                            | ((with_reducible apply nd_entry); (case hx => simp -dsimp [hl2, hm2]; first | done | with_reducible rfl); (case hid => simp -dsimp [hl2, hm2]; first | done | with_reducible rfl | exact ⟨rfl, rfl, rfl⟩ | exact ⟨rfl, rfl⟩))
                                                            | ((with_reducible apply nd_range); (case hx => simp -dsimp [hl2, hm2]; with_reducible rfl); (case hT => simp -dsimp [hl2, hm2]); (case hnd => assumption); (case hz => simp -dsimp [hl2, hm2]))
                                                            | (with_reducible refine dn_i follows_any (by kernel_rfl) ?_)
                                                            | (with_reducible exact done_eq rfl)
                                                            | (simp -dsimp [hl2, hm2]))); (all_goals try with_reducible refine done_eq ?_)
        refine ex_loop (fun _ : Unit => ⟨[(0, aAlloc), (7, .c (.io 303 21010 0)), (8, .c (.io 303 27010 0))], [(21010, .cells [] 304), (27010, .cells [] 304)]⟩) (fun _ => True) (fun _ => 0) () ?_ trivial ?_
        · exact Weak.same (by simp -dsimp) (by simp -dsimp) (by first | rfl | (simp [closedSt, Av.ids, Ow.ids, Cl.ids, Go.Smd.keys]; done))
        · rintro _ _ K hK
          (repeat' (first
                                                            | (with_reducible refine br_d (fun _ => ?_) (fun _ => ?_))
                                                            | (with_reducible refine br_i (fun _ => ?_) (fun _ => ?_))
                                                            | ((with_reducible apply nd_i [] (f := 205)); (case hc => simp -dsimp; first | exact ⟨rfl, rfl⟩ | exact ⟨rfl, rfl, rfl⟩); (case hf => exact Try.func205); (case hA => simp -dsimp <;> with_reducible rfl); (case hok => simp -dsimp); (case hY => simp -dsimp <;> with_reducible rfl); (case hO => simp -dsimp <;> with_reducible rfl); (case hn => kernel_rfl); (case hb => rfl); (case hN => exact Try.ntmps205); (case hrs => exact Try.results205); (case hl => exact Nat.le_of_ble_eq_true (by kernel_rfl)); intro hok w0 S0)
                                                            | ((with_reducible apply nd_next); (case hx => simp -dsimp; first | done | with_reducible rfl); (case hid => simp -dsimp; first | done | with_reducible rfl | exact ⟨rfl, rfl, rfl⟩ | exact ⟨rfl, rfl⟩); (case' h1 => intro _ _ _); (case' h0 => intro _))
                                                            | ((with_reducible apply nd_entry); (case hx => simp -dsimp; first | done | with_reducible rfl); (case hid => simp -dsimp; first | done | with_reducible rfl | exact ⟨rfl, rfl, rfl⟩ | exact ⟨rfl, rfl⟩))
                                                            | ((with_reducible apply nd_range); (case hx => simp -dsimp; with_reducible rfl); (case hT => simp -dsimp); (case hnd => assumption); (case hz => simp -dsimp))
                                                            | (with_reducible refine dn_i follows_any (by kernel_rfl) ?_)
                                                            | (with_reducible exact done_eq rfl)
                                                            | (simp -dsimp))); (all_goals try with_reducible refine done_eq ?_)
          all_goals rfl
      · have hm0 : m ≠ [] := fun h => hl0 (List.eq_nil_of_length_eq_zero (by rw [hlen, h]; rfl))
        refine acalls_ex [] Try.func182 (by kernel_rfl) rfl Try.ntmps182 Try.results182 (Nat.le_of_ble_eq_true (by kernel_rfl)) ?_; intro hok w0 S0
        (repeat' (first
                                                            | (with_reducible refine br_d (fun _ => ?_) (fun _ => ?_))
                                                            | (with_reducible refine br_i (fun _ => ?_) (fun _ => ?_))
                                                            | ((with_reducible apply nd_i [] (f := 179)); (case hc => simp -dsimp [hl2, hm2, hi, hl0, hm0]; first | exact ⟨rfl, rfl⟩ | exact ⟨rfl, rfl, rfl⟩); (case hf => exact Try.func179); (case hA => simp -dsimp [hl2, hm2, hi, hl0, hm0] <;> with_reducible rfl); (case hok => simp -dsimp [hl2, hm2, hi, hl0, hm0]); (case hY => simp -dsimp [hl2, hm2, hi, hl0, hm0] <;> with_reducible rfl); (case hO => simp -dsimp [hl2, hm2, hi, hl0, hm0] <;> with_reducible rfl); (case hn => kernel_rfl); (case hb => rfl); (case hN => exact Try.ntmps179); (case hrs => exact Try.results179); (case hl => exact Nat.le_of_ble_eq_true (by kernel_rfl)); intro hok w0 S0)
                                                            | ((with_reducible apply nd_i [] (f := 181)); (case hc => simp -dsimp [hl2, hm2, hi, hl0, hm0]; first | exact ⟨rfl, rfl⟩ | exact ⟨rfl, rfl, rfl⟩); (case hf => exact Try.func181); (case hA => simp -dsimp [hl2, hm2, hi, hl0, hm0] <;> with_reducible rfl); (case hok => simp -dsimp [hl2, hm2, hi, hl0, hm0]); (case hY => simp -dsimp [hl2, hm2, hi, hl0, hm0] <;> with_reducible rfl); (case hO => simp -dsimp [hl2, hm2, hi, hl0, hm0] <;> with_reducible rfl); (case hn => kernel_rfl); (case hb => rfl); (case hN => exact Try.ntmps181); (case hrs => exact Try.results181); (case hl => exact Nat.le_of_ble_eq_true (by kernel_rfl)); intro hok w0 S0)
                                                            | ((with_reducible apply nd_i [] (f := 208)); (case hc => simp -dsimp [hl2, hm2, hi, hl0, hm0]; first | exact ⟨rfl, rfl⟩ | exact ⟨rfl, rfl, rfl⟩); (case hf => exact Try.func208); (case hA => simp -dsimp [hl2, hm2, hi, hl0, hm0] <;> with_reducible rfl); (case hok => simp -dsimp [hl2, hm2, hi, hl0, hm0]); (case hY => simp -dsimp [hl2, hm2, hi, hl0, hm0] <;> with_reducible rfl); (case hO => simp -dsimp [hl2, hm2, hi, hl0, hm0] <;> with_reducible rfl); (case hn => kernel_rfl); (case hb => rfl); (case hN => exact Try.ntmps208); (case hrs => exact Try.results208); (case hl => exact Nat.le_of_ble_eq_true (by kernel_rfl)); intro hok w0 S0)
                                                            | ((with_reducible apply nd_defer); (case hx => simp -dsimp [hl2, hm2, hi, hl0, hm0]; with_reducible rfl); (case hd => exact free_any))
                                                            | ((with_reducible apply nd_next); (case hx => simp -dsimp [hl2, hm2, hi, hl0, hm0]; first | done | with_reducible rfl); (case hid => simp -dsimp [hl2, hm2, hi, hl0, hm0]; first | done | with_reducible rfl | exact ⟨rfl, rfl, rfl⟩ | exact ⟨rfl, rfl⟩); (case' h1 => intro _ _ _); (case' h0 => intro _))
                                                            | ((with_reducible apply nd_entry); (case hx => simp -dsimp [hl2, hm2, hi, hl0, hm0]; first | done | with_reducible rfl); (case hid => simp -dsimp [hl2, hm2, hi, hl0, hm0]; first | done | with_reducible rfl | exact ⟨rfl, rfl, rfl⟩ | exact ⟨rfl, rfl⟩))
                                                            | ((with_reducible apply nd_range); (case hx => simp -dsimp [hl2, hm2, hi, hl0, hm0]; with_reducible rfl); (case hT => simp -dsimp [hl2, hm2, hi, hl0, hm0]); (case hnd => assumption); (case hz => simp -dsimp [hl2, hm2, hi, hl0, hm0]))
                                                            | (with_reducible refine dn_i follows_any (by kernel_rfl) ?_)
                                                            | (with_reducible exact done_eq rfl)
                                                            | (simp -dsimp [hl2, hm2, hi, hl0, hm0]))); (all_goals try with_reducible refine done_eq ?_)
        refine ex_loop (fun i : Nat => ⟨[(0, aAlloc), (7, .c (.io 305 35006 0)), (8, .c (.io 305 41006 0))], [(35006, cRng l 35004 ((i : Int) - 1)), (35004, cVU (yv l i)), (41006, cRng m 41004 ((i : Int) - 1)), (41004, cVU (yv m i))]⟩) (fun i => i ≤ l.length ∧ eqL e l m = eqL e (l.drop i) (m.drop i)) (fun i => l.length - i) 0 ?_ ⟨Nat.zero_le _, rfl⟩ ?_
        · exact Weak.same (by simp -dsimp [yv]) (by simp -dsimp [yv]) (by first | rfl | (simp [closedSt, Av.ids, Ow.ids, Cl.ids, Go.Smd.keys]; done))
        · rintro i ⟨hi1, hi3⟩ K hK
          have a1 : ((i : Int) - 1) + 1 = (i : Int) := by omega
          have hn1 := next_p l ((i : Int) - 1) (by omega) (by omega) hl (yv l i)
          have hn2 := next_p m ((i : Int) - 1) (by omega) (by omega) hm (yv m i)
          rw [a1] at hn1 hn2
          by_cases c1 : i < l.length
          · have c2 : i < m.length := by omega
            have hcons : eqL e (l.drop i) (m.drop i) = (e l[i] m[i] && eqL e (l.drop (i + 1)) (m.drop (i + 1))) := by rw [List.drop_eq_getElem_cons c1, List.drop_eq_getElem_cons c2]; rfl
            have hi : ((i : Int) < l.length) := by omega
            have hj : ((i : Int) < m.length) := by omega
            (repeat' (first
                                                            | (with_reducible refine br_d (fun _ => ?_) (fun _ => ?_))
                                                            | (with_reducible refine br_i (fun _ => ?_) (fun _ => ?_))
                                                            | ((with_reducible apply nd_q (ρ := [(1000000000, 35006), (1000000001, 35004)]) 7 (hn1)); (case hc => simp -dsimp [c1, c2, hi, hj] <;> first | exact ⟨rfl, rfl, rfl⟩ | exact ⟨rfl, rfl⟩ | done); (case hx => simp -dsimp [c1, c2, hi, hj] <;> with_reducible rfl); (case ho => simp -dsimp [c1, c2, hi, hj]); (case hh => simp -dsimp [c1, c2, hi, hj]); (case hb => simp -dsimp [c1, c2, hi, hj]))
                                                            | ((with_reducible apply nd_q (ρ := [(1000000000, 41006), (1000000001, 41004)]) 7 (hn2)); (case hc => simp -dsimp [c1, c2, hi, hj] <;> first | exact ⟨rfl, rfl, rfl⟩ | exact ⟨rfl, rfl⟩ | done); (case hx => simp -dsimp [c1, c2, hi, hj] <;> with_reducible rfl); (case ho => simp -dsimp [c1, c2, hi, hj]); (case hh => simp -dsimp [c1, c2, hi, hj]); (case hb => simp -dsimp [c1, c2, hi, hj]))
                                                            | ((with_reducible apply nd_q (ρ := [(1000000000, 35006), (1000000001, 35004)]) 7 (item_p l i c1 hl (yv l i))); (case hc => simp -dsimp [c1, c2, hi, hj] <;> first | exact ⟨rfl, rfl, rfl⟩ | exact ⟨rfl, rfl⟩ | done); (case hx => simp -dsimp [c1, c2, hi, hj] <;> with_reducible rfl); (case ho => simp -dsimp [c1, c2, hi, hj]); (case hh => simp -dsimp [c1, c2, hi, hj]); (case hb => simp -dsimp [c1, c2, hi, hj]))
                                                            | ((with_reducible apply nd_q (ρ := [(1000000000, 41006), (1000000001, 41004)]) 7 (item_p m i c2 hm (yv m i))); (case hc => simp -dsimp [c1, c2, hi, hj] <;> first | exact ⟨rfl, rfl, rfl⟩ | exact ⟨rfl, rfl⟩ | done); (case hx => simp -dsimp [c1, c2, hi, hj] <;> with_reducible rfl); (case ho => simp -dsimp [c1, c2, hi, hj]); (case hh => simp -dsimp [c1, c2, hi, hj]); (case hb => simp -dsimp [c1, c2, hi, hj]))
                                                            | (with_reducible refine nd_lv (hc _ (List.getElem_mem c1) _ (List.getElem_mem c2)) (by first | rfl | (simp -dsimp [c1, c2, hi, hj]; done)) rfl ?_)
                                                            | ((with_reducible apply nd_next); (case hx => simp -dsimp [c1, c2, hi, hj]; first | done | with_reducible rfl); (case hid => simp -dsimp [c1, c2, hi, hj]; first | done | with_reducible rfl | exact ⟨rfl, rfl, rfl⟩ | exact ⟨rfl, rfl⟩); (case' h1 => intro _ _ _); (case' h0 => intro _))
                                                            | ((with_reducible apply nd_entry); (case hx => simp -dsimp [c1, c2, hi, hj]; first | done | with_reducible rfl); (case hid => simp -dsimp [c1, c2, hi, hj]; first | done | with_reducible rfl | exact ⟨rfl, rfl, rfl⟩ | exact ⟨rfl, rfl⟩))
                                                            | ((with_reducible apply nd_range); (case hx => simp -dsimp [c1, c2, hi, hj]; with_reducible rfl); (case hT => simp -dsimp [c1, c2, hi, hj]); (case hnd => assumption); (case hz => simp -dsimp [c1, c2, hi, hj]))
                                                            | (with_reducible refine dn_i follows_any (by kernel_rfl) ?_)
                                                            | (with_reducible exact done_eq rfl)
                                                            | (simp -dsimp [c1, c2, hi, hj]))); (all_goals try with_reducible refine done_eq ?_)
            · rename_i hn
              have hn : e l[i] m[i] = false := by simpa using hn
              rw [hi3, hcons, hn]; rfl
            · rename_i hn
              have hn : e l[i] m[i] = true := by simpa using hn
              refine hK _ (i + 1) ?_ ⟨by omega, by rw [hi3, hcons, hn]; rfl⟩ (by omega)
              have a3 : (((i + 1 : Nat) : Int) - 1) = i := by omega
              have hy1 : yv l (i + 1) = .tr l[i] := by simp [yv, c1]
              have hy2 : yv m (i + 1) = .tr m[i] := by simp [yv, c2]
              exact Weak.same (by simp -dsimp [a3, hy1, hy2]) (by simp -dsimp [a3, hy1, hy2]) (by first | rfl | (simp [closedSt, Av.ids, Ow.ids, Cl.ids, Go.Smd.keys]; done))
          · have hi : ¬ ((i : Int) < l.length) := by omega
            have hj : ¬ ((i : Int) < m.length) := by omega
            (repeat' (first
                                                            | (with_reducible refine br_d (fun _ => ?_) (fun _ => ?_))
                                                            | (with_reducible refine br_i (fun _ => ?_) (fun _ => ?_))
                                                            | ((with_reducible apply nd_q (ρ := [(1000000000, 35006), (1000000001, 35004)]) 7 (hn1)); (case hc => simp -dsimp [c1, hi, hj] <;> first | exact ⟨rfl, rfl, rfl⟩ | exact ⟨rfl, rfl⟩ | done); (case hx => simp -dsimp [c1, hi, hj] <;> with_reducible rfl); (case ho => simp -dsimp [c1, hi, hj]); (case hh => simp -dsimp [c1, hi, hj]); (case hb => simp -dsimp [c1, hi, hj]))
                                                            | ((with_reducible apply nd_q (ρ := [(1000000000, 41006), (1000000001, 41004)]) 7 (hn2)); (case hc => simp -dsimp [c1, hi, hj] <;> first | exact ⟨rfl, rfl, rfl⟩ | exact ⟨rfl, rfl⟩ | done); (case hx => simp -dsimp [c1, hi, hj] <;> with_reducible rfl); (case ho => simp -dsimp [c1, hi, hj]); (case hh => simp -dsimp [c1, hi, hj]); (case hb => simp -dsimp [c1, hi, hj]))
                                                            | ((with_reducible apply nd_next); (case hx => simp -dsimp [c1, hi, hj]; first | done | with_reducible rfl); (case hid => simp -dsimp [c1, hi, hj]; first | done | with_reducible rfl | exact ⟨rfl, rfl, rfl⟩ | exact ⟨rfl, rfl⟩); (case' h1 => intro _ _ _); (case' h0 => intro _))
                                                            | ((with_reducible apply nd_entry); (case hx => simp -dsimp [c1, hi, hj]; first | done | with_reducible rfl); (case hid => simp -dsimp [c1, hi, hj]; first | done | with_reducible rfl | exact ⟨rfl, rfl, rfl⟩ | exact ⟨rfl, rfl⟩))
                                                            | ((with_reducible apply nd_range); (case hx => simp -dsimp [c1, hi, hj]; with_reducible rfl); (case hT => simp -dsimp [c1, hi, hj]); (case hnd => assumption); (case hz => simp -dsimp [c1, hi, hj]))
                                                            | (with_reducible refine dn_i follows_any (by kernel_rfl) ?_)
                                                            | (with_reducible exact done_eq rfl)
                                                            | (simp -dsimp [c1, hi, hj]))); (all_goals try with_reducible refine done_eq ?_)
            all_goals (rw [hi3, List.drop_eq_nil_of_le (show l.length ≤ i by omega), List.drop_eq_nil_of_le (show m.length ≤ i by omega)]; rfl)
    · have hi : ¬ (l.length : Int) = m.length := by omega
      refine acalls_ex [] Try.func182 (by kernel_rfl) rfl Try.ntmps182 Try.results182 (Nat.le_of_ble_eq_true (by kernel_rfl)) ?_; intro hok w0 S0
      (repeat' (first
                                                            | (with_reducible refine br_d (fun _ => ?_) (fun _ => ?_))
                                                            | (with_reducible refine br_i (fun _ => ?_) (fun _ => ?_))
                                                            | ((with_reducible apply nd_i [] (f := 179)); (case hc => simp -dsimp [hl2, hm2, hi]; first | exact ⟨rfl, rfl⟩ | exact ⟨rfl, rfl, rfl⟩); (case hf => exact Try.func179); (case hA => simp -dsimp [hl2, hm2, hi] <;> with_reducible rfl); (case hok => simp -dsimp [hl2, hm2, hi]); (case hY => simp -dsimp [hl2, hm2, hi] <;> with_reducible rfl); (case hO => simp -dsimp [hl2, hm2, hi] <;> with_reducible rfl); (case hn => kernel_rfl); (case hb => rfl); (case hN => exact Try.ntmps179); (case hrs => exact Try.results179); (case hl => exact Nat.le_of_ble_eq_true (by kernel_rfl)); intro hok w0 S0)
                                                            | ((with_reducible apply nd_next); (case hx => simp -dsimp [hl2, hm2, hi]; first | done | with_reducible rfl); (case hid => simp -dsimp [hl2, hm2, hi]; first | done | with_reducible rfl | exact ⟨rfl, rfl, rfl⟩ | exact ⟨rfl, rfl⟩); (case' h1 => intro _ _ _); (case' h0 => intro _))
                                                            | ((with_reducible apply nd_entry); (case hx => simp -dsimp [hl2, hm2, hi]; first | done | with_reducible rfl); (case hid => simp -dsimp [hl2, hm2, hi]; first | done | with_reducible rfl | exact ⟨rfl, rfl, rfl⟩ | exact ⟨rfl, rfl⟩))
                                                            | ((with_reducible apply nd_range); (case hx => simp -dsimp [hl2, hm2, hi]; with_reducible rfl); (case hT => simp -dsimp [hl2, hm2, hi]); (case hnd => assumption); (case hz => simp -dsimp [hl2, hm2, hi]))
                                                            | (with_reducible refine dn_i follows_any (by kernel_rfl) ?_)
                                                            | (with_reducible exact done_eq rfl)
                                                            | (simp -dsimp [hl2, hm2, hi]))); (all_goals try with_reducible refine done_eq ?_)
      all_goals (rw [eqL_len hlen])
end Go.Smd
end
section
set_option linter.unusedSimpArgs false
namespace Go.Smd
open Go.RowKit Go.Proofs
def OwnS (w : World) (B : Nat) (v : Value) (ss : List ByteArray) : Prop := w.ownsRow B 9 1 v ss.length (ss.map Value.string)
theorem OwnS.nil (w : World) (B : Nat) : OwnS w B (.slice none 0 0) [] := ⟨rfl, .inl ⟨rfl, rfl⟩⟩
theorem OwnS.kept {w w' : World} {B : Nat} {v : Value} {ss : List ByteArray} {row : Option Nat} (h : OwnS w B v ss) (hg : w.grownBy w' row) (hne : v.ownBlock = none ∨ v.ownBlock ≠ row) : OwnS w' B v ss := World.ownsRow.kept h hg hne
theorem OwnS.form {w : World} {B : Nat} {v : Value} {ss : List ByteArray} (h : OwnS w B v ss) : ∃ A c, v = .slice A ss.length c ∧ ss.length ≤ c := by
  rcases h.2 with ⟨h', hn⟩ | ⟨g', cap', cur, h', _, hg, hnc, _⟩
  · exact ⟨none, 0, by rw [h', hn], by omega⟩
  · exact ⟨_, _, h', hnc⟩
theorem OwnS.cell {w : World} {B g c : Nat} {n : Nat} {ss : List ByteArray} (h : OwnS w B (.slice (some ⟨g, 0, none⟩) n c) ss) (hn : n = ss.length) {j : Nat} {s : ByteArray} (hj : ss[j]? = some s) : w.cell? ⟨g, j, none⟩ = some (.string s) := by
  subst hn
  rw [World.ownsRow.cellAt h j (by have := (List.getElem?_eq_some_iff.1 hj).1; omega), List.getElem?_map, hj]; rfl
theorem OwnS.set {w : World} {B g c n : Nat} {ss : List ByteArray} (h : OwnS w B (.slice (some ⟨g, 0, none⟩) n c) ss) (hn : n = ss.length) (j : Nat) (s : ByteArray) :
    OwnS (w.setCell ⟨g, j, none⟩ (.string s)) B (.slice (some ⟨g, 0, none⟩) n c) (ss.set j s) ∧ w.grownBy (w.setCell ⟨g, j, none⟩ (.string s)) (some g) := by
  subst hn
  have := World.ownsRow.stored h j (.string s)
  unfold OwnS
  rw [List.length_set, List.map_set]; exact this
theorem OwnS.push {w : World} {B : Nat} {v : Value} {ss : List ByteArray} (h : OwnS w B v ss) (s : ByteArray) (ty : TypeId) (hB : B ≤ w.heap.size) (hn : (ss.length + 1) * 16 ≤ 140737488355328) :
    ∃ v' w', (Builtin.append_ #[23, 23] ty #[v, .slice (some ⟨w.heap.size, 0, none⟩) 1 1]).run Try.prog (w.alloc (.cells #[.string s] 9)) = .ok v' w' ∧ OwnS w' B v' (ss ++ [s]) ∧ w.grownBy w' v.ownBlock := by
  obtain ⟨i, hi, hz, hs, hb⟩ := info_parts info_str
  obtain ⟨v', w', hr, ho, hg, _⟩ := run_append_own (P := Try.prog) (w.alloc (.cells #[.string s] 9)) B 23 ty 9 i _ 1 16 Try.underlying23 hi hz hs hb rfl (by omega) v ss.length (ss.map .string) (World.ownsRow.alloc h _)
    ⟨w.heap.size, 0, none⟩ 1 1 [.string s] rfl (by simpa using World.news_of_block (cs := #[.string s]) (t := 9) (fr := (0, 0)) (heap_alloc_new w (.cells #[.string s] 9))) (by simp [Value.oneCell']) (by simp only [maxLen]; omega) hn (by rw [size_alloc]; omega)
  refine ⟨v', w', hr, ?_, World.grownBy.trans (World.grownBy_alloc w (.cells #[.string s] 9) v.ownBlock) hg⟩
  unfold OwnS
  rw [List.length_append, List.map_append]; exact ho
theorem sorted_eq : ∀ {a b : List ByteArray}, a.Pairwise (fun a b => blt a b = true) → b.Pairwise (fun a b => blt a b = true) → (∀ q, q ∈ a ↔ q ∈ b) → a = b
  | [], [], _, _, _ => rfl
  | [], y :: b, _, _, h => by have := (h y).2 (List.mem_cons_self ..); cases this
  | x :: a, [], _, _, h => by have := (h x).1 (List.mem_cons_self ..); cases this
  | x :: a, y :: b, ha, hb, h => by
    rw [List.pairwise_cons] at ha hb
    have hxy : x = y := by
      rcases List.mem_cons.1 ((h x).1 (List.mem_cons_self ..)) with e | hx
      · exact e
      · rcases List.mem_cons.1 ((h y).2 (List.mem_cons_self ..)) with e | hy
        · exact e.symm
        · have h1 := hb.1 x hx
          have h2 := ha.1 y hy
          rw [blt_asymm h1] at h2; cases h2
    subst hxy
    rw [sorted_eq ha.2 hb.2 fun q => ?_]
    constructor
    · intro hq
      rcases List.mem_cons.1 ((h q).1 (List.mem_cons_of_mem _ hq)) with rfl | h'
      · have := ha.1 q hq; rw [blt_irrefl] at this; cases this
      · exact h'
    · intro hq
      rcases List.mem_cons.1 ((h q).2 (List.mem_cons_of_mem _ hq)) with rfl | h'
      · have := hb.1 q hq; rw [blt_irrefl] at this; cases this
      · exact h'
end Go.Smd
end
section
set_option linter.unusedSimpArgs false
set_option maxRecDepth 100000
set_option maxHeartbeats 8000000
namespace Go.Smd
open Go.RowKit Go.Proofs
@[simp] theorem ctys_fn : ctys Try.prog 300 = [none] := by kernel_rfl
theorem mget_mem {m : List (ByteArray × Tree)} {k : ByteArray} {t : Tree} (h : mget m k = some t) : (k, t) ∈ m := by
  unfold mget at h
  obtain ⟨p, hp, rfl⟩ := Option.map_eq_some_iff.1 h
  have h1 := List.find?_some hp
  have h2 := List.mem_of_find?_eq_some hp
  have : p.1 = k := by simpa using h1
  rw [← this]; exact h2
theorem mget_some {m : List (ByteArray × Tree)} {k : ByteArray} (h : k ∈ m.map (·.1)) : (mget m k).isSome = true := by
  obtain ⟨p, hp, rfl⟩ := List.mem_map.1 h
  unfold mget
  rw [Option.isSome_map, List.find?_isSome]
  exact ⟨p, hp, by simp⟩
end Go.Smd
end
section
set_option linter.unusedSimpArgs false
set_option maxRecDepth 100000
set_option maxHeartbeats 8000000
namespace Go.Smd
open Go.RowKit Go.Proofs
@[simp] theorem ctys_fn3 : ctys Try.prog 150 = [none] := by kernel_rfl
@[simp] theorem lay_fn3 : Try.prog.lay 150 = some (1, false) := by kernel_rfl
end Go.Smd
end
