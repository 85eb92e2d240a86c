/- Maps of trees: their methods, by value. -/
import Derived.Test.YtphldfnnjoehpaaMs
import Derived.Test.YtphldfnnjoehpaaVb
set_option linter.unusedSimpArgs false
set_option maxRecDepth 100000
set_option maxHeartbeats 4000000
namespace Go.Smd
open Go.RowKit Go.Proofs

theorem length_a (m : List (ByteArray × Tree)) : ACalls Try.prog 192 [.c (.d (.mp m))] (fun r => r = aV (.int .i64 m.length)) := by
  refine acalls_ex [] Try.func192 (by kernel_rfl) rfl Try.ntmps192 Try.results192 (Nat.le_of_ble_eq_true (by kernel_rfl)) ?_; intro hok w0 S0
  (repeat' (first
                                                            | (with_reducible refine br_d (fun _ => ?_) (fun _ => ?_))
                                                            | (with_reducible refine br_i (fun _ => ?_) (fun _ => ?_))
                                                            | ((with_reducible apply nd_next); (case hx => simp -dsimp; first | done | with_reducible rfl); (case hid => simp -dsimp; first | done | with_reducible rfl | exact ⟨rfl, rfl, rfl⟩ | exact ⟨rfl, rfl⟩); (case' h1 => intro _ _ _); (case' h0 => intro _))
                                                            | ((with_reducible apply nd_entry); (case hx => simp -dsimp; first | done | with_reducible rfl); (case hid => simp -dsimp; first | done | with_reducible rfl | exact ⟨rfl, rfl, rfl⟩ | exact ⟨rfl, rfl⟩))
                                                            | ((with_reducible apply nd_range); (case hx => simp -dsimp; with_reducible rfl); (case hT => simp -dsimp); (case hnd => assumption); (case hz => simp -dsimp))
                                                            | (with_reducible refine dn_i follows_any (by kernel_rfl) ?_)
                                                            | (with_reducible exact done_eq rfl)
                                                            | (simp -dsimp))); (all_goals try with_reducible refine done_eq ?_)
  all_goals rfl
theorem has_a (m : List (ByteArray × Tree)) (hnd : (m.map (·.1)).Nodup) (k : ByteArray) : ACalls Try.prog 189 [.c (.d (.mp m)), aV (.string k)] (fun r => r = aV (.bool (mget m k).isSome)) := by
  refine acalls_ex [] Try.func189 (by kernel_rfl) rfl Try.ntmps189 Try.results189 (Nat.le_of_ble_eq_true (by kernel_rfl)) ?_; intro hok w0 S0
  (repeat' (first
                                                            | (with_reducible refine br_d (fun _ => ?_) (fun _ => ?_))
                                                            | (with_reducible refine br_i (fun _ => ?_) (fun _ => ?_))
                                                            | ((with_reducible apply nd_next); (case hx => simp -dsimp [hnd]; first | done | with_reducible rfl); (case hid => simp -dsimp [hnd]; first | done | with_reducible rfl | exact ⟨rfl, rfl, rfl⟩ | exact ⟨rfl, rfl⟩); (case' h1 => intro _ _ _); (case' h0 => intro _))
                                                            | ((with_reducible apply nd_entry); (case hx => simp -dsimp [hnd]; first | done | with_reducible rfl); (case hid => simp -dsimp [hnd]; first | done | with_reducible rfl | exact ⟨rfl, rfl, rfl⟩ | exact ⟨rfl, rfl⟩))
                                                            | ((with_reducible apply nd_range); (case hx => simp -dsimp [hnd]; with_reducible rfl); (case hT => simp -dsimp [hnd]); (case hnd => assumption); (case hz => simp -dsimp [hnd]))
                                                            | (with_reducible refine dn_i follows_any (by kernel_rfl) ?_)
                                                            | (with_reducible exact done_eq rfl)
                                                            | (simp -dsimp [hnd]))); (all_goals try with_reducible refine done_eq ?_)
  all_goals rfl
/-- What Get gives: the value, or nil. -/
def dG : Option Tree → D
  | some t => dV t
  | none => .v .nilIface
theorem getUsing_a (m : List (ByteArray × Tree)) (hnd : (m.map (·.1)).Nodup) (k : ByteArray) : ACalls Try.prog 188 [.c (.d (.mp m)), aAlloc, aV (.string k)] (fun r => r = .tup [(false, [.d (dG (mget m k))]), (false, [.d (.v (.bool (mget m k).isSome))])]) := by
  cases hg : mget m k with
  | none =>
    refine acalls_ex [] Try.func188 (by kernel_rfl) rfl Try.ntmps188 Try.results188 (Nat.le_of_ble_eq_true (by kernel_rfl)) ?_; intro hok w0 S0
    (repeat' (first
                                                            | (with_reducible refine br_d (fun _ => ?_) (fun _ => ?_))
                                                            | (with_reducible refine br_i (fun _ => ?_) (fun _ => ?_))
                                                            | ((with_reducible apply nd_i [] (f := 111)); (case hc => simp -dsimp [hnd, hg]; first | exact ⟨rfl, rfl⟩ | exact ⟨rfl, rfl, rfl⟩); (case hf => exact Try.func111); (case hA => simp -dsimp [hnd, hg] <;> with_reducible rfl); (case hok => simp -dsimp [hnd, hg]); (case hY => simp -dsimp [hnd, hg] <;> with_reducible rfl); (case hO => simp -dsimp [hnd, hg] <;> with_reducible rfl); (case hn => kernel_rfl); (case hb => rfl); (case hN => exact Try.ntmps111); (case hrs => exact Try.results111); (case hl => exact Nat.le_of_ble_eq_true (by kernel_rfl)); intro hok w0 S0)
                                                            | ((with_reducible apply nd_next); (case hx => simp -dsimp [hnd, hg]; first | done | with_reducible rfl); (case hid => simp -dsimp [hnd, hg]; first | done | with_reducible rfl | exact ⟨rfl, rfl, rfl⟩ | exact ⟨rfl, rfl⟩); (case' h1 => intro _ _ _); (case' h0 => intro _))
                                                            | ((with_reducible apply nd_entry); (case hx => simp -dsimp [hnd, hg]; first | done | with_reducible rfl); (case hid => simp -dsimp [hnd, hg]; first | done | with_reducible rfl | exact ⟨rfl, rfl, rfl⟩ | exact ⟨rfl, rfl⟩))
                                                            | ((with_reducible apply nd_range); (case hx => simp -dsimp [hnd, hg]; with_reducible rfl); (case hT => simp -dsimp [hnd, hg]); (case hnd => assumption); (case hz => simp -dsimp [hnd, hg]))
                                                            | (with_reducible refine dn_i follows_any (by kernel_rfl) ?_)
                                                            | (with_reducible exact done_eq rfl)
                                                            | (simp -dsimp [hnd, hg]))); (all_goals try with_reducible refine done_eq ?_)
    all_goals rfl
  | some t =>
    refine acalls_ex [] Try.func188 (by kernel_rfl) rfl Try.ntmps188 Try.results188 (Nat.le_of_ble_eq_true (by kernel_rfl)) ?_; intro hok w0 S0
    (repeat' (first
                                                            | (with_reducible refine br_d (fun _ => ?_) (fun _ => ?_))
                                                            | (with_reducible refine br_i (fun _ => ?_) (fun _ => ?_))
                                                            | ((with_reducible apply nd_i [] (f := 111)); (case hc => simp -dsimp [hnd, hg]; first | exact ⟨rfl, rfl⟩ | exact ⟨rfl, rfl, rfl⟩); (case hf => exact Try.func111); (case hA => simp -dsimp [hnd, hg] <;> with_reducible rfl); (case hok => simp -dsimp [hnd, hg]); (case hY => simp -dsimp [hnd, hg] <;> with_reducible rfl); (case hO => simp -dsimp [hnd, hg] <;> with_reducible rfl); (case hn => kernel_rfl); (case hb => rfl); (case hN => exact Try.ntmps111); (case hrs => exact Try.results111); (case hl => exact Nat.le_of_ble_eq_true (by kernel_rfl)); intro hok w0 S0)
                                                            | ((with_reducible apply nd_q (ρ := [(1000000000, 20004)]) 7 (reuse_p (.tr t) (.v .nilIface))); (case hc => simp -dsimp [hnd, hg] <;> first | exact ⟨rfl, rfl, rfl⟩ | exact ⟨rfl, rfl⟩ | done); (case hx => simp -dsimp [hnd, hg] <;> with_reducible rfl); (case ho => simp -dsimp [hnd, hg]); (case hh => simp -dsimp [hnd, hg]); (case hb => simp -dsimp [hnd, hg]))
                                                            | ((with_reducible apply nd_next); (case hx => simp -dsimp [hnd, hg]; first | done | with_reducible rfl); (case hid => simp -dsimp [hnd, hg]; first | done | with_reducible rfl | exact ⟨rfl, rfl, rfl⟩ | exact ⟨rfl, rfl⟩); (case' h1 => intro _ _ _); (case' h0 => intro _))
                                                            | ((with_reducible apply nd_entry); (case hx => simp -dsimp [hnd, hg]; first | done | with_reducible rfl); (case hid => simp -dsimp [hnd, hg]; first | done | with_reducible rfl | exact ⟨rfl, rfl, rfl⟩ | exact ⟨rfl, rfl⟩))
                                                            | ((with_reducible apply nd_range); (case hx => simp -dsimp [hnd, hg]; with_reducible rfl); (case hT => simp -dsimp [hnd, hg]); (case hnd => assumption); (case hz => simp -dsimp [hnd, hg]))
                                                            | (with_reducible refine dn_i follows_any (by kernel_rfl) ?_)
                                                            | (with_reducible exact done_eq rfl)
                                                            | (simp -dsimp [hnd, hg]))); (all_goals try with_reducible refine done_eq ?_)
    all_goals rfl
/-- The two closures that gather keys. -/
abbrev fGath1 : FuncId := 202
abbrev fGath2 : FuncId := 203
abbrev tStrs : TypeId := 23
abbrev tStr : TypeId := 9
/-- A row of strings. -/
abbrev sRow (l : List ByteArray) : List (List D) := l.map fun s => [.v (.string s)]
theorem left_perm {k : ByteArray} : ∀ {left : List ByteArray}, left.Nodup → k ∈ left → left.Perm (k :: left.filter fun x => decide (x ≠ k))
  | [], _, h => by cases h
  | x :: l, hn, h => by
    rw [List.nodup_cons] at hn
    by_cases e : x = k
    · subst e
      have h1 : (l.filter fun y => decide (y ≠ x)) = l := List.filter_eq_self.2 fun y hy => by
        have : y ≠ x := fun e => hn.1 (e ▸ hy)
        simpa using this
      rw [List.filter_cons_of_neg (by simp), h1]
    · have hk : k ∈ l := by rcases List.mem_cons.1 h with h | h; exact absurd h.symm e; exact h
      rw [List.filter_cons_of_pos (by simpa using e)]
      exact ((left_perm hn.2 hk).cons x).trans (List.Perm.swap ..)
theorem AProc.drop {P : Program} {f : FuncId} {args : List Av} {own : List (Nat × Ow)} {R R' : Av → List (Nat × Ow) → Prop} (h : AProc P f args own R)
    (k : ∀ r own', R r own' → ∃ own'', R' r own'' ∧ (∀ p ∈ own'', look own' p.1 = some p.2) ∧ closedSt [] own'' = true ∧ r.plain = true) : AProc P f args own R' :=
  ⟨h.1, fun w E β vs s ha => (h.2 w E β vs s ha).mono fun e w' ⟨v, r, β', own', h1, h2, h3, h4⟩ => by
    obtain ⟨own'', g1, g2, g3, g4⟩ := k r own' h2
    obtain ⟨β'', s''⟩ := Weak.same (P := P) (N := 0) (w0 := w) (S0 := E) (σ := ⟨[], own'⟩) (tl := []) (hl := own'') (fun p hp => by cases hp) g2 g3 β' act0 w' h3
    exact ⟨v, r, β'', own'', h1, g1, s'', plain_any g4 h4⟩⟩
/-- What stands in the blocks of the gatherer. -/
def gath (f : FuncId) (z : List Cl) (ver : Nat) (l : List ByteArray) (own' : List (Nat × Ow)) : Prop :=
  look own' 1000000000 = some (.clo (.fn f) (.own 1000000001 0 :: z)) ∧ look own' 1000000001 = some (.cells [.gs 1000000002 ver] tStrs) ∧ look own' 1000000002 = some (.arr ver tStr (sRow l))
def gath2 (m1 : List (ByteArray × Tree)) (ver : Nat) (l : List ByteArray) (own' : List (Nat × Ow)) : Prop :=
  look own' 1000000000 = some (.clo (.fn fGath2) [.own 1000000003 0, .own 1000000001 0]) ∧ look own' 1000000001 = some (.cells [.gs 1000000002 ver] tStrs) ∧ look own' 1000000002 = some (.arr ver tStr (sRow l)) ∧ look own' 1000000003 = some (.cells [.d (dM m1)] 88)
theorem iterate1_q (m : List (ByteArray × Tree)) (hnd : (m.map (·.1)).Nodup) (ver : Nat) (l : List ByteArray) (hl : l.length + m.length ≤ 4000000000000) :
    AProc Try.prog 191 [.c (.d (.mp m)), aAlloc, .c (.fn 1000000000)] [(1000000000, .clo (.fn fGath1) [.own 1000000001 0]), (1000000001, .cells [.gs 1000000002 ver] tStrs), (1000000002, .arr ver tStr (sRow l))]
      (fun r own' => ∃ q : List ByteArray, q.Perm (m.map (·.1)) ∧ r = aV (.bool true) ∧ gath fGath1 [] (ver + m.length) (l ++ q) own') := by
  refine aproc_ex [] Try.func191 (by kernel_rfl) rfl Try.ntmps191 Try.results191 (Nat.le_of_ble_eq_true (by kernel_rfl)) ?_; intro hok w0 S0
  (repeat' (first
                                                            | (with_reducible refine br_d (fun _ => ?_) (fun _ => ?_))
                                                            | (with_reducible refine br_i (fun _ => ?_) (fun _ => ?_))
                                                            | ((with_reducible apply nd_i [] (f := 111)); (case hc => simp -dsimp [hnd]; first | exact ⟨rfl, rfl⟩ | exact ⟨rfl, rfl, rfl⟩); (case hf => exact Try.func111); (case hA => simp -dsimp [hnd] <;> with_reducible rfl); (case hok => simp -dsimp [hnd]); (case hY => simp -dsimp [hnd] <;> with_reducible rfl); (case hO => simp -dsimp [hnd] <;> with_reducible rfl); (case hn => kernel_rfl); (case hb => rfl); (case hN => exact Try.ntmps111); (case hrs => exact Try.results111); (case hl => exact Nat.le_of_ble_eq_true (by kernel_rfl)); intro hok w0 S0)
                                                            | ((with_reducible apply nd_defer); (case hx => simp -dsimp [hnd]; with_reducible rfl); (case hd => exact free_any))
                                                            | ((with_reducible apply nd_next); (case hx => simp -dsimp [hnd]; first | done | with_reducible rfl); (case hid => simp -dsimp [hnd]; first | done | with_reducible rfl | exact ⟨rfl, rfl, rfl⟩ | exact ⟨rfl, rfl⟩); (case' h1 => intro _ _ _); (case' h0 => intro _))
                                                            | ((with_reducible apply nd_entry); (case hx => simp -dsimp [hnd]; first | done | with_reducible rfl); (case hid => simp -dsimp [hnd]; first | done | with_reducible rfl | exact ⟨rfl, rfl, rfl⟩ | exact ⟨rfl, rfl⟩))
                                                            | ((with_reducible apply nd_range); (case hx => simp -dsimp [hnd]; with_reducible rfl); (case hT => simp -dsimp [hnd]); (case hnd => assumption); (case hz => simp -dsimp [hnd]))
                                                            | (with_reducible refine dn_i follows_any (by kernel_rfl) ?_)
                                                            | (with_reducible exact done_eq rfl)
                                                            | (simp -dsimp [hnd]))); (all_goals try with_reducible refine done_eq ?_)
  · have e : m = [] := by assumption
    subst e
    exact ⟨[], List.Perm.refl _, rfl, by simp [gath, look]⟩
  · refine ex_loop (fun x : List ByteArray × List ByteArray × D × Option ByteArray => ⟨[(1, aAlloc), (2, .c (.fn 1000000000)), (7, .c (.own 15004 0)), (20, .c (.fn 20))], [(20, .clo (.it m x.1 x.2.2.2) []), (15004, cVU x.2.2.1), (1000000000, .clo (.fn fGath1) [.own 1000000001 0]), (1000000001, .cells [.gs 1000000002 (ver + x.2.1.length)] tStrs), (1000000002, .arr (ver + x.2.1.length) tStr (sRow (l ++ x.2.1)))]⟩)
      (fun x => x.1.Nodup ∧ (x.2.1 ++ x.1).Perm (m.map (·.1))) (fun x => x.1.length) (m.map (·.1), [], .v .nilIface, none) ?_ ⟨hnd, List.Perm.refl _⟩ ?_
    · exact Weak.same (by simp -dsimp [List.length_nil, Nat.add_zero, List.append_nil]) (by simp -dsimp [List.length_nil, Nat.add_zero, List.append_nil]) (by first | rfl | (simp [closedSt, Av.ids, Ow.ids, Cl.ids, Go.Smd.keys]; done))
    · rintro ⟨left, dn, y, cur⟩ ⟨hnl, hpm⟩ K hK
      dsimp only at hnl hpm hK ⊢
      have hlen := hpm.length_eq
      simp only [List.length_append, List.length_map] at hlen
      have hb : (l.length + dn.length + 1) * 16 ≤ 140737488351232 := by omega
      (repeat' (first
                                                            | (with_reducible refine br_d (fun _ => ?_) (fun _ => ?_))
                                                            | (with_reducible refine br_i (fun _ => ?_) (fun _ => ?_))
                                                            | ((with_reducible apply nd_q (ρ := [(1000000000, 15004)]) 7 (by rename_i k hk hs; exact reuse_p (.tr ((mget m k).getD .nil)) y)); (case hc => simp -dsimp [hnd, toDs, hb] <;> first | exact ⟨rfl, rfl, rfl⟩ | exact ⟨rfl, rfl⟩ | done); (case hx => simp -dsimp [hnd, toDs, hb] <;> with_reducible rfl); (case ho => simp -dsimp [hnd, toDs, hb]); (case hh => simp -dsimp [hnd, toDs, hb]); (case hb => simp -dsimp [hnd, toDs, hb]))
                                                            | ((with_reducible apply nd_i [] (f := 202)); (case hc => simp -dsimp [hnd, toDs, hb]; first | exact ⟨rfl, rfl⟩ | exact ⟨rfl, rfl, rfl⟩); (case hf => exact Try.func202); (case hA => simp -dsimp [hnd, toDs, hb] <;> with_reducible rfl); (case hok => simp -dsimp [hnd, toDs, hb]); (case hY => simp -dsimp [hnd, toDs, hb] <;> with_reducible rfl); (case hO => simp -dsimp [hnd, toDs, hb] <;> with_reducible rfl); (case hn => kernel_rfl); (case hb => rfl); (case hN => exact Try.ntmps202); (case hrs => exact Try.results202); (case hl => exact Nat.le_of_ble_eq_true (by kernel_rfl)); intro hok w0 S0)
                                                            | ((with_reducible apply nd_next); (case hx => simp -dsimp [hnd, toDs, hb]; first | done | with_reducible rfl); (case hid => simp -dsimp [hnd, toDs, hb]; first | done | with_reducible rfl | exact ⟨rfl, rfl, rfl⟩ | exact ⟨rfl, rfl⟩); (case' h1 => intro _ _ _); (case' h0 => intro _))
                                                            | ((with_reducible apply nd_entry); (case hx => simp -dsimp [hnd, toDs, hb]; first | done | with_reducible rfl); (case hid => simp -dsimp [hnd, toDs, hb]; first | done | with_reducible rfl | exact ⟨rfl, rfl, rfl⟩ | exact ⟨rfl, rfl⟩))
                                                            | ((with_reducible apply nd_range); (case hx => simp -dsimp [hnd, toDs, hb]; with_reducible rfl); (case hT => simp -dsimp [hnd, toDs, hb]); (case hnd => assumption); (case hz => simp -dsimp [hnd, toDs, hb]))
                                                            | (with_reducible refine dn_i follows_any (by kernel_rfl) ?_)
                                                            | (with_reducible exact done_eq rfl)
                                                            | (simp -dsimp [hnd, toDs, hb]))); (all_goals try with_reducible refine done_eq ?_)
      · have e : left = [] := by assumption
        subst e
        rw [List.append_nil] at hpm
        have e2 : dn.length = m.length := by simpa using hlen
        exact ⟨dn, hpm, rfl, by simp [gath, look, e2]⟩
      · rename_i k hk hs
        have hp := left_perm hnl hk
        have hp2 := hp.length_eq
        simp only [List.length_cons] at hp2
        refine hK _ (left.filter fun x => decide (x ≠ k), dn ++ [k], .tr ((mget m k).getD .nil), some k) ?_ ⟨hnl.filter _, ?_⟩ (by dsimp only; omega)
        · exact Weak.same (by simp -dsimp [Nat.add_assoc]) (by simp -dsimp [Nat.add_assoc]) (by first | rfl | (simp [closedSt, Av.ids, Ow.ids, Cl.ids, Go.Smd.keys]; done))
        · refine List.Perm.trans ?_ hpm
          rw [List.append_assoc]
          exact List.Perm.append_left dn hp.symm
/-- The keys that the first map has not. -/
abbrev notIn (m1 : List (ByteArray × Tree)) (k : ByteArray) : Bool := !(mget m1 k).isSome
theorem iterate2_q (m1 m : List (ByteArray × Tree)) (hnd1 : (m1.map (·.1)).Nodup) (hnd : (m.map (·.1)).Nodup) (ver : Nat) (l : List ByteArray) (hl : l.length + m.length ≤ 4000000000000) :
    AProc Try.prog 191 [.c (.d (.mp m)), aAlloc, .c (.fn 1000000000)] [(1000000000, .clo (.fn fGath2) [.own 1000000003 0, .own 1000000001 0]), (1000000001, .cells [.gs 1000000002 ver] tStrs), (1000000002, .arr ver tStr (sRow l)), (1000000003, .cells [.d (dM m1)] 88)]
      (fun r own' => ∃ q : List ByteArray, q.Perm (m.map (·.1)) ∧ r = aV (.bool true) ∧ gath2 m1 (ver + (q.filter (notIn m1)).length) (l ++ q.filter (notIn m1)) own') := by
  refine aproc_ex [] Try.func191 (by kernel_rfl) rfl Try.ntmps191 Try.results191 (Nat.le_of_ble_eq_true (by kernel_rfl)) ?_; intro hok w0 S0
  (repeat' (first
                                                            | (with_reducible refine br_d (fun _ => ?_) (fun _ => ?_))
                                                            | (with_reducible refine br_i (fun _ => ?_) (fun _ => ?_))
                                                            | ((with_reducible apply nd_i [] (f := 111)); (case hc => simp -dsimp [hnd]; first | exact ⟨rfl, rfl⟩ | exact ⟨rfl, rfl, rfl⟩); (case hf => exact Try.func111); (case hA => simp -dsimp [hnd] <;> with_reducible rfl); (case hok => simp -dsimp [hnd]); (case hY => simp -dsimp [hnd] <;> with_reducible rfl); (case hO => simp -dsimp [hnd] <;> with_reducible rfl); (case hn => kernel_rfl); (case hb => rfl); (case hN => exact Try.ntmps111); (case hrs => exact Try.results111); (case hl => exact Nat.le_of_ble_eq_true (by kernel_rfl)); intro hok w0 S0)
                                                            | ((with_reducible apply nd_defer); (case hx => simp -dsimp [hnd]; with_reducible rfl); (case hd => exact free_any))
                                                            | ((with_reducible apply nd_next); (case hx => simp -dsimp [hnd]; first | done | with_reducible rfl); (case hid => simp -dsimp [hnd]; first | done | with_reducible rfl | exact ⟨rfl, rfl, rfl⟩ | exact ⟨rfl, rfl⟩); (case' h1 => intro _ _ _); (case' h0 => intro _))
                                                            | ((with_reducible apply nd_entry); (case hx => simp -dsimp [hnd]; first | done | with_reducible rfl); (case hid => simp -dsimp [hnd]; first | done | with_reducible rfl | exact ⟨rfl, rfl, rfl⟩ | exact ⟨rfl, rfl⟩))
                                                            | ((with_reducible apply nd_range); (case hx => simp -dsimp [hnd]; with_reducible rfl); (case hT => simp -dsimp [hnd]); (case hnd => assumption); (case hz => simp -dsimp [hnd]))
                                                            | (with_reducible refine dn_i follows_any (by kernel_rfl) ?_)
                                                            | (with_reducible exact done_eq rfl)
                                                            | (simp -dsimp [hnd]))); (all_goals try with_reducible refine done_eq ?_)
  · have e : m = [] := by assumption
    subst e
    exact ⟨[], List.Perm.refl _, rfl, by simp [gath2, look]⟩
  · refine ex_loop (fun x : List ByteArray × List ByteArray × D × Option ByteArray => ⟨[(1, aAlloc), (2, .c (.fn 1000000000)), (7, .c (.own 15004 0)), (20, .c (.fn 20))], [(20, .clo (.it m x.1 x.2.2.2) []), (15004, cVU x.2.2.1), (1000000000, .clo (.fn fGath2) [.own 1000000003 0, .own 1000000001 0]), (1000000001, .cells [.gs 1000000002 (ver + (x.2.1.filter (notIn m1)).length)] tStrs), (1000000002, .arr (ver + (x.2.1.filter (notIn m1)).length) tStr (sRow (l ++ x.2.1.filter (notIn m1)))), (1000000003, .cells [.d (dM m1)] 88)]⟩)
      (fun x => x.1.Nodup ∧ (x.2.1 ++ x.1).Perm (m.map (·.1))) (fun x => x.1.length) (m.map (·.1), [], .v .nilIface, none) ?_ ⟨hnd, List.Perm.refl _⟩ ?_
    · exact Weak.same (by simp -dsimp [List.length_nil, Nat.add_zero, List.append_nil]) (by simp -dsimp [List.length_nil, Nat.add_zero, List.append_nil]) (by first | rfl | (simp [closedSt, Av.ids, Ow.ids, Cl.ids, Go.Smd.keys]; done))
    · rintro ⟨left, dn, y, cur⟩ ⟨hnl, hpm⟩ K hK
      dsimp only at hnl hpm hK ⊢
      have hlen := hpm.length_eq
      simp only [List.length_append, List.length_map] at hlen
      have hfl := List.length_filter_le (notIn m1) dn
      obtain ⟨rw, hrw⟩ : ∃ rw, rw = dn.filter (notIn m1) := ⟨_, rfl⟩
      rw [← hrw] at hfl
      have hb : (l.length + rw.length + 1) * 16 ≤ 140737488351232 := by omega
      simp only [← hrw]
      (repeat' (first
                                                            | (with_reducible refine br_d (fun _ => ?_) (fun _ => ?_))
                                                            | (with_reducible refine br_i (fun _ => ?_) (fun _ => ?_))
                                                            | ((with_reducible apply nd_q (ρ := [(1000000000, 15004)]) 7 (by rename_i k hk hs; exact reuse_p (.tr ((mget m k).getD .nil)) y)); (case hc => simp -dsimp [hnd, hnd1, toDs, hb] <;> first | exact ⟨rfl, rfl, rfl⟩ | exact ⟨rfl, rfl⟩ | done); (case hx => simp -dsimp [hnd, hnd1, toDs, hb] <;> with_reducible rfl); (case ho => simp -dsimp [hnd, hnd1, toDs, hb]); (case hh => simp -dsimp [hnd, hnd1, toDs, hb]); (case hb => simp -dsimp [hnd, hnd1, toDs, hb]))
                                                            | (with_reducible refine nd_v (has_a m1 hnd1 _) (by first | rfl | (simp -dsimp [hnd, hnd1, toDs, hb]; done)) ?_)
                                                            | (with_reducible refine nw_v (has_a m1 hnd1 _) rfl (by first | rfl | (simp -dsimp [hnd, hnd1, toDs, hb]; done)) (by first | rfl | (simp -dsimp [hnd, hnd1, toDs, hb]; done)) ?_)
                                                            | ((with_reducible apply nd_i [] (f := 203)); (case hc => simp -dsimp [hnd, hnd1, toDs, hb]; first | exact ⟨rfl, rfl⟩ | exact ⟨rfl, rfl, rfl⟩); (case hf => exact Try.func203); (case hA => simp -dsimp [hnd, hnd1, toDs, hb] <;> with_reducible rfl); (case hok => simp -dsimp [hnd, hnd1, toDs, hb]); (case hY => simp -dsimp [hnd, hnd1, toDs, hb] <;> with_reducible rfl); (case hO => simp -dsimp [hnd, hnd1, toDs, hb] <;> with_reducible rfl); (case hn => kernel_rfl); (case hb => rfl); (case hN => exact Try.ntmps203); (case hrs => exact Try.results203); (case hl => exact Nat.le_of_ble_eq_true (by kernel_rfl)); intro hok w0 S0)
                                                            | ((with_reducible apply nd_next); (case hx => simp -dsimp [hnd, hnd1, toDs, hb]; first | done | with_reducible rfl); (case hid => simp -dsimp [hnd, hnd1, toDs, hb]; first | done | with_reducible rfl | exact ⟨rfl, rfl, rfl⟩ | exact ⟨rfl, rfl⟩); (case' h1 => intro _ _ _); (case' h0 => intro _))
                                                            | ((with_reducible apply nd_entry); (case hx => simp -dsimp [hnd, hnd1, toDs, hb]; first | done | with_reducible rfl); (case hid => simp -dsimp [hnd, hnd1, toDs, hb]; first | done | with_reducible rfl | exact ⟨rfl, rfl, rfl⟩ | exact ⟨rfl, rfl⟩))
                                                            | ((with_reducible apply nd_range); (case hx => simp -dsimp [hnd, hnd1, toDs, hb]; with_reducible rfl); (case hT => simp -dsimp [hnd, hnd1, toDs, hb]); (case hnd => assumption); (case hz => simp -dsimp [hnd, hnd1, toDs, hb]))
                                                            | (with_reducible refine dn_i follows_any (by kernel_rfl) ?_)
                                                            | (with_reducible exact done_eq rfl)
                                                            | (simp -dsimp [hnd, hnd1, toDs, hb]))); (all_goals try with_reducible refine done_eq ?_)
      · have e : left = [] := by assumption
        subst e
        rw [List.append_nil] at hpm
        exact ⟨dn, hpm, rfl, by simp [gath2, look, hrw]⟩
      · rename_i k hk hs hq
        have hp := left_perm hnl hk
        have hp2 := hp.length_eq
        simp only [List.length_cons] at hp2
        have hq2 : notIn m1 k = true := by simpa using hq
        have e3 : (dn ++ [k]).filter (notIn m1) = rw ++ [k] := by rw [List.filter_append, ← hrw, List.filter_cons_of_pos hq2]; rfl
        refine hK _ (left.filter fun x => decide (x ≠ k), dn ++ [k], .tr ((mget m k).getD .nil), some k) ?_ ⟨hnl.filter _, ?_⟩ (by dsimp only; omega)
        · simp only [e3]
          exact Weak.same (by simp -dsimp [Nat.add_assoc]) (by simp -dsimp [Nat.add_assoc]) (by first | rfl | (simp [closedSt, Av.ids, Ow.ids, Cl.ids, Go.Smd.keys]; done))
        · refine List.Perm.trans ?_ hpm
          rw [List.append_assoc]
          exact List.Perm.append_left dn hp.symm
      · rename_i k hk hs hq
        have hp := left_perm hnl hk
        have hp2 := hp.length_eq
        simp only [List.length_cons] at hp2
        have hq2 : ¬ notIn m1 k = true := by cases h : mget m1 k <;> simp_all [notIn]
        have e3 : (dn ++ [k]).filter (notIn m1) = rw := by rw [List.filter_append, ← hrw, List.filter_cons_of_neg hq2]; simp
        refine hK _ (left.filter fun x => decide (x ≠ k), dn ++ [k], .tr ((mget m k).getD .nil), some k) ?_ ⟨hnl.filter _, ?_⟩ (by dsimp only; omega)
        · simp only [e3]
          exact Weak.same (by simp -dsimp [Nat.add_assoc]) (by simp -dsimp [Nat.add_assoc]) (by first | rfl | (simp [closedSt, Av.ids, Ow.ids, Cl.ids, Go.Smd.keys]; done))
        · refine List.Perm.trans ?_ hpm
          rw [List.append_assoc]
          exact List.Perm.append_left dn hp.symm
theorem iterate1_p (m : List (ByteArray × Tree)) (hnd : (m.map (·.1)).Nodup) (ver : Nat) (l : List ByteArray) (hl : l.length + m.length ≤ 4000000000000) :
    AProc Try.prog 191 [.c (.d (.mp m)), aAlloc, .c (.fn 1000000000)] [(1000000000, .clo (.fn fGath1) [.own 1000000001 0]), (1000000001, .cells [.gs 1000000002 ver] tStrs), (1000000002, .arr ver tStr (sRow l))]
      (fun r own' => ∃ q : List ByteArray, q.Perm (m.map (·.1)) ∧ r = aV (.bool true) ∧ own' = [(1000000001, .cells [.gs 1000000002 (ver + m.length)] tStrs), (1000000002, .arr (ver + m.length) tStr (sRow (l ++ q)))]) :=
  (iterate1_q m hnd ver l hl).drop fun r own' ⟨q, hq, hr, h1, h2, h3⟩ => ⟨_, ⟨q, hq, hr, rfl⟩, by
    intro p hp
    simp only [List.mem_cons, List.not_mem_nil, or_false] at hp
    rcases hp with rfl | rfl
    · exact h2
    · exact h3, by rfl, by rw [hr]; rfl⟩
theorem iterate2_p (m1 m : List (ByteArray × Tree)) (hnd1 : (m1.map (·.1)).Nodup) (hnd : (m.map (·.1)).Nodup) (ver : Nat) (l : List ByteArray) (hl : l.length + m.length ≤ 4000000000000) :
    AProc Try.prog 191 [.c (.d (.mp m)), aAlloc, .c (.fn 1000000000)] [(1000000000, .clo (.fn fGath2) [.own 1000000003 0, .own 1000000001 0]), (1000000001, .cells [.gs 1000000002 ver] tStrs), (1000000002, .arr ver tStr (sRow l)), (1000000003, .cells [.d (dM m1)] 88)]
      (fun r own' => ∃ q : List ByteArray, q.Perm (m.map (·.1)) ∧ r = aV (.bool true) ∧ own' = [(1000000001, .cells [.gs 1000000002 (ver + (q.filter (notIn m1)).length)] tStrs), (1000000002, .arr (ver + (q.filter (notIn m1)).length) tStr (sRow (l ++ q.filter (notIn m1)))), (1000000003, .cells [.d (dM m1)] 88)]) :=
  (iterate2_q m1 m hnd1 hnd ver l hl).drop fun r own' ⟨q, hq, hr, h1, h2, h3, h4⟩ => ⟨_, ⟨q, hq, hr, rfl⟩, by
    intro p hp
    simp only [List.mem_cons, List.not_mem_nil, or_false] at hp
    rcases hp with rfl | rfl | rfl
    · exact h2
    · exact h3
    · exact h4, by rfl, by rw [hr]; rfl⟩
/-- A call that is handed own blocks; what it gives, told up to x. -/
theorem vk_qx {P : Program} {N : Nat} {ops : Array Oper} {σ : St} {o : Oper} {os : List Oper} {K : St → Prop} {X : Type} {Q : X → Prop} {d : Option Tmp} {f : FuncId} {xs args : List Av} {Ts : List TypeId} {own0 : List (Nat × Ow)} {ownB : X → List (Nat × Ow)} {ρ : List (Nat × Nat)} {r0 r' : X → Av} {τ : X → St} (t : Nat) (hR : AProc P f args own0 fun r own' => ∃ x, Q x ∧ r = r0 x ∧ own' = ownB x) (he : o.dst = d) (hw : wstep P σ o = none) (hc : calleeOf P σ o = some (f, xs, Ts)) (hx : argsC P [] σ.h xs Ts = args.map (Av.ren (renI ρ t))) (ho : handOk ρ args own0 = true) (hh : handed σ.h (renI ρ t) own0)
    (hb : ∀ x, Q x → backOk σ ρ t (ownB x) = true) (ht : ∀ x, Q x → σ.back ρ t (ownB x) = τ x) (hr : ∀ x, Q x → ((r0 x).ren (renI ρ t)).fix (look (backH σ ρ t (ownB x))) = r' x) (h : ∀ x, Q x → opsA P N ops os ((τ x).put d (r' x)) K) : VK P N ops σ o os K d none := by
  refine vk_p t he hw hc hx ho hh hR ?_
  rintro r own' ⟨x, hq, rfl, rfl⟩
  refine ⟨hb x hq, ?_⟩
  rw [ht x hq, hr x hq]
  exact h x hq
end Go.Smd
