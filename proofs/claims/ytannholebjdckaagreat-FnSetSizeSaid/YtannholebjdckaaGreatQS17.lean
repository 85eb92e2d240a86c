/- Part 17 of the proof: Vd Vc. -/
import Derived.Test.YtannholebjdckaaGreatQS15
import Derived.Test.YtannholebjdckaaGreatQS16
set_option linter.unusedVariables false
section
set_option linter.unusedSimpArgs false
set_option maxRecDepth 100000
set_option maxHeartbeats 4000000
namespace Go.Smd
open Go.RowKit Go.Proofs
theorem length_a (m : List (ByteArray × Tree)) : ACalls Tryz.prog 291 [.c (.d (.mp m))] (fun r => r = aV (.int .i64 m.length)) := by
  refine acalls_ex [] Tryz.func291 (by kernel_rfl) rfl Tryz.ntmps291 Tryz.results291 (Nat.le_of_ble_eq_true (by kernel_rfl)) ?_; intro hok w0 S0
  (repeat' (first | (with_reducible refine br_d (fun _ => ?_) (fun _ => ?_)) | (with_reducible refine br_i (fun _ => ?_) (fun _ => ?_)) | (with_reducible refine dn_i follows_any (by kernel_rfl) ?_) | (with_reducible exact done_eq rfl) | (simp -dsimp))); (all_goals try with_reducible refine done_eq ?_)
  all_goals rfl
theorem has_a (m : List (ByteArray × Tree)) (hnd : (m.map (·.1)).Nodup) (k : ByteArray) : ACalls Tryz.prog 288 [.c (.d (.mp m)), aV (.string k)] (fun r => r = aV (.bool (mget m k).isSome)) := by
  refine acalls_ex [] Tryz.func288 (by kernel_rfl) rfl Tryz.ntmps288 Tryz.results288 (Nat.le_of_ble_eq_true (by kernel_rfl)) ?_; intro hok w0 S0
  (repeat' (first | (with_reducible refine br_d (fun _ => ?_) (fun _ => ?_)) | (with_reducible refine br_i (fun _ => ?_) (fun _ => ?_)) | (with_reducible refine dn_i follows_any (by kernel_rfl) ?_) | (with_reducible exact done_eq rfl) | (simp -dsimp [hnd]))); (all_goals try with_reducible refine done_eq ?_)
  all_goals rfl
def dG : Option Tree → D
  | some t => dV t
  | none => .v .nilIface
theorem getUsing_a (m : List (ByteArray × Tree)) (hnd : (m.map (·.1)).Nodup) (k : ByteArray) : ACalls Tryz.prog 287 [.c (.d (.mp m)), aAlloc, aV (.string k)] (fun r => r = .tup [(false, [.d (dG (mget m k))]), (false, [.d (.v (.bool (mget m k).isSome))])]) := by
  cases hg : mget m k with
  | none =>
    refine acalls_ex [] Tryz.func287 (by kernel_rfl) rfl Tryz.ntmps287 Tryz.results287 (Nat.le_of_ble_eq_true (by kernel_rfl)) ?_; intro hok w0 S0
    (repeat' (first | (with_reducible refine br_d (fun _ => ?_) (fun _ => ?_)) | (with_reducible refine br_i (fun _ => ?_) (fun _ => ?_)) | ((with_reducible apply nd_i [] (f := 157)); (case hc => simp -dsimp [hnd, hg]; first | exact ⟨rfl, rfl⟩ | exact ⟨rfl, rfl, rfl⟩); (case hf => exact Tryz.func157); (case hA => simp -dsimp [hnd, hg] <;> with_reducible rfl); (case hok => simp -dsimp [hnd, hg]); (case hY => simp -dsimp [hnd, hg] <;> with_reducible rfl); (case hO => simp -dsimp [hnd, hg] <;> with_reducible rfl); (case hn => kernel_rfl); (case hb => rfl); (case hN => exact Tryz.ntmps157); (case hrs => exact Tryz.results157); (case hl => exact Nat.le_of_ble_eq_true (by kernel_rfl)); intro hok w0 S0) | (with_reducible refine dn_i follows_any (by kernel_rfl) ?_) | (with_reducible exact done_eq rfl) | (simp -dsimp [hnd, hg]))); (all_goals try with_reducible refine done_eq ?_)
    all_goals rfl
  | some t =>
    refine acalls_ex [] Tryz.func287 (by kernel_rfl) rfl Tryz.ntmps287 Tryz.results287 (Nat.le_of_ble_eq_true (by kernel_rfl)) ?_; intro hok w0 S0
    (repeat' (first | (with_reducible refine br_d (fun _ => ?_) (fun _ => ?_)) | (with_reducible refine br_i (fun _ => ?_) (fun _ => ?_)) | ((with_reducible apply nd_i [] (f := 157)); (case hc => simp -dsimp [hnd, hg]; first | exact ⟨rfl, rfl⟩ | exact ⟨rfl, rfl, rfl⟩); (case hf => exact Tryz.func157); (case hA => simp -dsimp [hnd, hg] <;> with_reducible rfl); (case hok => simp -dsimp [hnd, hg]); (case hY => simp -dsimp [hnd, hg] <;> with_reducible rfl); (case hO => simp -dsimp [hnd, hg] <;> with_reducible rfl); (case hn => kernel_rfl); (case hb => rfl); (case hN => exact Tryz.ntmps157); (case hrs => exact Tryz.results157); (case hl => exact Nat.le_of_ble_eq_true (by kernel_rfl)); intro hok w0 S0) | ((with_reducible apply nd_q (ρ := [(1000000000, 20004)]) 7 (reuse_p (.tr t) (.v .nilIface))); (case hc => simp -dsimp [hnd, hg] <;> first | exact ⟨rfl, rfl, rfl⟩ | exact ⟨rfl, rfl⟩ | done); (case hx => simp -dsimp [hnd, hg] <;> with_reducible rfl); (case ho => simp -dsimp [hnd, hg]); (case hh => simp -dsimp [hnd, hg]); (case hb => simp -dsimp [hnd, hg])) | (with_reducible refine dn_i follows_any (by kernel_rfl) ?_) | (with_reducible exact done_eq rfl) | (simp -dsimp [hnd, hg]))); (all_goals try with_reducible refine done_eq ?_)
    all_goals rfl
abbrev fGath1 : FuncId := 301
abbrev fGath2 : FuncId := 302
abbrev tStrs : TypeId := 28
abbrev tStr : TypeId := 9
abbrev sRow (l : List ByteArray) : List (List D) := l.map fun s => [.v (.string s)]
theorem left_perm {k : ByteArray} : ∀ {left : List ByteArray}, left.Nodup → k ∈ left → left.Perm (k :: left.filter fun x => decide (x ≠ k))
  | [], _, h => by cases h
  | x :: l, hn, h => by
    rw [List.nodup_cons] at hn
    by_cases e : x = k
    · subst e
      have h1 : (l.filter fun y => decide (y ≠ x)) = l := List.filter_eq_self.2 fun y hy => by
        have : y ≠ x := fun e => hn.1 (e ▸ hy)
        simpa using this
      rw [List.filter_cons_of_neg (by simp), h1]
    · have hk : k ∈ l := by rcases List.mem_cons.1 h with h | h; exact absurd h.symm e; exact h
      rw [List.filter_cons_of_pos (by simpa using e)]
      exact ((left_perm hn.2 hk).cons x).trans (List.Perm.swap ..)
theorem AProc.drop {P : Program} {f : FuncId} {args : List Av} {own : List (Nat × Ow)} {R R' : Av → List (Nat × Ow) → Prop} (h : AProc P f args own R)
    (k : ∀ r own', R r own' → ∃ own'', R' r own'' ∧ (∀ p ∈ own'', look own' p.1 = some p.2) ∧ closedSt [] own'' = true ∧ r.plain = true) : AProc P f args own R' :=
  ⟨h.1, fun w E β vs s ha => (h.2 w E β vs s ha).mono fun e w' ⟨v, r, β', own', h1, h2, h3, h4⟩ => by
    obtain ⟨own'', g1, g2, g3, g4⟩ := k r own' h2
    obtain ⟨β'', s''⟩ := Weak.same (P := P) (N := 0) (w0 := w) (S0 := E) (σ := ⟨[], own'⟩) (tl := []) (hl := own'') (fun p hp => by cases hp) g2 g3 β' act0 w' h3
    exact ⟨v, r, β'', own'', h1, g1, s'', plain_any g4 h4⟩⟩
def gath (f : FuncId) (z : List Cl) (ver : Nat) (l : List ByteArray) (own' : List (Nat × Ow)) : Prop :=
  look own' 1000000000 = some (.clo (.fn f) (.own 1000000001 0 :: z)) ∧ look own' 1000000001 = some (.cells [.gs 1000000002 ver] tStrs) ∧ look own' 1000000002 = some (.arr ver tStr (sRow l))
def gath2 (m1 : List (ByteArray × Tree)) (ver : Nat) (l : List ByteArray) (own' : List (Nat × Ow)) : Prop :=
  look own' 1000000000 = some (.clo (.fn fGath2) [.own 1000000003 0, .own 1000000001 0]) ∧ look own' 1000000001 = some (.cells [.gs 1000000002 ver] tStrs) ∧ look own' 1000000002 = some (.arr ver tStr (sRow l)) ∧ look own' 1000000003 = some (.cells [.d (dM m1)] 275)
theorem iterate1_q (m : List (ByteArray × Tree)) (hnd : (m.map (·.1)).Nodup) (ver : Nat) (l : List ByteArray) (hl : l.length + m.length ≤ 4000000000000) :
    AProc Tryz.prog 290 [.c (.d (.mp m)), aAlloc, .c (.fn 1000000000)] [(1000000000, .clo (.fn fGath1) [.own 1000000001 0]), (1000000001, .cells [.gs 1000000002 ver] tStrs), (1000000002, .arr ver tStr (sRow l))]
      (fun r own' => ∃ q : List ByteArray, q.Perm (m.map (·.1)) ∧ r = aV (.bool true) ∧ gath fGath1 [] (ver + m.length) (l ++ q) own') := by
  refine aproc_ex [] Tryz.func290 (by kernel_rfl) rfl Tryz.ntmps290 Tryz.results290 (Nat.le_of_ble_eq_true (by kernel_rfl)) ?_; intro hok w0 S0
  (repeat' (first | (with_reducible refine br_d (fun _ => ?_) (fun _ => ?_)) | (with_reducible refine br_i (fun _ => ?_) (fun _ => ?_)) | ((with_reducible apply nd_i [] (f := 157)); (case hc => simp -dsimp [hnd]; first | exact ⟨rfl, rfl⟩ | exact ⟨rfl, rfl, rfl⟩); (case hf => exact Tryz.func157); (case hA => simp -dsimp [hnd] <;> with_reducible rfl); (case hok => simp -dsimp [hnd]); (case hY => simp -dsimp [hnd] <;> with_reducible rfl); (case hO => simp -dsimp [hnd] <;> with_reducible rfl); (case hn => kernel_rfl); (case hb => rfl); (case hN => exact Tryz.ntmps157); (case hrs => exact Tryz.results157); (case hl => exact Nat.le_of_ble_eq_true (by kernel_rfl)); intro hok w0 S0) | ((with_reducible apply nd_defer); (case hx => simp -dsimp [hnd]; with_reducible rfl); (case hd => exact free_any)) | ((with_reducible apply nd_next); (case hx => simp -dsimp [hnd]; first | done | with_reducible rfl); (case hid => simp -dsimp [hnd]; first | done | with_reducible rfl | exact ⟨rfl, rfl, rfl⟩ | exact ⟨rfl, rfl⟩); (case' h1 => intro _ _ _); (case' h0 => intro _)) | ((with_reducible apply nd_entry); (case hx => simp -dsimp [hnd]; first | done | with_reducible rfl); (case hid => simp -dsimp [hnd]; first | done | with_reducible rfl | exact ⟨rfl, rfl, rfl⟩ | exact ⟨rfl, rfl⟩)) | ((with_reducible apply nd_range); (case hx => simp -dsimp [hnd]; with_reducible rfl); (case hT => simp -dsimp [hnd]); (case hnd => assumption); (case hz => simp -dsimp [hnd])) | (with_reducible refine dn_i follows_any (by kernel_rfl) ?_) | (with_reducible exact done_eq rfl) | (simp -dsimp [hnd]))); (all_goals try with_reducible refine done_eq ?_)
  · have e : m = [] := by assumption
    subst e
    exact ⟨[], List.Perm.refl _, rfl, by simp [gath, look]⟩
  · refine ex_loop (fun x : List ByteArray × List ByteArray × D × Option ByteArray => ⟨[(1, aAlloc), (2, .c (.fn 1000000000)), (7, .c (.own 15004 0)), (20, .c (.fn 20))], [(20, .clo (.it m x.1 x.2.2.2) []), (15004, cVU x.2.2.1), (1000000000, .clo (.fn fGath1) [.own 1000000001 0]), (1000000001, .cells [.gs 1000000002 (ver + x.2.1.length)] tStrs), (1000000002, .arr (ver + x.2.1.length) tStr (sRow (l ++ x.2.1)))]⟩)
      (fun x => x.1.Nodup ∧ (x.2.1 ++ x.1).Perm (m.map (·.1))) (fun x => x.1.length) (m.map (·.1), [], .v .nilIface, none) ?_ ⟨hnd, List.Perm.refl _⟩ ?_
    · exact Weak.same (by simp -dsimp [List.length_nil, Nat.add_zero, List.append_nil]) (by simp -dsimp [List.length_nil, Nat.add_zero, List.append_nil]) (by first | rfl | (simp [closedSt, Av.ids, Ow.ids, Cl.ids, Go.Smd.keys]; done))
    · rintro ⟨left, dn, y, cur⟩ ⟨hnl, hpm⟩ K hK
      dsimp only at hnl hpm hK ⊢
      have hlen := hpm.length_eq
      simp only [List.length_append, List.length_map] at hlen
      have hb : (l.length + dn.length + 1) * 16 ≤ 140737488351232 := by omega
      (repeat' (first | (with_reducible refine br_d (fun _ => ?_) (fun _ => ?_)) | (with_reducible refine br_i (fun _ => ?_) (fun _ => ?_)) | ((with_reducible apply nd_q (ρ := [(1000000000, 15004)]) 7 (by rename_i k hk hs; exact reuse_p (.tr ((mget m k).getD .nil)) y)); (case hc => simp -dsimp [hnd, toDs, hb] <;> first | exact ⟨rfl, rfl, rfl⟩ | exact ⟨rfl, rfl⟩ | done); (case hx => simp -dsimp [hnd, toDs, hb] <;> with_reducible rfl); (case ho => simp -dsimp [hnd, toDs, hb]); (case hh => simp -dsimp [hnd, toDs, hb]); (case hb => simp -dsimp [hnd, toDs, hb])) | ((with_reducible apply nd_i [] (f := 301)); (case hc => simp -dsimp [hnd, toDs, hb]; first | exact ⟨rfl, rfl⟩ | exact ⟨rfl, rfl, rfl⟩); (case hf => exact Tryz.func301); (case hA => simp -dsimp [hnd, toDs, hb] <;> with_reducible rfl); (case hok => simp -dsimp [hnd, toDs, hb]); (case hY => simp -dsimp [hnd, toDs, hb] <;> with_reducible rfl); (case hO => simp -dsimp [hnd, toDs, hb] <;> with_reducible rfl); (case hn => kernel_rfl); (case hb => rfl); (case hN => exact Tryz.ntmps301); (case hrs => exact Tryz.results301); (case hl => exact Nat.le_of_ble_eq_true (by kernel_rfl)); intro hok w0 S0) | ((with_reducible apply nd_next); (case hx => simp -dsimp [hnd, toDs, hb]; first | done | with_reducible rfl); (case hid => simp -dsimp [hnd, toDs, hb]; first | done | with_reducible rfl | exact ⟨rfl, rfl, rfl⟩ | exact ⟨rfl, rfl⟩); (case' h1 => intro _ _ _); (case' h0 => intro _)) | ((with_reducible apply nd_entry); (case hx => simp -dsimp [hnd, toDs, hb]; first | done | with_reducible rfl); (case hid => simp -dsimp [hnd, toDs, hb]; first | done | with_reducible rfl | exact ⟨rfl, rfl, rfl⟩ | exact ⟨rfl, rfl⟩)) | ((with_reducible apply nd_range); (case hx => simp -dsimp [hnd, toDs, hb]; with_reducible rfl); (case hT => simp -dsimp [hnd, toDs, hb]); (case hnd => assumption); (case hz => simp -dsimp [hnd, toDs, hb])) | (with_reducible refine dn_i follows_any (by kernel_rfl) ?_) | (with_reducible exact done_eq rfl) | (simp -dsimp [hnd, toDs, hb]))); (all_goals try with_reducible refine done_eq ?_)
      · have e : left = [] := by assumption
        subst e
        rw [List.append_nil] at hpm
        have e2 : dn.length = m.length := by simpa using hlen
        exact ⟨dn, hpm, rfl, by simp [gath, look, e2]⟩
      · rename_i k hk hs
        have hp := left_perm hnl hk
        have hp2 := hp.length_eq
        simp only [List.length_cons] at hp2
        refine hK _ (left.filter fun x => decide (x ≠ k), dn ++ [k], .tr ((mget m k).getD .nil), some k) ?_ ⟨hnl.filter _, ?_⟩ (by dsimp only; omega)
        · exact Weak.same (by simp -dsimp [Nat.add_assoc]) (by simp -dsimp [Nat.add_assoc]) (by first | rfl | (simp [closedSt, Av.ids, Ow.ids, Cl.ids, Go.Smd.keys]; done))
        · refine List.Perm.trans ?_ hpm
          rw [List.append_assoc]
          exact List.Perm.append_left dn hp.symm
abbrev notIn (m1 : List (ByteArray × Tree)) (k : ByteArray) : Bool := !(mget m1 k).isSome
theorem iterate2_q (m1 m : List (ByteArray × Tree)) (hnd1 : (m1.map (·.1)).Nodup) (hnd : (m.map (·.1)).Nodup) (ver : Nat) (l : List ByteArray) (hl : l.length + m.length ≤ 4000000000000) :
    AProc Tryz.prog 290 [.c (.d (.mp m)), aAlloc, .c (.fn 1000000000)] [(1000000000, .clo (.fn fGath2) [.own 1000000003 0, .own 1000000001 0]), (1000000001, .cells [.gs 1000000002 ver] tStrs), (1000000002, .arr ver tStr (sRow l)), (1000000003, .cells [.d (dM m1)] 275)]
      (fun r own' => ∃ q : List ByteArray, q.Perm (m.map (·.1)) ∧ r = aV (.bool true) ∧ gath2 m1 (ver + (q.filter (notIn m1)).length) (l ++ q.filter (notIn m1)) own') := by
  refine aproc_ex [] Tryz.func290 (by kernel_rfl) rfl Tryz.ntmps290 Tryz.results290 (Nat.le_of_ble_eq_true (by kernel_rfl)) ?_; intro hok w0 S0
  (repeat' (first | (with_reducible refine br_d (fun _ => ?_) (fun _ => ?_)) | (with_reducible refine br_i (fun _ => ?_) (fun _ => ?_)) | ((with_reducible apply nd_i [] (f := 157)); (case hc => simp -dsimp [hnd]; first | exact ⟨rfl, rfl⟩ | exact ⟨rfl, rfl, rfl⟩); (case hf => exact Tryz.func157); (case hA => simp -dsimp [hnd] <;> with_reducible rfl); (case hok => simp -dsimp [hnd]); (case hY => simp -dsimp [hnd] <;> with_reducible rfl); (case hO => simp -dsimp [hnd] <;> with_reducible rfl); (case hn => kernel_rfl); (case hb => rfl); (case hN => exact Tryz.ntmps157); (case hrs => exact Tryz.results157); (case hl => exact Nat.le_of_ble_eq_true (by kernel_rfl)); intro hok w0 S0) | ((with_reducible apply nd_defer); (case hx => simp -dsimp [hnd]; with_reducible rfl); (case hd => exact free_any)) | ((with_reducible apply nd_next); (case hx => simp -dsimp [hnd]; first | done | with_reducible rfl); (case hid => simp -dsimp [hnd]; first | done | with_reducible rfl | exact ⟨rfl, rfl, rfl⟩ | exact ⟨rfl, rfl⟩); (case' h1 => intro _ _ _); (case' h0 => intro _)) | ((with_reducible apply nd_entry); (case hx => simp -dsimp [hnd]; first | done | with_reducible rfl); (case hid => simp -dsimp [hnd]; first | done | with_reducible rfl | exact ⟨rfl, rfl, rfl⟩ | exact ⟨rfl, rfl⟩)) | ((with_reducible apply nd_range); (case hx => simp -dsimp [hnd]; with_reducible rfl); (case hT => simp -dsimp [hnd]); (case hnd => assumption); (case hz => simp -dsimp [hnd])) | (with_reducible refine dn_i follows_any (by kernel_rfl) ?_) | (with_reducible exact done_eq rfl) | (simp -dsimp [hnd]))); (all_goals try with_reducible refine done_eq ?_)
  · have e : m = [] := by assumption
    subst e
    exact ⟨[], List.Perm.refl _, rfl, by simp [gath2, look]⟩
  · refine ex_loop (fun x : List ByteArray × List ByteArray × D × Option ByteArray => ⟨[(1, aAlloc), (2, .c (.fn 1000000000)), (7, .c (.own 15004 0)), (20, .c (.fn 20))], [(20, .clo (.it m x.1 x.2.2.2) []), (15004, cVU x.2.2.1), (1000000000, .clo (.fn fGath2) [.own 1000000003 0, .own 1000000001 0]), (1000000001, .cells [.gs 1000000002 (ver + (x.2.1.filter (notIn m1)).length)] tStrs), (1000000002, .arr (ver + (x.2.1.filter (notIn m1)).length) tStr (sRow (l ++ x.2.1.filter (notIn m1)))), (1000000003, .cells [.d (dM m1)] 275)]⟩)
      (fun x => x.1.Nodup ∧ (x.2.1 ++ x.1).Perm (m.map (·.1))) (fun x => x.1.length) (m.map (·.1), [], .v .nilIface, none) ?_ ⟨hnd, List.Perm.refl _⟩ ?_
    · exact Weak.same (by simp -dsimp [List.length_nil, Nat.add_zero, List.append_nil]) (by simp -dsimp [List.length_nil, Nat.add_zero, List.append_nil]) (by first | rfl | (simp [closedSt, Av.ids, Ow.ids, Cl.ids, Go.Smd.keys]; done))
    · rintro ⟨left, dn, y, cur⟩ ⟨hnl, hpm⟩ K hK
      dsimp only at hnl hpm hK ⊢
      have hlen := hpm.length_eq
      simp only [List.length_append, List.length_map] at hlen
      have hfl := List.length_filter_le (notIn m1) dn
      obtain ⟨rw, hrw⟩ : ∃ rw, rw = dn.filter (notIn m1) := ⟨_, rfl⟩
      rw [← hrw] at hfl
      have hb : (l.length + rw.length + 1) * 16 ≤ 140737488351232 := by omega
      simp only [← hrw]
      (repeat' (first | (with_reducible refine br_d (fun _ => ?_) (fun _ => ?_)) | (with_reducible refine br_i (fun _ => ?_) (fun _ => ?_)) | ((with_reducible apply nd_q (ρ := [(1000000000, 15004)]) 7 (by rename_i k hk hs; exact reuse_p (.tr ((mget m k).getD .nil)) y)); (case hc => simp -dsimp [hnd, hnd1, toDs, hb] <;> first | exact ⟨rfl, rfl, rfl⟩ | exact ⟨rfl, rfl⟩ | done); (case hx => simp -dsimp [hnd, hnd1, toDs, hb] <;> with_reducible rfl); (case ho => simp -dsimp [hnd, hnd1, toDs, hb]); (case hh => simp -dsimp [hnd, hnd1, toDs, hb]); (case hb => simp -dsimp [hnd, hnd1, toDs, hb])) | (with_reducible refine nd_v (has_a m1 hnd1 _) (by first | rfl | (simp -dsimp [hnd, hnd1, toDs, hb]; done)) ?_) | (with_reducible refine nw_v (has_a m1 hnd1 _) rfl (by first | rfl | (simp -dsimp [hnd, hnd1, toDs, hb]; done)) (by first | rfl | (simp -dsimp [hnd, hnd1, toDs, hb]; done)) ?_) | ((with_reducible apply nd_i [] (f := 302)); (case hc => simp -dsimp [hnd, hnd1, toDs, hb]; first | exact ⟨rfl, rfl⟩ | exact ⟨rfl, rfl, rfl⟩); (case hf => exact Tryz.func302); (case hA => simp -dsimp [hnd, hnd1, toDs, hb] <;> with_reducible rfl); (case hok => simp -dsimp [hnd, hnd1, toDs, hb]); (case hY => simp -dsimp [hnd, hnd1, toDs, hb] <;> with_reducible rfl); (case hO => simp -dsimp [hnd, hnd1, toDs, hb] <;> with_reducible rfl); (case hn => kernel_rfl); (case hb => rfl); (case hN => exact Tryz.ntmps302); (case hrs => exact Tryz.results302); (case hl => exact Nat.le_of_ble_eq_true (by kernel_rfl)); intro hok w0 S0) | ((with_reducible apply nd_next); (case hx => simp -dsimp [hnd, hnd1, toDs, hb]; first | done | with_reducible rfl); (case hid => simp -dsimp [hnd, hnd1, toDs, hb]; first | done | with_reducible rfl | exact ⟨rfl, rfl, rfl⟩ | exact ⟨rfl, rfl⟩); (case' h1 => intro _ _ _); (case' h0 => intro _)) | ((with_reducible apply nd_entry); (case hx => simp -dsimp [hnd, hnd1, toDs, hb]; first | done | with_reducible rfl); (case hid => simp -dsimp [hnd, hnd1, toDs, hb]; first | done | with_reducible rfl | exact ⟨rfl, rfl, rfl⟩ | exact ⟨rfl, rfl⟩)) | ((with_reducible apply nd_range); (case hx => simp -dsimp [hnd, hnd1, toDs, hb]; with_reducible rfl); (case hT => simp -dsimp [hnd, hnd1, toDs, hb]); (case hnd => assumption); (case hz => simp -dsimp [hnd, hnd1, toDs, hb])) | (with_reducible refine dn_i follows_any (by kernel_rfl) ?_) | (with_reducible exact done_eq rfl) | (simp -dsimp [hnd, hnd1, toDs, hb]))); (all_goals try with_reducible refine done_eq ?_)
      · have e : left = [] := by assumption
        subst e
        rw [List.append_nil] at hpm
        exact ⟨dn, hpm, rfl, by simp [gath2, look, hrw]⟩
      · rename_i k hk hs hq
        have hp := left_perm hnl hk
        have hp2 := hp.length_eq
        simp only [List.length_cons] at hp2
        have hq2 : notIn m1 k = true := by simpa using hq
        have e3 : (dn ++ [k]).filter (notIn m1) = rw ++ [k] := by rw [List.filter_append, ← hrw, List.filter_cons_of_pos hq2]; rfl
        refine hK _ (left.filter fun x => decide (x ≠ k), dn ++ [k], .tr ((mget m k).getD .nil), some k) ?_ ⟨hnl.filter _, ?_⟩ (by dsimp only; omega)
        · simp only [e3]
          exact Weak.same (by simp -dsimp [Nat.add_assoc]) (by simp -dsimp [Nat.add_assoc]) (by first | rfl | (simp [closedSt, Av.ids, Ow.ids, Cl.ids, Go.Smd.keys]; done))
        · refine List.Perm.trans ?_ hpm
          rw [List.append_assoc]
          exact List.Perm.append_left dn hp.symm
      · rename_i k hk hs hq
        have hp := left_perm hnl hk
        have hp2 := hp.length_eq
        simp only [List.length_cons] at hp2
        have hq2 : ¬ notIn m1 k = true := by cases h : mget m1 k <;> simp_all [notIn]
        have e3 : (dn ++ [k]).filter (notIn m1) = rw := by rw [List.filter_append, ← hrw, List.filter_cons_of_neg hq2]; simp
        refine hK _ (left.filter fun x => decide (x ≠ k), dn ++ [k], .tr ((mget m k).getD .nil), some k) ?_ ⟨hnl.filter _, ?_⟩ (by dsimp only; omega)
        · simp only [e3]
          exact Weak.same (by simp -dsimp [Nat.add_assoc]) (by simp -dsimp [Nat.add_assoc]) (by first | rfl | (simp [closedSt, Av.ids, Ow.ids, Cl.ids, Go.Smd.keys]; done))
        · refine List.Perm.trans ?_ hpm
          rw [List.append_assoc]
          exact List.Perm.append_left dn hp.symm
theorem iterate1_p (m : List (ByteArray × Tree)) (hnd : (m.map (·.1)).Nodup) (ver : Nat) (l : List ByteArray) (hl : l.length + m.length ≤ 4000000000000) :
    AProc Tryz.prog 290 [.c (.d (.mp m)), aAlloc, .c (.fn 1000000000)] [(1000000000, .clo (.fn fGath1) [.own 1000000001 0]), (1000000001, .cells [.gs 1000000002 ver] tStrs), (1000000002, .arr ver tStr (sRow l))]
      (fun r own' => ∃ q : List ByteArray, q.Perm (m.map (·.1)) ∧ r = aV (.bool true) ∧ own' = [(1000000001, .cells [.gs 1000000002 (ver + m.length)] tStrs), (1000000002, .arr (ver + m.length) tStr (sRow (l ++ q)))]) :=
  (iterate1_q m hnd ver l hl).drop fun r own' ⟨q, hq, hr, h1, h2, h3⟩ => ⟨_, ⟨q, hq, hr, rfl⟩, by
    intro p hp
    simp only [List.mem_cons, List.not_mem_nil, or_false] at hp
    rcases hp with rfl | rfl
    · exact h2
    · exact h3, by rfl, by rw [hr]; rfl⟩
theorem iterate2_p (m1 m : List (ByteArray × Tree)) (hnd1 : (m1.map (·.1)).Nodup) (hnd : (m.map (·.1)).Nodup) (ver : Nat) (l : List ByteArray) (hl : l.length + m.length ≤ 4000000000000) :
    AProc Tryz.prog 290 [.c (.d (.mp m)), aAlloc, .c (.fn 1000000000)] [(1000000000, .clo (.fn fGath2) [.own 1000000003 0, .own 1000000001 0]), (1000000001, .cells [.gs 1000000002 ver] tStrs), (1000000002, .arr ver tStr (sRow l)), (1000000003, .cells [.d (dM m1)] 275)]
      (fun r own' => ∃ q : List ByteArray, q.Perm (m.map (·.1)) ∧ r = aV (.bool true) ∧ own' = [(1000000001, .cells [.gs 1000000002 (ver + (q.filter (notIn m1)).length)] tStrs), (1000000002, .arr (ver + (q.filter (notIn m1)).length) tStr (sRow (l ++ q.filter (notIn m1)))), (1000000003, .cells [.d (dM m1)] 275)]) :=
  (iterate2_q m1 m hnd1 hnd ver l hl).drop fun r own' ⟨q, hq, hr, h1, h2, h3, h4⟩ => ⟨_, ⟨q, hq, hr, rfl⟩, by
    intro p hp
    simp only [List.mem_cons, List.not_mem_nil, or_false] at hp
    rcases hp with rfl | rfl | rfl
    · exact h2
    · exact h3
    · exact h4, by rfl, by rw [hr]; rfl⟩
end Go.Smd
end
section
set_option linter.unusedSimpArgs false
set_option maxRecDepth 100000
set_option maxHeartbeats 8000000
namespace Go.Smd
open Go.RowKit Go.Proofs
def cmpL (c : Tree → Tree → Int) : List Tree → List Tree → Int
  | [], [] => 0
  | [], _ :: _ => -1
  | _ :: _, [] => 1
  | x :: xs, y :: ys => if c x y ≠ 0 then c x y else cmpL c xs ys
def yv (l : List Tree) : Nat → D
  | 0 => .v .nilIface
  | i + 1 => .tr (l.getD i .nil)
abbrev fCompareUsing : FuncId := 205
theorem listCompareUsing_a (c : Tree → Tree → Int) (l m : List Tree) (hl : l.length ≤ 140737488351232) (hm : m.length ≤ 140737488351232)
    (hc : ∀ x ∈ l, ∀ y ∈ m, ACalls Tryz.prog fCompareUsing [aAlloc, .c (.d (dV x)), .c (.d (dV y))] (fun r => r = aV (.int .i64 (c x y)))) :
    ACalls Tryz.prog 218 [aAlloc, .c (.d (dL l)), .c (.d (dL m))] (fun r => r = aV (.int .i64 (cmpL c l m))) := by
  have hl2 : l.length ≤ 9223372036854775807 := by omega
  have hm2 : m.length ≤ 9223372036854775807 := by omega
  refine acalls_ex [] Tryz.func218 (by kernel_rfl) rfl Tryz.ntmps218 Tryz.results218 (Nat.le_of_ble_eq_true (by kernel_rfl)) ?_; intro hok w0 S0
  (repeat' (first | (with_reducible refine br_d (fun _ => ?_) (fun _ => ?_)) | (with_reducible refine br_i (fun _ => ?_) (fun _ => ?_)) | ((with_reducible apply nd_i [] (f := 280)); (case hc => simp -dsimp [hl2, hm2]; first | exact ⟨rfl, rfl⟩ | exact ⟨rfl, rfl, rfl⟩); (case hf => exact Tryz.func280); (case hA => simp -dsimp [hl2, hm2] <;> with_reducible rfl); (case hok => simp -dsimp [hl2, hm2]); (case hY => simp -dsimp [hl2, hm2] <;> with_reducible rfl); (case hO => simp -dsimp [hl2, hm2] <;> with_reducible rfl); (case hn => kernel_rfl); (case hb => rfl); (case hN => exact Tryz.ntmps280); (case hrs => exact Tryz.results280); (case hl => exact Nat.le_of_ble_eq_true (by kernel_rfl)); intro hok w0 S0) | ((with_reducible apply nd_i [] (f := 271)); (case hc => simp -dsimp [hl2, hm2]; first | exact ⟨rfl, rfl⟩ | exact ⟨rfl, rfl, rfl⟩); (case hf => exact Tryz.func271); (case hA => simp -dsimp [hl2, hm2] <;> with_reducible rfl); (case hok => simp -dsimp [hl2, hm2]); (case hY => simp -dsimp [hl2, hm2] <;> with_reducible rfl); (case hO => simp -dsimp [hl2, hm2] <;> with_reducible rfl); (case hn => kernel_rfl); (case hb => rfl); (case hN => exact Tryz.ntmps271); (case hrs => exact Tryz.results271); (case hl => exact Nat.le_of_ble_eq_true (by kernel_rfl)); intro hok w0 S0) | ((with_reducible apply nd_defer); (case hx => simp -dsimp [hl2, hm2]; with_reducible rfl); (case hd => exact free_any)) | (with_reducible refine dn_i follows_any (by kernel_rfl) ?_) | (with_reducible exact done_eq rfl) | (simp -dsimp [hl2, hm2]))); (all_goals try with_reducible refine done_eq ?_)
  · have e1 : l = [] := by assumption
    have e2 : m = [] := by assumption
    refine ex_loop (fun _ : Unit => ⟨[(0, aAlloc), (7, .c (.io 385 19010 0)), (8, .c (.io 385 25010 0))], [(19010, .cells [] 386), (25010, .cells [] 386)]⟩) (fun _ => True) (fun _ => 0) () ?_ trivial ?_
    · exact Weak.same (by simp -dsimp) (by simp -dsimp) (by first | rfl | (simp [closedSt, Av.ids, Ow.ids, Cl.ids, Go.Smd.keys]; done))
    · rintro _ _ K hK
      (repeat' (first | (with_reducible refine br_d (fun _ => ?_) (fun _ => ?_)) | (with_reducible refine br_i (fun _ => ?_) (fun _ => ?_)) | ((with_reducible apply nd_i [] (f := 306)); (case hc => simp -dsimp; first | exact ⟨rfl, rfl⟩ | exact ⟨rfl, rfl, rfl⟩); (case hf => exact Tryz.func306); (case hA => simp -dsimp <;> with_reducible rfl); (case hok => simp -dsimp); (case hY => simp -dsimp <;> with_reducible rfl); (case hO => simp -dsimp <;> with_reducible rfl); (case hn => kernel_rfl); (case hb => rfl); (case hN => exact Tryz.ntmps306); (case hrs => exact Tryz.results306); (case hl => exact Nat.le_of_ble_eq_true (by kernel_rfl)); intro hok w0 S0) | (with_reducible refine dn_i follows_any (by kernel_rfl) ?_) | (with_reducible exact done_eq rfl) | (simp -dsimp))); (all_goals try with_reducible refine done_eq ?_)
      all_goals (subst e1; subst e2; rfl)
  · have e1 : l = [] := by assumption
    have e2 : m ≠ [] := by assumption
    have e3 : 0 < m.length := List.length_pos_iff.2 e2
    have e4 : (-1 : Int) + 1 < m.length := by omega
    refine ex_loop (fun _ : Unit => ⟨[(0, aAlloc), (7, .c (.io 385 19010 0)), (8, .c (.io 382 39006 0))], [(19010, .cells [] 386), (39006, cRng m 39004 (-1)), (39004, cVU (.v .nilIface))]⟩) (fun _ => True) (fun _ => 0) () ?_ trivial ?_
    · exact Weak.same (by simp -dsimp) (by simp -dsimp) (by first | rfl | (simp [closedSt, Av.ids, Ow.ids, Cl.ids, Go.Smd.keys]; done))
    · rintro _ _ K hK
      (repeat' (first | (with_reducible refine br_d (fun _ => ?_) (fun _ => ?_)) | (with_reducible refine br_i (fun _ => ?_) (fun _ => ?_)) | ((with_reducible apply nd_i [] (f := 306)); (case hc => simp -dsimp [e3]; first | exact ⟨rfl, rfl⟩ | exact ⟨rfl, rfl, rfl⟩); (case hf => exact Tryz.func306); (case hA => simp -dsimp [e3] <;> with_reducible rfl); (case hok => simp -dsimp [e3]); (case hY => simp -dsimp [e3] <;> with_reducible rfl); (case hO => simp -dsimp [e3] <;> with_reducible rfl); (case hn => kernel_rfl); (case hb => rfl); (case hN => exact Tryz.ntmps306); (case hrs => exact Tryz.results306); (case hl => exact Nat.le_of_ble_eq_true (by kernel_rfl)); intro hok w0 S0) | ((with_reducible apply nd_q (ρ := [(1000000000, 39006), (1000000001, 39004)]) 7 (next_p m (-1) (by omega) (by omega) hm (.v .nilIface))); (case hc => simp -dsimp [e3] <;> first | exact ⟨rfl, rfl, rfl⟩ | exact ⟨rfl, rfl⟩ | done); (case hx => simp -dsimp [e3] <;> with_reducible rfl); (case ho => simp -dsimp [e3]); (case hh => simp -dsimp [e3]); (case hb => simp -dsimp [e3])) | (with_reducible refine dn_i follows_any (by kernel_rfl) ?_) | (with_reducible exact done_eq rfl) | (simp -dsimp [e3]))); (all_goals try with_reducible refine done_eq ?_)
      all_goals (subst e1; cases m with | nil => exact absurd rfl e2 | cons y ys => rfl)
  · have e1 : l ≠ [] := by assumption
    have e2 : m = [] := by assumption
    have e3 : 0 < l.length := List.length_pos_iff.2 e1
    have e4 : (-1 : Int) + 1 < l.length := by omega
    refine ex_loop (fun _ : Unit => ⟨[(0, aAlloc), (7, .c (.io 382 33006 0)), (8, .c (.io 385 25010 0))], [(33006, cRng l 33004 (-1)), (33004, cVU (.v .nilIface)), (25010, .cells [] 386)]⟩) (fun _ => True) (fun _ => 0) () ?_ trivial ?_
    · exact Weak.same (by simp -dsimp) (by simp -dsimp) (by first | rfl | (simp [closedSt, Av.ids, Ow.ids, Cl.ids, Go.Smd.keys]; done))
    · rintro _ _ K hK
      (repeat' (first | (with_reducible refine br_d (fun _ => ?_) (fun _ => ?_)) | (with_reducible refine br_i (fun _ => ?_) (fun _ => ?_)) | ((with_reducible apply nd_i [] (f := 306)); (case hc => simp -dsimp [e3]; first | exact ⟨rfl, rfl⟩ | exact ⟨rfl, rfl, rfl⟩); (case hf => exact Tryz.func306); (case hA => simp -dsimp [e3] <;> with_reducible rfl); (case hok => simp -dsimp [e3]); (case hY => simp -dsimp [e3] <;> with_reducible rfl); (case hO => simp -dsimp [e3] <;> with_reducible rfl); (case hn => kernel_rfl); (case hb => rfl); (case hN => exact Tryz.ntmps306); (case hrs => exact Tryz.results306); (case hl => exact Nat.le_of_ble_eq_true (by kernel_rfl)); intro hok w0 S0) | ((with_reducible apply nd_q (ρ := [(1000000000, 33006), (1000000001, 33004)]) 7 (next_p l (-1) (by omega) (by omega) hl (.v .nilIface))); (case hc => simp -dsimp [e3] <;> first | exact ⟨rfl, rfl, rfl⟩ | exact ⟨rfl, rfl⟩ | done); (case hx => simp -dsimp [e3] <;> with_reducible rfl); (case ho => simp -dsimp [e3]); (case hh => simp -dsimp [e3]); (case hb => simp -dsimp [e3])) | (with_reducible refine dn_i follows_any (by kernel_rfl) ?_) | (with_reducible exact done_eq rfl) | (simp -dsimp [e3]))); (all_goals try with_reducible refine done_eq ?_)
      all_goals (subst e2; cases l with | nil => exact absurd rfl e1 | cons y ys => rfl)
  · have e1 : l ≠ [] := by assumption
    have e2 : m ≠ [] := by assumption
    refine ex_loop (fun i : Nat => ⟨[(0, aAlloc), (7, .c (.io 382 33006 0)), (8, .c (.io 382 39006 0))], [(33006, cRng l 33004 ((i : Int) - 1)), (33004, cVU (yv l i)), (39006, cRng m 39004 ((i : Int) - 1)), (39004, cVU (yv m i))]⟩) (fun i => i ≤ l.length ∧ i ≤ m.length ∧ cmpL c l m = cmpL c (l.drop i) (m.drop i)) (fun i => l.length - i) 0 ?_ ⟨Nat.zero_le _, Nat.zero_le _, rfl⟩ ?_
    · exact Weak.same (by simp -dsimp [yv]) (by simp -dsimp [yv]) (by first | rfl | (simp [closedSt, Av.ids, Ow.ids, Cl.ids, Go.Smd.keys]; done))
    · rintro i ⟨hi1, hi2, hi3⟩ K hK
      have a1 : ((i : Int) - 1) + 1 = (i : Int) := by omega
      have hn1 := next_p l ((i : Int) - 1) (by omega) (by omega) hl (yv l i)
      have hn2 := next_p m ((i : Int) - 1) (by omega) (by omega) hm (yv m i)
      rw [a1] at hn1 hn2
      by_cases c1 : i < l.length
      · by_cases c2 : i < m.length
        · have hcons : cmpL c (l.drop i) (m.drop i) = (if c l[i] m[i] ≠ 0 then c l[i] m[i] else cmpL c (l.drop (i + 1)) (m.drop (i + 1))) := by rw [List.drop_eq_getElem_cons c1, List.drop_eq_getElem_cons c2]; rfl
          have hi : ((i : Int) < l.length) := by omega
          have hj : ((i : Int) < m.length) := by omega
          (repeat' (first | (with_reducible refine br_d (fun _ => ?_) (fun _ => ?_)) | (with_reducible refine br_i (fun _ => ?_) (fun _ => ?_)) | ((with_reducible apply nd_q (ρ := [(1000000000, 33006), (1000000001, 33004)]) 7 (hn1)); (case hc => simp -dsimp [c1, c2, hi, hj] <;> first | exact ⟨rfl, rfl, rfl⟩ | exact ⟨rfl, rfl⟩ | done); (case hx => simp -dsimp [c1, c2, hi, hj] <;> with_reducible rfl); (case ho => simp -dsimp [c1, c2, hi, hj]); (case hh => simp -dsimp [c1, c2, hi, hj]); (case hb => simp -dsimp [c1, c2, hi, hj])) | ((with_reducible apply nd_q (ρ := [(1000000000, 39006), (1000000001, 39004)]) 7 (hn2)); (case hc => simp -dsimp [c1, c2, hi, hj] <;> first | exact ⟨rfl, rfl, rfl⟩ | exact ⟨rfl, rfl⟩ | done); (case hx => simp -dsimp [c1, c2, hi, hj] <;> with_reducible rfl); (case ho => simp -dsimp [c1, c2, hi, hj]); (case hh => simp -dsimp [c1, c2, hi, hj]); (case hb => simp -dsimp [c1, c2, hi, hj])) | ((with_reducible apply nd_q (ρ := [(1000000000, 33006), (1000000001, 33004)]) 7 (item_p l i c1 hl (yv l i))); (case hc => simp -dsimp [c1, c2, hi, hj] <;> first | exact ⟨rfl, rfl, rfl⟩ | exact ⟨rfl, rfl⟩ | done); (case hx => simp -dsimp [c1, c2, hi, hj] <;> with_reducible rfl); (case ho => simp -dsimp [c1, c2, hi, hj]); (case hh => simp -dsimp [c1, c2, hi, hj]); (case hb => simp -dsimp [c1, c2, hi, hj])) | ((with_reducible apply nd_q (ρ := [(1000000000, 39006), (1000000001, 39004)]) 7 (item_p m i c2 hm (yv m i))); (case hc => simp -dsimp [c1, c2, hi, hj] <;> first | exact ⟨rfl, rfl, rfl⟩ | exact ⟨rfl, rfl⟩ | done); (case hx => simp -dsimp [c1, c2, hi, hj] <;> with_reducible rfl); (case ho => simp -dsimp [c1, c2, hi, hj]); (case hh => simp -dsimp [c1, c2, hi, hj]); (case hb => simp -dsimp [c1, c2, hi, hj])) | (with_reducible refine nd_lv (hc _ (List.getElem_mem c1) _ (List.getElem_mem c2)) (by first | rfl | (simp -dsimp [c1, c2, hi, hj]; done)) rfl ?_) | (with_reducible refine dn_i follows_any (by kernel_rfl) ?_) | (with_reducible exact done_eq rfl) | (simp -dsimp [c1, c2, hi, hj]))); (all_goals try with_reducible refine done_eq ?_)
          · rename_i hn
            rw [hi3, hcons, if_pos (by simpa using hn)]
          · rename_i hn
            refine hK _ (i + 1) ?_ ⟨by omega, by omega, by rw [hi3, hcons, if_neg (by simpa using hn)]⟩ (by omega)
            have a3 : (((i + 1 : Nat) : Int) - 1) = i := by omega
            have hy1 : yv l (i + 1) = .tr l[i] := by simp [yv, c1]
            have hy2 : yv m (i + 1) = .tr m[i] := by simp [yv, c2]
            exact Weak.same (by simp -dsimp [a3, hy1, hy2]) (by simp -dsimp [a3, hy1, hy2]) (by first | rfl | (simp [closedSt, Av.ids, Ow.ids, Cl.ids, Go.Smd.keys]; done))
        · have hi : ((i : Int) < l.length) := by omega
          have hj : ¬ ((i : Int) < m.length) := by omega
          (repeat' (first | (with_reducible refine br_d (fun _ => ?_) (fun _ => ?_)) | (with_reducible refine br_i (fun _ => ?_) (fun _ => ?_)) | ((with_reducible apply nd_q (ρ := [(1000000000, 33006), (1000000001, 33004)]) 7 (hn1)); (case hc => simp -dsimp [c1, c2, hi, hj] <;> first | exact ⟨rfl, rfl, rfl⟩ | exact ⟨rfl, rfl⟩ | done); (case hx => simp -dsimp [c1, c2, hi, hj] <;> with_reducible rfl); (case ho => simp -dsimp [c1, c2, hi, hj]); (case hh => simp -dsimp [c1, c2, hi, hj]); (case hb => simp -dsimp [c1, c2, hi, hj])) | ((with_reducible apply nd_q (ρ := [(1000000000, 39006), (1000000001, 39004)]) 7 (hn2)); (case hc => simp -dsimp [c1, c2, hi, hj] <;> first | exact ⟨rfl, rfl, rfl⟩ | exact ⟨rfl, rfl⟩ | done); (case hx => simp -dsimp [c1, c2, hi, hj] <;> with_reducible rfl); (case ho => simp -dsimp [c1, c2, hi, hj]); (case hh => simp -dsimp [c1, c2, hi, hj]); (case hb => simp -dsimp [c1, c2, hi, hj])) | (with_reducible refine dn_i follows_any (by kernel_rfl) ?_) | (with_reducible exact done_eq rfl) | (simp -dsimp [c1, c2, hi, hj]))); (all_goals try with_reducible refine done_eq ?_)
          all_goals (rw [hi3, List.drop_eq_getElem_cons c1, List.drop_eq_nil_of_le (show m.length ≤ i by omega)]; rfl)
      · by_cases c2 : i < m.length
        · have hi : ¬ ((i : Int) < l.length) := by omega
          have hj : ((i : Int) < m.length) := by omega
          (repeat' (first | (with_reducible refine br_d (fun _ => ?_) (fun _ => ?_)) | (with_reducible refine br_i (fun _ => ?_) (fun _ => ?_)) | ((with_reducible apply nd_q (ρ := [(1000000000, 33006), (1000000001, 33004)]) 7 (hn1)); (case hc => simp -dsimp [c1, c2, hi, hj] <;> first | exact ⟨rfl, rfl, rfl⟩ | exact ⟨rfl, rfl⟩ | done); (case hx => simp -dsimp [c1, c2, hi, hj] <;> with_reducible rfl); (case ho => simp -dsimp [c1, c2, hi, hj]); (case hh => simp -dsimp [c1, c2, hi, hj]); (case hb => simp -dsimp [c1, c2, hi, hj])) | ((with_reducible apply nd_q (ρ := [(1000000000, 39006), (1000000001, 39004)]) 7 (hn2)); (case hc => simp -dsimp [c1, c2, hi, hj] <;> first | exact ⟨rfl, rfl, rfl⟩ | exact ⟨rfl, rfl⟩ | done); (case hx => simp -dsimp [c1, c2, hi, hj] <;> with_reducible rfl); (case ho => simp -dsimp [c1, c2, hi, hj]); (case hh => simp -dsimp [c1, c2, hi, hj]); (case hb => simp -dsimp [c1, c2, hi, hj])) | (with_reducible refine dn_i follows_any (by kernel_rfl) ?_) | (with_reducible exact done_eq rfl) | (simp -dsimp [c1, c2, hi, hj]))); (all_goals try with_reducible refine done_eq ?_)
          all_goals (rw [hi3, List.drop_eq_nil_of_le (show l.length ≤ i by omega), List.drop_eq_getElem_cons c2]; rfl)
        · have hi : ¬ ((i : Int) < l.length) := by omega
          have hj : ¬ ((i : Int) < m.length) := by omega
          (repeat' (first | (with_reducible refine br_d (fun _ => ?_) (fun _ => ?_)) | (with_reducible refine br_i (fun _ => ?_) (fun _ => ?_)) | ((with_reducible apply nd_q (ρ := [(1000000000, 33006), (1000000001, 33004)]) 7 (hn1)); (case hc => simp -dsimp [c1, c2, hi, hj] <;> first | exact ⟨rfl, rfl, rfl⟩ | exact ⟨rfl, rfl⟩ | done); (case hx => simp -dsimp [c1, c2, hi, hj] <;> with_reducible rfl); (case ho => simp -dsimp [c1, c2, hi, hj]); (case hh => simp -dsimp [c1, c2, hi, hj]); (case hb => simp -dsimp [c1, c2, hi, hj])) | ((with_reducible apply nd_q (ρ := [(1000000000, 39006), (1000000001, 39004)]) 7 (hn2)); (case hc => simp -dsimp [c1, c2, hi, hj] <;> first | exact ⟨rfl, rfl, rfl⟩ | exact ⟨rfl, rfl⟩ | done); (case hx => simp -dsimp [c1, c2, hi, hj] <;> with_reducible rfl); (case ho => simp -dsimp [c1, c2, hi, hj]); (case hh => simp -dsimp [c1, c2, hi, hj]); (case hb => simp -dsimp [c1, c2, hi, hj])) | (with_reducible refine dn_i follows_any (by kernel_rfl) ?_) | (with_reducible exact done_eq rfl) | (simp -dsimp [c1, c2, hi, hj]))); (all_goals try with_reducible refine done_eq ?_)
          all_goals (rw [hi3, List.drop_eq_nil_of_le (show l.length ≤ i by omega), List.drop_eq_nil_of_le (show m.length ≤ i by omega)]; rfl)
end Go.Smd
end
