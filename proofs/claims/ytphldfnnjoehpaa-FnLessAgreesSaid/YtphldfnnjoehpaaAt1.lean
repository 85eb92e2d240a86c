/- spec.Orderly by value. -/
import Derived.Test.YtphldfnnjoehpaaMs
set_option linter.unusedSimpArgs false
namespace Go.Smd
open Go.RowKit Go.Proofs

mutual
def orderly : GV → Bool
  | .mk kind n f _ _ l => if kind = 2 then decide (-9007199254740992 ≤ n) && decide (n ≤ 9007199254740992) else if kind = 3 then FloatKind.f64.format.order f f == some .eq else if kind = 5 ∨ kind = 6 then orderlys l else true
def orderlys : List GV → Bool
  | [] => true
  | x :: l => orderly x && orderlys l
end
theorem orderlys_eq : ∀ l, orderlys l = l.all orderly
  | [] => by simp [orderlys]
  | x :: l => by simp [orderlys, orderlys_eq l]
set_option maxRecDepth 20000 in
set_option maxHeartbeats 400000 in
theorem orderly_a (g : GV) : ACalls Try.prog 52 [gvA g] (fun r => r = aV (.bool (orderly g))) := by
  induction g using GV.ind with
  | h kind n f s keys l IH =>
  refine acalls_ex [] Try.func52 (by kernel_rfl) rfl Try.ntmps52 Try.results52 (Nat.le_of_ble_eq_true (by kernel_rfl)) ?_; intro hok w0 S0
  have hk := gv_ok (hok _ (List.mem_singleton_self _))
  have hl := hk.hl
  have hl2 : l.length ≤ 9223372036854775807 := by omega
  simp only [gvA, gvD_mk, cls_cons, cls_nil]
  clear hok hk hl
  (repeat' (first
                                                            | (with_reducible refine br_d (fun _ => ?_) (fun _ => ?_))
                                                            | (with_reducible refine br_i (fun _ => ?_) (fun _ => ?_))
                                                            | ((with_reducible apply nd_next); (case hx => simp -dsimp [hl2]; first | done | with_reducible rfl); (case hid => simp -dsimp [hl2]; first | done | with_reducible rfl | exact ⟨rfl, rfl, rfl⟩ | exact ⟨rfl, rfl⟩); (case' h1 => intro _ _ _); (case' h0 => intro _))
                                                            | ((with_reducible apply nd_entry); (case hx => simp -dsimp [hl2]; first | done | with_reducible rfl); (case hid => simp -dsimp [hl2]; first | done | with_reducible rfl | exact ⟨rfl, rfl, rfl⟩ | exact ⟨rfl, rfl⟩))
                                                            | ((with_reducible apply nd_range); (case hx => simp -dsimp [hl2]; with_reducible rfl); (case hT => simp -dsimp [hl2]); (case hnd => assumption); (case hz => simp -dsimp [hl2]))
                                                            | (with_reducible refine dn_i follows_any (by kernel_rfl) ?_)
                                                            | (with_reducible exact done_eq rfl)
                                                            | (simp -dsimp [hl2]))); (all_goals try with_reducible refine done_eq ?_)
  all_goals first
    | (simp_all [orderly]; done)
    | (simp_all [orderly]; omega)
    | skip
  all_goals
    have H : orderly (.mk kind n f s keys l) = l.all orderly := by simp_all [orderly, orderlys_eq]
    rw [H]
    clear H
    refine ex_loop (fun i : Nat => ⟨[(28, .c (.d (dGVs l))), (29, aV (.int .i64 l.length)), (30, aV (.int .i64 i))], []⟩) (fun i => i ≤ l.length ∧ ∀ (j : Nat) (h : j < l.length), j < i → orderly l[j] = true) (fun i => l.length - i) 0 ?_ ⟨Nat.zero_le _, fun j x h => by omega⟩ ?_
    · exact Weak.same (by simp -dsimp) (by simp -dsimp) (by first | rfl | (simp [closedSt, Av.ids, Ow.ids, Cl.ids, Go.Smd.keys]; done))
    · rintro i ⟨hi, hall⟩ K hK
      by_cases hlt : i < l.length
      · have hw : IntKind.wrap .i64 ((i : Int) + 1) = ((i + 1 : Nat) : Int) := by rw [wrap_i64] <;> omega
        (repeat' (first
                                                            | (with_reducible refine br_d (fun _ => ?_) (fun _ => ?_))
                                                            | (with_reducible refine br_i (fun _ => ?_) (fun _ => ?_))
                                                            | (with_reducible refine nd_v (IH l[i] (List.getElem_mem hlt)) (by first | rfl | (simp -dsimp [hl2, hlt, hw]; done)) ?_)
                                                            | (with_reducible refine nw_v (IH l[i] (List.getElem_mem hlt)) rfl (by first | rfl | (simp -dsimp [hl2, hlt, hw]; done)) (by first | rfl | (simp -dsimp [hl2, hlt, hw]; done)) ?_)
                                                            | ((with_reducible apply nd_next); (case hx => simp -dsimp [hl2, hlt, hw]; first | done | with_reducible rfl); (case hid => simp -dsimp [hl2, hlt, hw]; first | done | with_reducible rfl | exact ⟨rfl, rfl, rfl⟩ | exact ⟨rfl, rfl⟩); (case' h1 => intro _ _ _); (case' h0 => intro _))
                                                            | ((with_reducible apply nd_entry); (case hx => simp -dsimp [hl2, hlt, hw]; first | done | with_reducible rfl); (case hid => simp -dsimp [hl2, hlt, hw]; first | done | with_reducible rfl | exact ⟨rfl, rfl, rfl⟩ | exact ⟨rfl, rfl⟩))
                                                            | ((with_reducible apply nd_range); (case hx => simp -dsimp [hl2, hlt, hw]; with_reducible rfl); (case hT => simp -dsimp [hl2, hlt, hw]); (case hnd => assumption); (case hz => simp -dsimp [hl2, hlt, hw]))
                                                            | (with_reducible refine dn_i follows_any (by kernel_rfl) ?_)
                                                            | (with_reducible exact done_eq rfl)
                                                            | (simp -dsimp [hl2, hlt, hw]))); (all_goals try with_reducible refine done_eq ?_)
        · rename_i hn
          have : l.all orderly = false := List.all_eq_false.2 ⟨l[i], List.getElem_mem hlt, by simpa using hn⟩
          rw [this]
        · rename_i hn
          refine hK _ (i + 1) ?_ ⟨by omega, fun j h hj => ?_⟩ (by omega)
          · exact Weak.same (by simp -dsimp) (by simp -dsimp) (by first | rfl | (simp [closedSt, Av.ids, Ow.ids, Cl.ids, Go.Smd.keys]; done))
          · by_cases e : j = i
            · subst e; simpa using hn
            · exact hall j h (by omega)
      · (repeat' (first
                                                            | (with_reducible refine br_d (fun _ => ?_) (fun _ => ?_))
                                                            | (with_reducible refine br_i (fun _ => ?_) (fun _ => ?_))
                                                            | ((with_reducible apply nd_next); (case hx => simp -dsimp [hl2, hlt]; first | done | with_reducible rfl); (case hid => simp -dsimp [hl2, hlt]; first | done | with_reducible rfl | exact ⟨rfl, rfl, rfl⟩ | exact ⟨rfl, rfl⟩); (case' h1 => intro _ _ _); (case' h0 => intro _))
                                                            | ((with_reducible apply nd_entry); (case hx => simp -dsimp [hl2, hlt]; first | done | with_reducible rfl); (case hid => simp -dsimp [hl2, hlt]; first | done | with_reducible rfl | exact ⟨rfl, rfl, rfl⟩ | exact ⟨rfl, rfl⟩))
                                                            | ((with_reducible apply nd_range); (case hx => simp -dsimp [hl2, hlt]; with_reducible rfl); (case hT => simp -dsimp [hl2, hlt]); (case hnd => assumption); (case hz => simp -dsimp [hl2, hlt]))
                                                            | (with_reducible refine dn_i follows_any (by kernel_rfl) ?_)
                                                            | (with_reducible exact done_eq rfl)
                                                            | (simp -dsimp [hl2, hlt]))); (all_goals try with_reducible refine done_eq ?_)
        have : l.all orderly = true := List.all_eq_true.2 fun x hx => by
          obtain ⟨j, hj, rfl⟩ := List.getElem_of_mem hx
          exact hall j hj (by omega)
        rw [this]
end Go.Smd
