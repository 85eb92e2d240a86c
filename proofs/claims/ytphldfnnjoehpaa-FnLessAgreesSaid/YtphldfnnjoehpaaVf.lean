/- Maps compared, by value. -/
import Derived.Test.YtphldfnnjoehpaaMs
import Derived.Test.YtphldfnnjoehpaaVe
set_option linter.unusedSimpArgs false
set_option maxRecDepth 100000
set_option maxHeartbeats 8000000
namespace Go.Smd
open Go.RowKit Go.Proofs

@[simp] theorem ctys_fn3 : ctys Try.prog 150 = [none] := by kernel_rfl
@[simp] theorem lay_fn3 : Try.prog.lay 150 = some (1, false) := by kernel_rfl
theorem zipCmp_d (c : Tree → Tree → Int) (m1 m2 : List (ByteArray × Tree)) (hnd1 : (m1.map (·.1)).Nodup) (hnd2 : (m2.map (·.1)).Nodup) (hl : m1.length + m2.length ≤ 4000000000000) (hne : ¬ (m1.length = 0 ∧ m2.length = 0))
    (hc : ∀ x ∈ m1, ∀ y ∈ m2, ACalls Try.prog fCompareUsing [aAlloc, .c (.d (dV x.2)), .c (.d (dV y.2))] (fun r => r = aV (.int .i64 (c x.2 y.2)))) :
    AProc Try.prog 199 [aAlloc, .c (.d (dM m1)), .c (.d (dM m2)), .c (.fn 1000000000)]
      [(1000000000, .clo (.fn fCmp1) [.own 1000000001 0, .own 1000000002 0, .own 1000000003 0, .own 1000000004 0, .own 1000000005 0]), (1000000001, cI 0), (1000000002, cI m1.length), (1000000003, cI 0), (1000000004, cI m2.length), (1000000005, .cells [.d dAlloc] 213)]
      (fun r own' => ∃ x : List ByteArray × Bool, unionKeys m1 m2 x.1 ∧ r = aV (.bool x.2) ∧ own' = [(1000000003, cI (cmpKs c m1 m2 0 x.1))]) :=
  (zipCmp_p c m1 m2 hnd1 hnd2 hl hne hc).drop fun r own' ⟨x, hq, hr, h1⟩ => ⟨_, ⟨x, hq, hr, rfl⟩, by
    intro p hp
    simp only [List.mem_cons, List.not_mem_nil, or_false] at hp
    subst hp
    exact h1, by rfl, by rw [hr]; rfl⟩
/-- Two maps, by value. -/
theorem mapCompareUsing_a (c : Tree → Tree → Int) (m1 m2 : List (ByteArray × Tree)) (hnd1 : (m1.map (·.1)).Nodup) (hnd2 : (m2.map (·.1)).Nodup) (hl : m1.length + m2.length ≤ 4000000000000)
    (hc : ∀ x ∈ m1, ∀ y ∈ m2, ACalls Try.prog fCompareUsing [aAlloc, .c (.d (dV x.2)), .c (.d (dV y.2))] (fun r => r = aV (.int .i64 (c x.2 y.2)))) :
    ACalls Try.prog 129 [aAlloc, .c (.d (dM m1)), .c (.d (dM m2))] (fun r => ∃ ss, unionKeys m1 m2 ss ∧ r = aV (.int .i64 (cmpKs c m1 m2 0 ss))) := by
  by_cases hne : m1.length = 0 ∧ m2.length = 0
  · obtain ⟨e1, e2⟩ := hne
    have e1 := List.eq_nil_of_length_eq_zero e1
    have e2 := List.eq_nil_of_length_eq_zero e2
    subst e1; subst e2
    refine acalls_ex [] Try.func129 (by kernel_rfl) rfl Try.ntmps129 Try.results129 (Nat.le_of_ble_eq_true (by kernel_rfl)) ?_; intro hok w0 S0
    (repeat' (first
                                                            | (with_reducible refine br_d (fun _ => ?_) (fun _ => ?_))
                                                            | (with_reducible refine br_i (fun _ => ?_) (fun _ => ?_))
                                                            | (with_reducible refine nd_v (length_a []) (by first | rfl | (simp -dsimp; done)) ?_)
                                                            | (with_reducible refine nw_v (length_a []) rfl (by first | rfl | (simp -dsimp; done)) (by first | rfl | (simp -dsimp; done)) ?_)
                                                            | (with_reducible refine nd_v (length_a []) (by first | rfl | (simp -dsimp; done)) ?_)
                                                            | (with_reducible refine nw_v (length_a []) rfl (by first | rfl | (simp -dsimp; done)) (by first | rfl | (simp -dsimp; done)) ?_)
                                                            | ((with_reducible apply nd_next); (case hx => simp -dsimp; first | done | with_reducible rfl); (case hid => simp -dsimp; first | done | with_reducible rfl | exact ⟨rfl, rfl, rfl⟩ | exact ⟨rfl, rfl⟩); (case' h1 => intro _ _ _); (case' h0 => intro _))
                                                            | ((with_reducible apply nd_entry); (case hx => simp -dsimp; first | done | with_reducible rfl); (case hid => simp -dsimp; first | done | with_reducible rfl | exact ⟨rfl, rfl, rfl⟩ | exact ⟨rfl, rfl⟩))
                                                            | ((with_reducible apply nd_range); (case hx => simp -dsimp; with_reducible rfl); (case hT => simp -dsimp); (case hnd => assumption); (case hz => simp -dsimp))
                                                            | (with_reducible refine dn_i follows_any (by kernel_rfl) ?_)
                                                            | (with_reducible exact done_eq rfl)
                                                            | (simp -dsimp))); (all_goals try with_reducible refine done_eq ?_)
    exact ⟨[], ⟨List.Pairwise.nil, by simp⟩, rfl⟩
  · refine acalls_ex [] Try.func129 (by kernel_rfl) rfl Try.ntmps129 Try.results129 (Nat.le_of_ble_eq_true (by kernel_rfl)) ?_; intro hok w0 S0
    (repeat' (first
                                                            | (with_reducible refine br_d (fun _ => ?_) (fun _ => ?_))
                                                            | (with_reducible refine br_i (fun _ => ?_) (fun _ => ?_))
                                                            | (with_reducible refine nd_v (length_a m1) (by first | rfl | (simp -dsimp [funcV]; done)) ?_)
                                                            | (with_reducible refine nw_v (length_a m1) rfl (by first | rfl | (simp -dsimp [funcV]; done)) (by first | rfl | (simp -dsimp [funcV]; done)) ?_)
                                                            | (with_reducible refine nd_v (length_a m2) (by first | rfl | (simp -dsimp [funcV]; done)) ?_)
                                                            | (with_reducible refine nw_v (length_a m2) rfl (by first | rfl | (simp -dsimp [funcV]; done)) (by first | rfl | (simp -dsimp [funcV]; done)) ?_)
                                                            | ((with_reducible apply nd_i [] (f := 110)); (case hc => simp -dsimp [funcV]; first | exact ⟨rfl, rfl⟩ | exact ⟨rfl, rfl, rfl⟩); (case hf => exact Try.func110); (case hA => simp -dsimp [funcV] <;> with_reducible rfl); (case hok => simp -dsimp [funcV]); (case hY => simp -dsimp [funcV] <;> with_reducible rfl); (case hO => simp -dsimp [funcV] <;> with_reducible rfl); (case hn => kernel_rfl); (case hb => rfl); (case hN => exact Try.ntmps110); (case hrs => exact Try.results110); (case hl => exact Nat.le_of_ble_eq_true (by kernel_rfl)); intro hok w0 S0)
                                                            | ((with_reducible apply nd_i [] (f := 195)); (case hc => simp -dsimp [funcV]; first | exact ⟨rfl, rfl⟩ | exact ⟨rfl, rfl, rfl⟩); (case hf => exact Try.func195); (case hA => simp -dsimp [funcV] <;> with_reducible rfl); (case hok => simp -dsimp [funcV]); (case hY => simp -dsimp [funcV] <;> with_reducible rfl); (case hO => simp -dsimp [funcV] <;> with_reducible rfl); (case hn => kernel_rfl); (case hb => rfl); (case hN => exact Try.ntmps195); (case hrs => exact Try.results195); (case hl => exact Nat.le_of_ble_eq_true (by kernel_rfl)); intro hok w0 S0)
                                                            | ((with_reducible apply nd_i [] (f := 197)); (case hc => simp -dsimp [funcV]; first | exact ⟨rfl, rfl⟩ | exact ⟨rfl, rfl, rfl⟩); (case hf => exact Try.func197); (case hA => simp -dsimp [funcV] <;> with_reducible rfl); (case hok => simp -dsimp [funcV]); (case hY => simp -dsimp [funcV] <;> with_reducible rfl); (case hO => simp -dsimp [funcV] <;> with_reducible rfl); (case hn => kernel_rfl); (case hb => rfl); (case hN => exact Try.ntmps197); (case hrs => exact Try.results197); (case hl => exact Nat.le_of_ble_eq_true (by kernel_rfl)); intro hok w0 S0)
                                                            | ((with_reducible apply nd_qx (ρ := [(1000000000, 3000000028), (1000000001, 3000000010), (1000000002, 3000000008), (1000000003, 3000000007), (1000000004, 3000000009), (1000000005, 3000000003)]) 7 (zipCmp_d c m1 m2 hnd1 hnd2 hl hne hc)); (case hc => simp -dsimp [funcV] <;> first | exact ⟨rfl, rfl, rfl⟩ | exact ⟨rfl, rfl⟩ | done); (case hx => simp -dsimp [funcV] <;> with_reducible rfl); (case ho => simp -dsimp [funcV]); (case hh => simp -dsimp [funcV]); (case hb => intro x hx; simp -dsimp [funcV]); intro _ _)
                                                            | ((with_reducible apply nd_next); (case hx => simp -dsimp [funcV]; first | done | with_reducible rfl); (case hid => simp -dsimp [funcV]; first | done | with_reducible rfl | exact ⟨rfl, rfl, rfl⟩ | exact ⟨rfl, rfl⟩); (case' h1 => intro _ _ _); (case' h0 => intro _))
                                                            | ((with_reducible apply nd_entry); (case hx => simp -dsimp [funcV]; first | done | with_reducible rfl); (case hid => simp -dsimp [funcV]; first | done | with_reducible rfl | exact ⟨rfl, rfl, rfl⟩ | exact ⟨rfl, rfl⟩))
                                                            | ((with_reducible apply nd_range); (case hx => simp -dsimp [funcV]; with_reducible rfl); (case hT => simp -dsimp [funcV]); (case hnd => assumption); (case hz => simp -dsimp [funcV]))
                                                            | (with_reducible refine dn_i follows_any (by kernel_rfl) ?_)
                                                            | (with_reducible exact done_eq rfl)
                                                            | (simp -dsimp [funcV]))); (all_goals try with_reducible refine done_eq ?_)
    all_goals first | (exfalso; apply hne; simp_all; done) | skip
    all_goals (rename_i x hx; exact ⟨x.1, hx, rfl⟩)
end Go.Smd
