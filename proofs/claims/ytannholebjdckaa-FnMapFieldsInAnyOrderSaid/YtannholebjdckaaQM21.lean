/- Part 21 of the proof: Vm. -/
import Derived.Test.YtannholebjdckaaQM20
set_option linter.unusedVariables false
section
set_option linter.unusedSimpArgs false
set_option maxRecDepth 100000
set_option maxHeartbeats 8000000
namespace Go.Smd
open Go.RowKit Go.Proofs
theorem plain_a (g : GV) : ACalls Try.prog 47 [gvA g] (fun r => r = .c (.d (.tr (treeOf g)))) := by
  refine ⟨⟨_, Try.func47, by kernel_rfl, rfl⟩, fun w S vs hS ha => ?_⟩
  cases ha with
  | cons h t =>
  cases t
  obtain ⟨cs, rfl, hg⟩ := gvA_iff.1 h
  refine (plain_c g cs w S hg).mono ?_
  rintro e w' ⟨v, rfl, hr, hE⟩
  exact ⟨_, _, rfl, rfl, (RepD.tr hr).mono fun b hb => .inr hb, hE⟩
theorem newVI_a (t : Tree) : ACalls Try.prog 46 [.c (.d (.tr t))] (fun r => r = .c (.d (dV t))) := by
  refine acalls_ex [] Try.func46 (by kernel_rfl) rfl Try.ntmps46 Try.results46 (Nat.le_of_ble_eq_true (by kernel_rfl)) ?_; intro hok w0 S0
  (repeat' (first
                                                            | (with_reducible refine br_d (fun _ => ?_) (fun _ => ?_))
                                                            | (with_reducible refine br_i (fun _ => ?_) (fun _ => ?_))
                                                            | ((with_reducible apply nd_i [] (f := 57)); (case hc => simp -dsimp; first | exact ⟨rfl, rfl⟩ | exact ⟨rfl, rfl, rfl⟩); (case hf => exact Try.func57); (case hA => simp -dsimp <;> with_reducible rfl); (case hok => simp -dsimp); (case hY => simp -dsimp <;> with_reducible rfl); (case hO => simp -dsimp <;> with_reducible rfl); (case hn => kernel_rfl); (case hb => rfl); (case hN => exact Try.ntmps57); (case hrs => exact Try.results57); (case hl => exact Nat.le_of_ble_eq_true (by kernel_rfl)); intro hok w0 S0)
                                                            | ((with_reducible apply nd_q (ρ := [(1000000000, 6004)]) 7 (reuse_p (.tr t) (.v .nilIface))); (case hc => simp -dsimp <;> first | exact ⟨rfl, rfl, rfl⟩ | exact ⟨rfl, rfl⟩ | done); (case hx => simp -dsimp <;> with_reducible rfl); (case ho => simp -dsimp); (case hh => simp -dsimp); (case hb => simp -dsimp))
                                                            | ((with_reducible apply nd_next); (case hx => simp -dsimp; first | done | with_reducible rfl); (case hid => simp -dsimp; first | done | with_reducible rfl | exact ⟨rfl, rfl, rfl⟩ | exact ⟨rfl, rfl⟩); (case' h1 => intro _ _ _); (case' h0 => intro _))
                                                            | ((with_reducible apply nd_entry); (case hx => simp -dsimp; first | done | with_reducible rfl); (case hid => simp -dsimp; first | done | with_reducible rfl | exact ⟨rfl, rfl, rfl⟩ | exact ⟨rfl, rfl⟩))
                                                            | ((with_reducible apply nd_range); (case hx => simp -dsimp; with_reducible rfl); (case hT => simp -dsimp); (case hnd => assumption); (case hz => simp -dsimp))
                                                            | (with_reducible refine dn_i follows_any (by kernel_rfl) ?_)
                                                            | (with_reducible exact done_eq rfl)
                                                            | (simp -dsimp))); (all_goals try with_reducible refine done_eq ?_)
theorem toValue_a (g : GV) : ACalls Try.prog 36 [gvA g] (fun r => r = .c (.d (dV (treeOf g)))) := by
  refine acalls_ex [] Try.func36 (by kernel_rfl) rfl Try.ntmps36 Try.results36 (Nat.le_of_ble_eq_true (by kernel_rfl)) ?_; intro hok w0 S0
  (repeat' (first
                                                            | (with_reducible refine br_d (fun _ => ?_) (fun _ => ?_))
                                                            | (with_reducible refine br_i (fun _ => ?_) (fun _ => ?_))
                                                            | (with_reducible refine nd_v (plain_a _) (by first | rfl | (simp -dsimp; done)) ?_)
                                                            | (with_reducible refine nw_v (plain_a _) rfl (by first | rfl | (simp -dsimp; done)) (by first | rfl | (simp -dsimp; done)) ?_)
                                                            | (with_reducible refine nd_v (newVI_a _) (by first | rfl | (simp -dsimp; done)) ?_)
                                                            | (with_reducible refine nw_v (newVI_a _) rfl (by first | rfl | (simp -dsimp; done)) (by first | rfl | (simp -dsimp; done)) ?_)
                                                            | ((with_reducible apply nd_next); (case hx => simp -dsimp; first | done | with_reducible rfl); (case hid => simp -dsimp; first | done | with_reducible rfl | exact ⟨rfl, rfl, rfl⟩ | exact ⟨rfl, rfl⟩); (case' h1 => intro _ _ _); (case' h0 => intro _))
                                                            | ((with_reducible apply nd_entry); (case hx => simp -dsimp; first | done | with_reducible rfl); (case hid => simp -dsimp; first | done | with_reducible rfl | exact ⟨rfl, rfl, rfl⟩ | exact ⟨rfl, rfl⟩))
                                                            | ((with_reducible apply nd_range); (case hx => simp -dsimp; with_reducible rfl); (case hT => simp -dsimp); (case hnd => assumption); (case hz => simp -dsimp))
                                                            | (with_reducible refine dn_i follows_any (by kernel_rfl) ?_)
                                                            | (with_reducible exact done_eq rfl)
                                                            | (simp -dsimp))); (all_goals try with_reducible refine done_eq ?_)
noncomputable def cmpV (x y : Tree) : Int := cmpF (dep x) x y
def eqV (x y : Tree) : Bool := eqF (dep x) x y
theorem vCompare_a (x y : Tree) (hx : Fits x) (hy : Fits y) : ACalls Try.prog 37 [.c (.d (dV x)), .c (.d (dV y))] (fun r => r = aV (.int .i64 (cmpV x y))) := by
  refine acalls_ex [] Try.func37 (by kernel_rfl) rfl Try.ntmps37 Try.results37 (Nat.le_of_ble_eq_true (by kernel_rfl)) ?_; intro hok w0 S0
  (repeat' (first
                                                            | (with_reducible refine br_d (fun _ => ?_) (fun _ => ?_))
                                                            | (with_reducible refine br_i (fun _ => ?_) (fun _ => ?_))
                                                            | (with_reducible refine nd_v (compare_a (dep x) x y (Nat.le_refl _) hx hy) (by first | rfl | (simp -dsimp; done)) ?_)
                                                            | (with_reducible refine nw_v (compare_a (dep x) x y (Nat.le_refl _) hx hy) rfl (by first | rfl | (simp -dsimp; done)) (by first | rfl | (simp -dsimp; done)) ?_)
                                                            | ((with_reducible apply nd_next); (case hx => simp -dsimp; first | done | with_reducible rfl); (case hid => simp -dsimp; first | done | with_reducible rfl | exact ⟨rfl, rfl, rfl⟩ | exact ⟨rfl, rfl⟩); (case' h1 => intro _ _ _); (case' h0 => intro _))
                                                            | ((with_reducible apply nd_entry); (case hx => simp -dsimp; first | done | with_reducible rfl); (case hid => simp -dsimp; first | done | with_reducible rfl | exact ⟨rfl, rfl, rfl⟩ | exact ⟨rfl, rfl⟩))
                                                            | ((with_reducible apply nd_range); (case hx => simp -dsimp; with_reducible rfl); (case hT => simp -dsimp); (case hnd => assumption); (case hz => simp -dsimp))
                                                            | (with_reducible refine dn_i follows_any (by kernel_rfl) ?_)
                                                            | (with_reducible exact done_eq rfl)
                                                            | (simp -dsimp))); (all_goals try with_reducible refine done_eq ?_)
theorem vEquals_a (x y : Tree) (hx : Fits x) (hy : Fits y) : ACalls Try.prog 35 [.c (.d (dV x)), .c (.d (dV y))] (fun r => r = aV (.bool (eqV x y))) := by
  refine acalls_ex [] Try.func35 (by kernel_rfl) rfl Try.ntmps35 Try.results35 (Nat.le_of_ble_eq_true (by kernel_rfl)) ?_; intro hok w0 S0
  (repeat' (first
                                                            | (with_reducible refine br_d (fun _ => ?_) (fun _ => ?_))
                                                            | (with_reducible refine br_i (fun _ => ?_) (fun _ => ?_))
                                                            | (with_reducible refine nd_v (equals_a (dep x) x y (Nat.le_refl _) hx hy) (by first | rfl | (simp -dsimp; done)) ?_)
                                                            | (with_reducible refine nw_v (equals_a (dep x) x y (Nat.le_refl _) hx hy) rfl (by first | rfl | (simp -dsimp; done)) (by first | rfl | (simp -dsimp; done)) ?_)
                                                            | ((with_reducible apply nd_next); (case hx => simp -dsimp; first | done | with_reducible rfl); (case hid => simp -dsimp; first | done | with_reducible rfl | exact ⟨rfl, rfl, rfl⟩ | exact ⟨rfl, rfl⟩); (case' h1 => intro _ _ _); (case' h0 => intro _))
                                                            | ((with_reducible apply nd_entry); (case hx => simp -dsimp; first | done | with_reducible rfl); (case hid => simp -dsimp; first | done | with_reducible rfl | exact ⟨rfl, rfl, rfl⟩ | exact ⟨rfl, rfl⟩))
                                                            | ((with_reducible apply nd_range); (case hx => simp -dsimp; with_reducible rfl); (case hT => simp -dsimp); (case hnd => assumption); (case hz => simp -dsimp))
                                                            | (with_reducible refine dn_i follows_any (by kernel_rfl) ?_)
                                                            | (with_reducible exact done_eq rfl)
                                                            | (simp -dsimp))); (all_goals try with_reducible refine done_eq ?_)
theorem gv_fits {g : GV} (h : okA Try.prog (gvA g)) : Fits (treeOf g) := by
  obtain ⟨w, S, v, hr⟩ := h
  obtain ⟨cs, _, hg⟩ := gvA_iff.1 hr
  exact tree_fits hg
theorem compareValues_a (a b : GV) : ACalls Try.prog 19 [gvA a, gvA b] (fun r => r = aV (.int .i64 (cmpV (treeOf a) (treeOf b)))) := by
  refine acalls_ex [(1, ([3, 4], [(0, []), (2, []), (1, []), (3, []), (4, []), (5, [])]))] Try.func19 (by kernel_rfl) rfl Try.ntmps19 Try.results19 (Nat.le_of_ble_eq_true (by kernel_rfl)) ?_; intro hok w0 S0
  have ha := gv_fits (hok (gvA a) (by simp))
  have hb := gv_fits (hok (gvA b) (by simp))
  clear hok
  (repeat' (first
                                                            | (with_reducible refine br_d (fun _ => ?_) (fun _ => ?_))
                                                            | (with_reducible refine br_i (fun _ => ?_) (fun _ => ?_))
                                                            | (with_reducible refine nd_v (toValue_a _) (by first | rfl | (simp -dsimp; done)) ?_)
                                                            | (with_reducible refine nw_v (toValue_a _) rfl (by first | rfl | (simp -dsimp; done)) (by first | rfl | (simp -dsimp; done)) ?_)
                                                            | (with_reducible refine nd_v (vCompare_a _ _ ha hb) (by first | rfl | (simp -dsimp; done)) ?_)
                                                            | (with_reducible refine nw_v (vCompare_a _ _ ha hb) rfl (by first | rfl | (simp -dsimp; done)) (by first | rfl | (simp -dsimp; done)) ?_)
                                                            | ((with_reducible apply nd_next); (case hx => simp -dsimp; first | done | with_reducible rfl); (case hid => simp -dsimp; first | done | with_reducible rfl | exact ⟨rfl, rfl, rfl⟩ | exact ⟨rfl, rfl⟩); (case' h1 => intro _ _ _); (case' h0 => intro _))
                                                            | ((with_reducible apply nd_entry); (case hx => simp -dsimp; first | done | with_reducible rfl); (case hid => simp -dsimp; first | done | with_reducible rfl | exact ⟨rfl, rfl, rfl⟩ | exact ⟨rfl, rfl⟩))
                                                            | ((with_reducible apply nd_range); (case hx => simp -dsimp; with_reducible rfl); (case hT => simp -dsimp); (case hnd => assumption); (case hz => simp -dsimp))
                                                            | (with_reducible refine dn_i follows_any (by kernel_rfl) ?_)
                                                            | (with_reducible exact done_eq rfl)
                                                            | (simp -dsimp))); (all_goals try with_reducible refine done_eq ?_)
theorem equalValues_a (a b : GV) : ACalls Try.prog 18 [gvA a, gvA b] (fun r => r = aV (.bool (eqV (treeOf a) (treeOf b)))) := by
  refine acalls_ex [(1, ([3, 4], [(0, []), (2, []), (1, []), (3, []), (4, []), (5, [])]))] Try.func18 (by kernel_rfl) rfl Try.ntmps18 Try.results18 (Nat.le_of_ble_eq_true (by kernel_rfl)) ?_; intro hok w0 S0
  have ha := gv_fits (hok (gvA a) (by simp))
  have hb := gv_fits (hok (gvA b) (by simp))
  clear hok
  (repeat' (first
                                                            | (with_reducible refine br_d (fun _ => ?_) (fun _ => ?_))
                                                            | (with_reducible refine br_i (fun _ => ?_) (fun _ => ?_))
                                                            | (with_reducible refine nd_v (toValue_a _) (by first | rfl | (simp -dsimp; done)) ?_)
                                                            | (with_reducible refine nw_v (toValue_a _) rfl (by first | rfl | (simp -dsimp; done)) (by first | rfl | (simp -dsimp; done)) ?_)
                                                            | (with_reducible refine nd_v (vEquals_a _ _ ha hb) (by first | rfl | (simp -dsimp; done)) ?_)
                                                            | (with_reducible refine nw_v (vEquals_a _ _ ha hb) rfl (by first | rfl | (simp -dsimp; done)) (by first | rfl | (simp -dsimp; done)) ?_)
                                                            | ((with_reducible apply nd_next); (case hx => simp -dsimp; first | done | with_reducible rfl); (case hid => simp -dsimp; first | done | with_reducible rfl | exact ⟨rfl, rfl, rfl⟩ | exact ⟨rfl, rfl⟩); (case' h1 => intro _ _ _); (case' h0 => intro _))
                                                            | ((with_reducible apply nd_entry); (case hx => simp -dsimp; first | done | with_reducible rfl); (case hid => simp -dsimp; first | done | with_reducible rfl | exact ⟨rfl, rfl, rfl⟩ | exact ⟨rfl, rfl⟩))
                                                            | ((with_reducible apply nd_range); (case hx => simp -dsimp; with_reducible rfl); (case hT => simp -dsimp); (case hnd => assumption); (case hz => simp -dsimp))
                                                            | (with_reducible refine dn_i follows_any (by kernel_rfl) ?_)
                                                            | (with_reducible exact done_eq rfl)
                                                            | (simp -dsimp))); (all_goals try with_reducible refine done_eq ?_)
theorem ordL_of : ∀ {l : List Tree}, (∀ x ∈ l, ordT x) → ordL l
  | [], _ => trivial
  | x :: l, h => ⟨h x (List.mem_cons_self ..), ordL_of fun y hy => h y (List.mem_cons_of_mem _ hy)⟩
theorem ordM_of : ∀ {l : List (ByteArray × Tree)}, (∀ x ∈ l, ordT x.2) → ordM l
  | [], _ => trivial
  | x :: l, h => ⟨h x (List.mem_cons_self ..), ordM_of fun y hy => h y (List.mem_cons_of_mem _ hy)⟩
theorem mapOf_all {Q : Tree → Prop} : ∀ (ks : List ByteArray) (ts : List Tree) (m : Fields), (∀ p ∈ m, Q p.2) → (∀ t ∈ ts, Q t) → ∀ p ∈ mapOf ks ts m, Q p.2
  | [], ts, m, h2, _ => by cases ts <;> simpa [mapOf] using h2
  | k :: ks, [], m, h2, _ => by simpa [mapOf] using h2
  | k :: ks, t :: ts, m, h2, h3 => by
    simp only [mapOf]
    exact mapOf_all ks ts (ins k t m) (fun p hp => by
      rcases ins_in hp with rfl | hp
      · exact h3 t (List.mem_cons_self ..)
      · exact h2 p hp) fun t ht => h3 t (List.mem_cons_of_mem _ ht)
theorem ord_of (g : GV) : orderly g = true → ordT (treeOf g) := by
  induction g using GV.ind with
  | h kind n f s keys l IH =>
  intro h
  have hl : kind = 5 ∨ kind = 6 → ∀ t ∈ treesOf l, ordT t := fun hk t ht => by
    rw [treesOf_eq] at ht
    obtain ⟨x, hx, rfl⟩ := List.mem_map.1 ht
    refine IH x hx ?_
    have : orderlys l = true := by
      unfold orderly at h
      rcases hk with rfl | rfl <;> simpa using h
    rw [orderlys_eq] at this
    exact List.all_eq_true.1 this x hx
  simp only [treeOf]
  split
  · trivial
  · split
    · trivial
    · split
      · next h3 =>
        subst h3
        simpa [orderly, ordT, ford] using h
      · split
        · trivial
        · split
          · next h5 => exact ordL_of (hl (.inl h5))
          · split
            · next h6 => exact ordM_of (mapOf_all keys _ [] (by simp) (hl (.inr h6)))
            · trivial
end Go.Smd
end
