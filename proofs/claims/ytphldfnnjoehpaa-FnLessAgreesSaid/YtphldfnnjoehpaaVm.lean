/- The program's thin functions over values, by value. -/
import Derived.Test.YtphldfnnjoehpaaVl
import Derived.Test.YtphldfnnjoehpaaAm
import Derived.Test.YtphldfnnjoehpaaAt1
import Derived.Test.YtphldfnnjoehpaaZz
set_option linter.unusedSimpArgs false
set_option maxRecDepth 100000
set_option maxHeartbeats 8000000
namespace Go.Smd
open Go.RowKit Go.Proofs

theorem plain_a (g : GV) : ACalls Try.prog 96 [gvA g] (fun r => r = .c (.d (.tr (treeOf g)))) := by
  refine ⟨⟨_, Try.func96, by kernel_rfl, rfl⟩, fun w S vs hS ha => ?_⟩
  cases ha with
  | cons h t =>
  cases t
  obtain ⟨cs, rfl, hg⟩ := gvA_iff.1 h
  refine (plain_c g cs w S hg).mono ?_
  rintro e w' ⟨v, rfl, hr, hE⟩
  exact ⟨_, _, rfl, rfl, (RepD.tr hr).mono fun b hb => .inr hb, hE⟩
theorem newVI_a (t : Tree) : ACalls Try.prog 89 [.c (.d (.tr t))] (fun r => r = .c (.d (dV t))) := by
  refine acalls_ex [] Try.func89 (by kernel_rfl) rfl Try.ntmps89 Try.results89 (Nat.le_of_ble_eq_true (by kernel_rfl)) ?_; intro hok w0 S0
  (repeat' (first
                                                            | (with_reducible refine br_d (fun _ => ?_) (fun _ => ?_))
                                                            | (with_reducible refine br_i (fun _ => ?_) (fun _ => ?_))
                                                            | ((with_reducible apply nd_i [] (f := 111)); (case hc => simp -dsimp; first | exact ⟨rfl, rfl⟩ | exact ⟨rfl, rfl, rfl⟩); (case hf => exact Try.func111); (case hA => simp -dsimp <;> with_reducible rfl); (case hok => simp -dsimp); (case hY => simp -dsimp <;> with_reducible rfl); (case hO => simp -dsimp <;> with_reducible rfl); (case hn => kernel_rfl); (case hb => rfl); (case hN => exact Try.ntmps111); (case hrs => exact Try.results111); (case hl => exact Nat.le_of_ble_eq_true (by kernel_rfl)); intro hok w0 S0)
                                                            | ((with_reducible apply nd_q (ρ := [(1000000000, 6004)]) 7 (reuse_p (.tr t) (.v .nilIface))); (case hc => simp -dsimp <;> first | exact ⟨rfl, rfl, rfl⟩ | exact ⟨rfl, rfl⟩ | done); (case hx => simp -dsimp <;> with_reducible rfl); (case ho => simp -dsimp); (case hh => simp -dsimp); (case hb => simp -dsimp))
                                                            | ((with_reducible apply nd_next); (case hx => simp -dsimp; first | done | with_reducible rfl); (case hid => simp -dsimp; first | done | with_reducible rfl | exact ⟨rfl, rfl, rfl⟩ | exact ⟨rfl, rfl⟩); (case' h1 => intro _ _ _); (case' h0 => intro _))
                                                            | ((with_reducible apply nd_entry); (case hx => simp -dsimp; first | done | with_reducible rfl); (case hid => simp -dsimp; first | done | with_reducible rfl | exact ⟨rfl, rfl, rfl⟩ | exact ⟨rfl, rfl⟩))
                                                            | ((with_reducible apply nd_range); (case hx => simp -dsimp; with_reducible rfl); (case hT => simp -dsimp); (case hnd => assumption); (case hz => simp -dsimp))
                                                            | (with_reducible refine dn_i follows_any (by kernel_rfl) ?_)
                                                            | (with_reducible exact done_eq rfl)
                                                            | (simp -dsimp))); (all_goals try with_reducible refine done_eq ?_)
theorem toValue_a (g : GV) : ACalls Try.prog 57 [gvA g] (fun r => r = .c (.d (dV (treeOf g)))) := by
  refine acalls_ex [] Try.func57 (by kernel_rfl) rfl Try.ntmps57 Try.results57 (Nat.le_of_ble_eq_true (by kernel_rfl)) ?_; intro hok w0 S0
  (repeat' (first
                                                            | (with_reducible refine br_d (fun _ => ?_) (fun _ => ?_))
                                                            | (with_reducible refine br_i (fun _ => ?_) (fun _ => ?_))
                                                            | (with_reducible refine nd_v (plain_a _) (by first | rfl | (simp -dsimp; done)) ?_)
                                                            | (with_reducible refine nw_v (plain_a _) rfl (by first | rfl | (simp -dsimp; done)) (by first | rfl | (simp -dsimp; done)) ?_)
                                                            | (with_reducible refine nd_v (newVI_a _) (by first | rfl | (simp -dsimp; done)) ?_)
                                                            | (with_reducible refine nw_v (newVI_a _) rfl (by first | rfl | (simp -dsimp; done)) (by first | rfl | (simp -dsimp; done)) ?_)
                                                            | ((with_reducible apply nd_next); (case hx => simp -dsimp; first | done | with_reducible rfl); (case hid => simp -dsimp; first | done | with_reducible rfl | exact ⟨rfl, rfl, rfl⟩ | exact ⟨rfl, rfl⟩); (case' h1 => intro _ _ _); (case' h0 => intro _))
                                                            | ((with_reducible apply nd_entry); (case hx => simp -dsimp; first | done | with_reducible rfl); (case hid => simp -dsimp; first | done | with_reducible rfl | exact ⟨rfl, rfl, rfl⟩ | exact ⟨rfl, rfl⟩))
                                                            | ((with_reducible apply nd_range); (case hx => simp -dsimp; with_reducible rfl); (case hT => simp -dsimp); (case hnd => assumption); (case hz => simp -dsimp))
                                                            | (with_reducible refine dn_i follows_any (by kernel_rfl) ?_)
                                                            | (with_reducible exact done_eq rfl)
                                                            | (simp -dsimp))); (all_goals try with_reducible refine done_eq ?_)
noncomputable def cmpV (x y : Tree) : Int := cmpF (dep x) x y
def eqV (x y : Tree) : Bool := eqF (dep x) x y
theorem vCompare_a (x y : Tree) (hx : Fits x) (hy : Fits y) : ACalls Try.prog 92 [.c (.d (dV x)), .c (.d (dV y))] (fun r => r = aV (.int .i64 (cmpV x y))) := by
  refine acalls_ex [] Try.func92 (by kernel_rfl) rfl Try.ntmps92 Try.results92 (Nat.le_of_ble_eq_true (by kernel_rfl)) ?_; intro hok w0 S0
  (repeat' (first
                                                            | (with_reducible refine br_d (fun _ => ?_) (fun _ => ?_))
                                                            | (with_reducible refine br_i (fun _ => ?_) (fun _ => ?_))
                                                            | (with_reducible refine nd_v (compare_a (dep x) x y (Nat.le_refl _) hx hy) (by first | rfl | (simp -dsimp; done)) ?_)
                                                            | (with_reducible refine nw_v (compare_a (dep x) x y (Nat.le_refl _) hx hy) rfl (by first | rfl | (simp -dsimp; done)) (by first | rfl | (simp -dsimp; done)) ?_)
                                                            | ((with_reducible apply nd_next); (case hx => simp -dsimp; first | done | with_reducible rfl); (case hid => simp -dsimp; first | done | with_reducible rfl | exact ⟨rfl, rfl, rfl⟩ | exact ⟨rfl, rfl⟩); (case' h1 => intro _ _ _); (case' h0 => intro _))
                                                            | ((with_reducible apply nd_entry); (case hx => simp -dsimp; first | done | with_reducible rfl); (case hid => simp -dsimp; first | done | with_reducible rfl | exact ⟨rfl, rfl, rfl⟩ | exact ⟨rfl, rfl⟩))
                                                            | ((with_reducible apply nd_range); (case hx => simp -dsimp; with_reducible rfl); (case hT => simp -dsimp); (case hnd => assumption); (case hz => simp -dsimp))
                                                            | (with_reducible refine dn_i follows_any (by kernel_rfl) ?_)
                                                            | (with_reducible exact done_eq rfl)
                                                            | (simp -dsimp))); (all_goals try with_reducible refine done_eq ?_)
theorem vEquals_a (x y : Tree) (hx : Fits x) (hy : Fits y) : ACalls Try.prog 93 [.c (.d (dV x)), .c (.d (dV y))] (fun r => r = aV (.bool (eqV x y))) := by
  refine acalls_ex [] Try.func93 (by kernel_rfl) rfl Try.ntmps93 Try.results93 (Nat.le_of_ble_eq_true (by kernel_rfl)) ?_; intro hok w0 S0
  (repeat' (first
                                                            | (with_reducible refine br_d (fun _ => ?_) (fun _ => ?_))
                                                            | (with_reducible refine br_i (fun _ => ?_) (fun _ => ?_))
                                                            | (with_reducible refine nd_v (equals_a (dep x) x y (Nat.le_refl _) hx hy) (by first | rfl | (simp -dsimp; done)) ?_)
                                                            | (with_reducible refine nw_v (equals_a (dep x) x y (Nat.le_refl _) hx hy) rfl (by first | rfl | (simp -dsimp; done)) (by first | rfl | (simp -dsimp; done)) ?_)
                                                            | ((with_reducible apply nd_next); (case hx => simp -dsimp; first | done | with_reducible rfl); (case hid => simp -dsimp; first | done | with_reducible rfl | exact ⟨rfl, rfl, rfl⟩ | exact ⟨rfl, rfl⟩); (case' h1 => intro _ _ _); (case' h0 => intro _))
                                                            | ((with_reducible apply nd_entry); (case hx => simp -dsimp; first | done | with_reducible rfl); (case hid => simp -dsimp; first | done | with_reducible rfl | exact ⟨rfl, rfl, rfl⟩ | exact ⟨rfl, rfl⟩))
                                                            | ((with_reducible apply nd_range); (case hx => simp -dsimp; with_reducible rfl); (case hT => simp -dsimp); (case hnd => assumption); (case hz => simp -dsimp))
                                                            | (with_reducible refine dn_i follows_any (by kernel_rfl) ?_)
                                                            | (with_reducible exact done_eq rfl)
                                                            | (simp -dsimp))); (all_goals try with_reducible refine done_eq ?_)
theorem vLess_a (x y : Tree) (hx : Fits x) (hy : Fits y) : ACalls Try.prog 94 [.c (.d (dV x)), .c (.d (dV y))] (fun r => r = aV (.bool (decide (cmpV x y = -1)))) := by
  refine acalls_ex [] Try.func94 (by kernel_rfl) rfl Try.ntmps94 Try.results94 (Nat.le_of_ble_eq_true (by kernel_rfl)) ?_; intro hok w0 S0
  (repeat' (first
                                                            | (with_reducible refine br_d (fun _ => ?_) (fun _ => ?_))
                                                            | (with_reducible refine br_i (fun _ => ?_) (fun _ => ?_))
                                                            | (with_reducible refine nd_v (vCompare_a x y hx hy) (by first | rfl | (simp -dsimp; done)) ?_)
                                                            | (with_reducible refine nw_v (vCompare_a x y hx hy) rfl (by first | rfl | (simp -dsimp; done)) (by first | rfl | (simp -dsimp; done)) ?_)
                                                            | ((with_reducible apply nd_next); (case hx => simp -dsimp; first | done | with_reducible rfl); (case hid => simp -dsimp; first | done | with_reducible rfl | exact ⟨rfl, rfl, rfl⟩ | exact ⟨rfl, rfl⟩); (case' h1 => intro _ _ _); (case' h0 => intro _))
                                                            | ((with_reducible apply nd_entry); (case hx => simp -dsimp; first | done | with_reducible rfl); (case hid => simp -dsimp; first | done | with_reducible rfl | exact ⟨rfl, rfl, rfl⟩ | exact ⟨rfl, rfl⟩))
                                                            | ((with_reducible apply nd_range); (case hx => simp -dsimp; with_reducible rfl); (case hT => simp -dsimp); (case hnd => assumption); (case hz => simp -dsimp))
                                                            | (with_reducible refine dn_i follows_any (by kernel_rfl) ?_)
                                                            | (with_reducible exact done_eq rfl)
                                                            | (simp -dsimp))); (all_goals try with_reducible refine done_eq ?_)
theorem gv_fits {g : GV} (h : okA Try.prog (gvA g)) : Fits (treeOf g) := by
  obtain ⟨w, S, v, hr⟩ := h
  obtain ⟨cs, _, hg⟩ := gvA_iff.1 hr
  exact tree_fits hg
theorem compareValues_a (a b : GV) : ACalls Try.prog 50 [gvA a, gvA b] (fun r => r = aV (.int .i64 (cmpV (treeOf a) (treeOf b)))) := by
  refine acalls_ex [(1, ([3, 4], [(0, []), (2, []), (1, []), (3, []), (4, []), (5, [])]))] Try.func50 (by kernel_rfl) rfl Try.ntmps50 Try.results50 (Nat.le_of_ble_eq_true (by kernel_rfl)) ?_; intro hok w0 S0
  have ha := gv_fits (hok (gvA a) (by simp))
  have hb := gv_fits (hok (gvA b) (by simp))
  clear hok
  (repeat' (first
                                                            | (with_reducible refine br_d (fun _ => ?_) (fun _ => ?_))
                                                            | (with_reducible refine br_i (fun _ => ?_) (fun _ => ?_))
                                                            | (with_reducible refine nd_v (toValue_a _) (by first | rfl | (simp -dsimp; done)) ?_)
                                                            | (with_reducible refine nw_v (toValue_a _) rfl (by first | rfl | (simp -dsimp; done)) (by first | rfl | (simp -dsimp; done)) ?_)
                                                            | (with_reducible refine nd_v (vCompare_a _ _ ha hb) (by first | rfl | (simp -dsimp; done)) ?_)
                                                            | (with_reducible refine nw_v (vCompare_a _ _ ha hb) rfl (by first | rfl | (simp -dsimp; done)) (by first | rfl | (simp -dsimp; done)) ?_)
                                                            | ((with_reducible apply nd_next); (case hx => simp -dsimp; first | done | with_reducible rfl); (case hid => simp -dsimp; first | done | with_reducible rfl | exact ⟨rfl, rfl, rfl⟩ | exact ⟨rfl, rfl⟩); (case' h1 => intro _ _ _); (case' h0 => intro _))
                                                            | ((with_reducible apply nd_entry); (case hx => simp -dsimp; first | done | with_reducible rfl); (case hid => simp -dsimp; first | done | with_reducible rfl | exact ⟨rfl, rfl, rfl⟩ | exact ⟨rfl, rfl⟩))
                                                            | ((with_reducible apply nd_range); (case hx => simp -dsimp; with_reducible rfl); (case hT => simp -dsimp); (case hnd => assumption); (case hz => simp -dsimp))
                                                            | (with_reducible refine dn_i follows_any (by kernel_rfl) ?_)
                                                            | (with_reducible exact done_eq rfl)
                                                            | (simp -dsimp))); (all_goals try with_reducible refine done_eq ?_)
theorem equalValues_a (a b : GV) : ACalls Try.prog 51 [gvA a, gvA b] (fun r => r = aV (.bool (eqV (treeOf a) (treeOf b)))) := by
  refine acalls_ex [(1, ([3, 4], [(0, []), (2, []), (1, []), (3, []), (4, []), (5, [])]))] Try.func51 (by kernel_rfl) rfl Try.ntmps51 Try.results51 (Nat.le_of_ble_eq_true (by kernel_rfl)) ?_; intro hok w0 S0
  have ha := gv_fits (hok (gvA a) (by simp))
  have hb := gv_fits (hok (gvA b) (by simp))
  clear hok
  (repeat' (first
                                                            | (with_reducible refine br_d (fun _ => ?_) (fun _ => ?_))
                                                            | (with_reducible refine br_i (fun _ => ?_) (fun _ => ?_))
                                                            | (with_reducible refine nd_v (toValue_a _) (by first | rfl | (simp -dsimp; done)) ?_)
                                                            | (with_reducible refine nw_v (toValue_a _) rfl (by first | rfl | (simp -dsimp; done)) (by first | rfl | (simp -dsimp; done)) ?_)
                                                            | (with_reducible refine nd_v (vEquals_a _ _ ha hb) (by first | rfl | (simp -dsimp; done)) ?_)
                                                            | (with_reducible refine nw_v (vEquals_a _ _ ha hb) rfl (by first | rfl | (simp -dsimp; done)) (by first | rfl | (simp -dsimp; done)) ?_)
                                                            | ((with_reducible apply nd_next); (case hx => simp -dsimp; first | done | with_reducible rfl); (case hid => simp -dsimp; first | done | with_reducible rfl | exact ⟨rfl, rfl, rfl⟩ | exact ⟨rfl, rfl⟩); (case' h1 => intro _ _ _); (case' h0 => intro _))
                                                            | ((with_reducible apply nd_entry); (case hx => simp -dsimp; first | done | with_reducible rfl); (case hid => simp -dsimp; first | done | with_reducible rfl | exact ⟨rfl, rfl, rfl⟩ | exact ⟨rfl, rfl⟩))
                                                            | ((with_reducible apply nd_range); (case hx => simp -dsimp; with_reducible rfl); (case hT => simp -dsimp); (case hnd => assumption); (case hz => simp -dsimp))
                                                            | (with_reducible refine dn_i follows_any (by kernel_rfl) ?_)
                                                            | (with_reducible exact done_eq rfl)
                                                            | (simp -dsimp))); (all_goals try with_reducible refine done_eq ?_)
theorem lessValues_a (a b : GV) : ACalls Try.prog 53 [gvA a, gvA b] (fun r => r = aV (.bool (decide (cmpV (treeOf a) (treeOf b) = -1)))) := by
  refine acalls_ex [(1, ([3, 4], [(0, []), (2, []), (1, []), (3, []), (4, []), (5, [])]))] Try.func53 (by kernel_rfl) rfl Try.ntmps53 Try.results53 (Nat.le_of_ble_eq_true (by kernel_rfl)) ?_; intro hok w0 S0
  have ha := gv_fits (hok (gvA a) (by simp))
  have hb := gv_fits (hok (gvA b) (by simp))
  clear hok
  (repeat' (first
                                                            | (with_reducible refine br_d (fun _ => ?_) (fun _ => ?_))
                                                            | (with_reducible refine br_i (fun _ => ?_) (fun _ => ?_))
                                                            | (with_reducible refine nd_v (toValue_a _) (by first | rfl | (simp -dsimp; done)) ?_)
                                                            | (with_reducible refine nw_v (toValue_a _) rfl (by first | rfl | (simp -dsimp; done)) (by first | rfl | (simp -dsimp; done)) ?_)
                                                            | (with_reducible refine nd_v (vLess_a _ _ ha hb) (by first | rfl | (simp -dsimp; done)) ?_)
                                                            | (with_reducible refine nw_v (vLess_a _ _ ha hb) rfl (by first | rfl | (simp -dsimp; done)) (by first | rfl | (simp -dsimp; done)) ?_)
                                                            | ((with_reducible apply nd_next); (case hx => simp -dsimp; first | done | with_reducible rfl); (case hid => simp -dsimp; first | done | with_reducible rfl | exact ⟨rfl, rfl, rfl⟩ | exact ⟨rfl, rfl⟩); (case' h1 => intro _ _ _); (case' h0 => intro _))
                                                            | ((with_reducible apply nd_entry); (case hx => simp -dsimp; first | done | with_reducible rfl); (case hid => simp -dsimp; first | done | with_reducible rfl | exact ⟨rfl, rfl, rfl⟩ | exact ⟨rfl, rfl⟩))
                                                            | ((with_reducible apply nd_range); (case hx => simp -dsimp; with_reducible rfl); (case hT => simp -dsimp); (case hnd => assumption); (case hz => simp -dsimp))
                                                            | (with_reducible refine dn_i follows_any (by kernel_rfl) ?_)
                                                            | (with_reducible exact done_eq rfl)
                                                            | (simp -dsimp))); (all_goals try with_reducible refine done_eq ?_)
theorem ordL_of : ∀ {l : List Tree}, (∀ x ∈ l, ordT x) → ordL l
  | [], _ => trivial
  | x :: l, h => ⟨h x (List.mem_cons_self ..), ordL_of fun y hy => h y (List.mem_cons_of_mem _ hy)⟩
theorem ordM_of : ∀ {l : List (ByteArray × Tree)}, (∀ x ∈ l, ordT x.2) → ordM l
  | [], _ => trivial
  | x :: l, h => ⟨h x (List.mem_cons_self ..), ordM_of fun y hy => h y (List.mem_cons_of_mem _ hy)⟩
theorem mapOf_all {Q : Tree → Prop} : ∀ (ks : List ByteArray) (ts : List Tree) (m : Fields), (∀ p ∈ m, Q p.2) → (∀ t ∈ ts, Q t) → ∀ p ∈ mapOf ks ts m, Q p.2
  | [], ts, m, h2, _ => by cases ts <;> simpa [mapOf] using h2
  | k :: ks, [], m, h2, _ => by simpa [mapOf] using h2
  | k :: ks, t :: ts, m, h2, h3 => by
    simp only [mapOf]
    exact mapOf_all ks ts (ins k t m) (fun p hp => by
      rcases ins_in hp with rfl | hp
      · exact h3 t (List.mem_cons_self ..)
      · exact h2 p hp) fun t ht => h3 t (List.mem_cons_of_mem _ ht)
theorem ord_of (g : GV) : orderly g = true → ordT (treeOf g) := by
  induction g using GV.ind with
  | h kind n f s keys l IH =>
  intro h
  have hl : kind = 5 ∨ kind = 6 → ∀ t ∈ treesOf l, ordT t := fun hk t ht => by
    rw [treesOf_eq] at ht
    obtain ⟨x, hx, rfl⟩ := List.mem_map.1 ht
    refine IH x hx ?_
    have : orderlys l = true := by
      unfold orderly at h
      rcases hk with rfl | rfl <;> simpa using h
    rw [orderlys_eq] at this
    exact List.all_eq_true.1 this x hx
  simp only [treeOf]
  split
  · trivial
  · split
    · trivial
    · split
      · next h3 =>
        subst h3
        simpa [orderly, ordT, ford] using h
      · split
        · trivial
        · split
          · next h5 => exact ordL_of (hl (.inl h5))
          · split
            · next h6 => exact ordM_of (mapOf_all keys _ [] (by simp) (hl (.inr h6)))
            · trivial
theorem lessAgrees_a (a b : GV) : ACalls Try.prog 13 [gvA a, gvA b] (fun r => r = aV (.bool true)) := by
  refine acalls_ex [] Try.func13 (by kernel_rfl) rfl Try.ntmps13 Try.results13 (Nat.le_of_ble_eq_true (by kernel_rfl)) ?_; intro hok w0 S0
  have ha := gv_fits (hok (gvA a) (by simp))
  have hb := gv_fits (hok (gvA b) (by simp))
  clear hok
  by_cases oa : orderly a = true
  · by_cases ob : orderly b = true
    · have h1 := cmp_eq _ _ _ (Nat.le_refl _) ha hb (ord_of a oa) (ord_of b ob)
      have h2 : eqV (treeOf a) (treeOf a) = true := eq_self_t _ _ (Nat.le_refl _) ha (ord_of a oa)
      have h3 : eqV (treeOf a) (treeOf b) = decide (cmpV (treeOf a) (treeOf b) = 0) := by
        rw [Bool.eq_iff_iff, decide_eq_true_eq]; exact h1.symm
      (repeat' (first
                                                            | (with_reducible refine br_d (fun _ => ?_) (fun _ => ?_))
                                                            | (with_reducible refine br_i (fun _ => ?_) (fun _ => ?_))
                                                            | (with_reducible refine nd_v (zzFits5_a _) (by first | rfl | (simp -dsimp [oa, ob, h2, h3]; done)) ?_)
                                                            | (with_reducible refine nw_v (zzFits5_a _) rfl (by first | rfl | (simp -dsimp [oa, ob, h2, h3]; done)) (by first | rfl | (simp -dsimp [oa, ob, h2, h3]; done)) ?_)
                                                            | (with_reducible refine nd_v (orderly_a _) (by first | rfl | (simp -dsimp [oa, ob, h2, h3]; done)) ?_)
                                                            | (with_reducible refine nw_v (orderly_a _) rfl (by first | rfl | (simp -dsimp [oa, ob, h2, h3]; done)) (by first | rfl | (simp -dsimp [oa, ob, h2, h3]; done)) ?_)
                                                            | (with_reducible refine nd_v (compareValues_a _ _) (by first | rfl | (simp -dsimp [oa, ob, h2, h3]; done)) ?_)
                                                            | (with_reducible refine nw_v (compareValues_a _ _) rfl (by first | rfl | (simp -dsimp [oa, ob, h2, h3]; done)) (by first | rfl | (simp -dsimp [oa, ob, h2, h3]; done)) ?_)
                                                            | (with_reducible refine nd_v (lessValues_a _ _) (by first | rfl | (simp -dsimp [oa, ob, h2, h3]; done)) ?_)
                                                            | (with_reducible refine nw_v (lessValues_a _ _) rfl (by first | rfl | (simp -dsimp [oa, ob, h2, h3]; done)) (by first | rfl | (simp -dsimp [oa, ob, h2, h3]; done)) ?_)
                                                            | (with_reducible refine nd_v (equalValues_a _ _) (by first | rfl | (simp -dsimp [oa, ob, h2, h3]; done)) ?_)
                                                            | (with_reducible refine nw_v (equalValues_a _ _) rfl (by first | rfl | (simp -dsimp [oa, ob, h2, h3]; done)) (by first | rfl | (simp -dsimp [oa, ob, h2, h3]; done)) ?_)
                                                            | ((with_reducible apply nd_next); (case hx => simp -dsimp [oa, ob, h2, h3]; first | done | with_reducible rfl); (case hid => simp -dsimp [oa, ob, h2, h3]; first | done | with_reducible rfl | exact ⟨rfl, rfl, rfl⟩ | exact ⟨rfl, rfl⟩); (case' h1 => intro _ _ _); (case' h0 => intro _))
                                                            | ((with_reducible apply nd_entry); (case hx => simp -dsimp [oa, ob, h2, h3]; first | done | with_reducible rfl); (case hid => simp -dsimp [oa, ob, h2, h3]; first | done | with_reducible rfl | exact ⟨rfl, rfl, rfl⟩ | exact ⟨rfl, rfl⟩))
                                                            | ((with_reducible apply nd_range); (case hx => simp -dsimp [oa, ob, h2, h3]; with_reducible rfl); (case hT => simp -dsimp [oa, ob, h2, h3]); (case hnd => assumption); (case hz => simp -dsimp [oa, ob, h2, h3]))
                                                            | (with_reducible refine dn_i follows_any (by kernel_rfl) ?_)
                                                            | (with_reducible exact done_eq rfl)
                                                            | (simp -dsimp [oa, ob, h2, h3]))); (all_goals try with_reducible refine done_eq ?_)
    · have ob : orderly b = false := by simpa using ob
      (repeat' (first
                                                            | (with_reducible refine br_d (fun _ => ?_) (fun _ => ?_))
                                                            | (with_reducible refine br_i (fun _ => ?_) (fun _ => ?_))
                                                            | (with_reducible refine nd_v (zzFits5_a _) (by first | rfl | (simp -dsimp [oa, ob]; done)) ?_)
                                                            | (with_reducible refine nw_v (zzFits5_a _) rfl (by first | rfl | (simp -dsimp [oa, ob]; done)) (by first | rfl | (simp -dsimp [oa, ob]; done)) ?_)
                                                            | (with_reducible refine nd_v (orderly_a _) (by first | rfl | (simp -dsimp [oa, ob]; done)) ?_)
                                                            | (with_reducible refine nw_v (orderly_a _) rfl (by first | rfl | (simp -dsimp [oa, ob]; done)) (by first | rfl | (simp -dsimp [oa, ob]; done)) ?_)
                                                            | ((with_reducible apply nd_next); (case hx => simp -dsimp [oa, ob]; first | done | with_reducible rfl); (case hid => simp -dsimp [oa, ob]; first | done | with_reducible rfl | exact ⟨rfl, rfl, rfl⟩ | exact ⟨rfl, rfl⟩); (case' h1 => intro _ _ _); (case' h0 => intro _))
                                                            | ((with_reducible apply nd_entry); (case hx => simp -dsimp [oa, ob]; first | done | with_reducible rfl); (case hid => simp -dsimp [oa, ob]; first | done | with_reducible rfl | exact ⟨rfl, rfl, rfl⟩ | exact ⟨rfl, rfl⟩))
                                                            | ((with_reducible apply nd_range); (case hx => simp -dsimp [oa, ob]; with_reducible rfl); (case hT => simp -dsimp [oa, ob]); (case hnd => assumption); (case hz => simp -dsimp [oa, ob]))
                                                            | (with_reducible refine dn_i follows_any (by kernel_rfl) ?_)
                                                            | (with_reducible exact done_eq rfl)
                                                            | (simp -dsimp [oa, ob]))); (all_goals try with_reducible refine done_eq ?_)
  · have oa : orderly a = false := by simpa using oa
    (repeat' (first
                                                            | (with_reducible refine br_d (fun _ => ?_) (fun _ => ?_))
                                                            | (with_reducible refine br_i (fun _ => ?_) (fun _ => ?_))
                                                            | (with_reducible refine nd_v (zzFits5_a _) (by first | rfl | (simp -dsimp [oa]; done)) ?_)
                                                            | (with_reducible refine nw_v (zzFits5_a _) rfl (by first | rfl | (simp -dsimp [oa]; done)) (by first | rfl | (simp -dsimp [oa]; done)) ?_)
                                                            | (with_reducible refine nd_v (orderly_a _) (by first | rfl | (simp -dsimp [oa]; done)) ?_)
                                                            | (with_reducible refine nw_v (orderly_a _) rfl (by first | rfl | (simp -dsimp [oa]; done)) (by first | rfl | (simp -dsimp [oa]; done)) ?_)
                                                            | ((with_reducible apply nd_next); (case hx => simp -dsimp [oa]; first | done | with_reducible rfl); (case hid => simp -dsimp [oa]; first | done | with_reducible rfl | exact ⟨rfl, rfl, rfl⟩ | exact ⟨rfl, rfl⟩); (case' h1 => intro _ _ _); (case' h0 => intro _))
                                                            | ((with_reducible apply nd_entry); (case hx => simp -dsimp [oa]; first | done | with_reducible rfl); (case hid => simp -dsimp [oa]; first | done | with_reducible rfl | exact ⟨rfl, rfl, rfl⟩ | exact ⟨rfl, rfl⟩))
                                                            | ((with_reducible apply nd_range); (case hx => simp -dsimp [oa]; with_reducible rfl); (case hT => simp -dsimp [oa]); (case hnd => assumption); (case hz => simp -dsimp [oa]))
                                                            | (with_reducible refine dn_i follows_any (by kernel_rfl) ?_)
                                                            | (with_reducible exact done_eq rfl)
                                                            | (simp -dsimp [oa]))); (all_goals try with_reducible refine done_eq ?_)
end Go.Smd
