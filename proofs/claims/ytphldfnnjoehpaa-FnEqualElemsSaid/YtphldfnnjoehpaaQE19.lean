/- Part 19 of the proof: Eq. -/
import Derived.Test.YtphldfnnjoehpaaQE18
section
set_option linter.unusedSimpArgs false
set_option maxRecDepth 100000
set_option maxHeartbeats 8000000
namespace Go.Smd
open Go.RowKit Go.Proofs
def numK (k : Int) : Bool := decide (k = 2) || decide (k = 3)
def asF (k n : Int) (f : Nat) : Nat := if k = 2 then toFl n else f
mutual
def eqP : GV → GV → Bool
  | .mk k n f s ks l, .mk k' n' f' s' ks' l' =>
    if numK k = true ∧ numK k' = true then (if k = 2 ∧ k' = 2 then decide (n = n') else eqFl (asF k n f) (asF k' n' f'))
    else decide (k = k') && decide (n = n') && decide (s = s') && decide (ks = ks') && decide (l.length = l'.length) && eqPs l l'
def eqPs : List GV → List GV → Bool
  | x :: l, y :: l' => eqP x y && eqPs l l'
  | _, _ => true
end
abbrev gvX (k n : Int) (f : Nat) (s : ByteArray) (ks : List ByteArray) (l : List GV) : Av := .agg [.d (dI k), .d (dI n), .d (dF f), .d (dS s), .d (dStrs ks), .d (dGVs l)]
theorem gvA_x (k n : Int) (f : Nat) (s : ByteArray) (ks : List ByteArray) (l : List GV) : gvA (.mk k n f s ks l) = gvX k n f s ks l := by simp only [gvA, gvD_mk, cls_cons, cls_nil]
theorem number_x (k n : Int) (f : Nat) (s : ByteArray) (ks : List ByteArray) (l : List GV) : ACalls Try.prog 121 [gvX k n f s ks l] (fun r => r = aV (.bool (numK k))) := by
  refine acalls_ex [] Try.func121 (by kernel_rfl) rfl Try.ntmps121 Try.results121 (Nat.le_of_ble_eq_true (by kernel_rfl)) ?_; intro hok w0 S0
  clear hok
  (repeat' (first
                                                            | (with_reducible refine br_d (fun _ => ?_) (fun _ => ?_))
                                                            | (with_reducible refine br_i (fun _ => ?_) (fun _ => ?_))
                                                            | ((with_reducible apply nd_next); (case hx => simp -dsimp; first | done | with_reducible rfl); (case hid => simp -dsimp; first | done | with_reducible rfl | exact ⟨rfl, rfl, rfl⟩ | exact ⟨rfl, rfl⟩); (case' h1 => intro _ _ _); (case' h0 => intro _))
                                                            | ((with_reducible apply nd_entry); (case hx => simp -dsimp; first | done | with_reducible rfl); (case hid => simp -dsimp; first | done | with_reducible rfl | exact ⟨rfl, rfl, rfl⟩ | exact ⟨rfl, rfl⟩))
                                                            | ((with_reducible apply nd_range); (case hx => simp -dsimp; with_reducible rfl); (case hT => simp -dsimp); (case hnd => assumption); (case hz => simp -dsimp))
                                                            | (with_reducible refine dn_i follows_any (by kernel_rfl) ?_)
                                                            | (with_reducible exact done_eq rfl)
                                                            | (simp -dsimp))); (all_goals try with_reducible refine done_eq ?_)
  all_goals simp_all [numK]
theorem asFloat_x (k n : Int) (f : Nat) (s : ByteArray) (ks : List ByteArray) (l : List GV) : ACalls Try.prog 122 [gvX k n f s ks l] (fun r => r = aV (.float .f64 (asF k n f))) := by
  refine acalls_ex [] Try.func122 (by kernel_rfl) rfl Try.ntmps122 Try.results122 (Nat.le_of_ble_eq_true (by kernel_rfl)) ?_; intro hok w0 S0
  clear hok
  (repeat' (first
                                                            | (with_reducible refine br_d (fun _ => ?_) (fun _ => ?_))
                                                            | (with_reducible refine br_i (fun _ => ?_) (fun _ => ?_))
                                                            | ((with_reducible apply nd_next); (case hx => simp -dsimp [conv_a]; first | done | with_reducible rfl); (case hid => simp -dsimp [conv_a]; first | done | with_reducible rfl | exact ⟨rfl, rfl, rfl⟩ | exact ⟨rfl, rfl⟩); (case' h1 => intro _ _ _); (case' h0 => intro _))
                                                            | ((with_reducible apply nd_entry); (case hx => simp -dsimp [conv_a]; first | done | with_reducible rfl); (case hid => simp -dsimp [conv_a]; first | done | with_reducible rfl | exact ⟨rfl, rfl, rfl⟩ | exact ⟨rfl, rfl⟩))
                                                            | ((with_reducible apply nd_range); (case hx => simp -dsimp [conv_a]; with_reducible rfl); (case hT => simp -dsimp [conv_a]); (case hnd => assumption); (case hz => simp -dsimp [conv_a]))
                                                            | (with_reducible refine dn_i follows_any (by kernel_rfl) ?_)
                                                            | (with_reducible exact done_eq rfl)
                                                            | (simp -dsimp [conv_a]))); (all_goals try with_reducible refine done_eq ?_)
  all_goals simp_all [asF]
theorem eqPs_iff : ∀ {l m : List GV}, l.length = m.length → (eqPs l m = true ↔ ∀ (i : Nat) (x y : GV), l[i]? = some x → m[i]? = some y → eqP x y = true)
  | [], [], _ => by simp [eqPs]
  | [], _ :: _, h => by simp at h
  | _ :: _, [], h => by simp at h
  | a :: l, b :: m, h => by
    simp only [eqPs, Bool.and_eq_true]
    rw [eqPs_iff (l := l) (m := m) (by simpa using h)]
    constructor
    · rintro ⟨h1, h2⟩ i x y hx hy
      cases i with
      | zero => simp at hx hy; subst hx; subst hy; exact h1
      | succ i => exact h2 i x y (by simpa using hx) (by simpa using hy)
    · intro h1
      exact ⟨h1 0 a b rfl rfl, fun i x y hx hy => h1 (i + 1) x y (by simpa using hx) (by simpa using hy)⟩
theorem equalPlain_a (g : GV) : ∀ h : GV, ACalls Try.prog 109 [gvA g, gvA h] (fun r => r = aV (.bool (eqP g h))) := by
  induction g using GV.ind with
  | h k n f s ks l IH =>
  rintro ⟨k', n', f', s', ks', l'⟩
  rw [gvA_x, gvA_x]
  refine acalls_ex [(4, ([3], [(0, []), (2, []), (1, []), (3, []), (4, []), (5, [])])), (12, ([], [(0, []), (1, []), (2, []), (3, []), (4, []), (5, []), (6, []), (7, []), (8, []), (9, []), (10, [])])), (18, ([10], [(0, []), (1, []), (2, []), (3, []), (4, []), (5, []), (6, []), (7, []), (8, []), (9, []), (10, []), (11, [])]))] Try.func109 (by kernel_rfl) rfl Try.ntmps109 Try.results109 (Nat.le_of_ble_eq_true (by kernel_rfl)) ?_; intro hok w0 S0
  have hg := gv_ok (kind := k) (n := n) (f := f) (s := s) (keys := ks) (l := l) (by rw [gvA_x]; exact hok _ (by simp))
  have hh := gv_ok (kind := k') (n := n') (f := f') (s := s') (keys := ks') (l := l') (by rw [gvA_x]; exact hok _ (by simp))
  have a1 := hg.hkeys; have a2 := hg.hl; have a3 := hh.hkeys; have a4 := hh.hl
  have b1 : ks.length ≤ 9223372036854775807 := by omega
  have b2 : l.length ≤ 9223372036854775807 := by omega
  have b3 : ks'.length ≤ 9223372036854775807 := by omega
  have b4 : l'.length ≤ 9223372036854775807 := by omega
  clear hok
  (repeat' (first
                                                            | (with_reducible refine br_d (fun _ => ?_) (fun _ => ?_))
                                                            | (with_reducible refine br_i (fun _ => ?_) (fun _ => ?_))
                                                            | (with_reducible refine nd_v (number_x _ _ _ _ _ _) (by first | rfl | (simp -dsimp [b1, b2, b3, b4]; done)) ?_)
                                                            | (with_reducible refine nw_v (number_x _ _ _ _ _ _) rfl (by first | rfl | (simp -dsimp [b1, b2, b3, b4]; done)) (by first | rfl | (simp -dsimp [b1, b2, b3, b4]; done)) ?_)
                                                            | (with_reducible refine nd_v (asFloat_x _ _ _ _ _ _) (by first | rfl | (simp -dsimp [b1, b2, b3, b4]; done)) ?_)
                                                            | (with_reducible refine nw_v (asFloat_x _ _ _ _ _ _) rfl (by first | rfl | (simp -dsimp [b1, b2, b3, b4]; done)) (by first | rfl | (simp -dsimp [b1, b2, b3, b4]; done)) ?_)
                                                            | ((with_reducible apply nd_next); (case hx => simp -dsimp [b1, b2, b3, b4]; first | done | with_reducible rfl); (case hid => simp -dsimp [b1, b2, b3, b4]; first | done | with_reducible rfl | exact ⟨rfl, rfl, rfl⟩ | exact ⟨rfl, rfl⟩); (case' h1 => intro _ _ _); (case' h0 => intro _))
                                                            | ((with_reducible apply nd_entry); (case hx => simp -dsimp [b1, b2, b3, b4]; first | done | with_reducible rfl); (case hid => simp -dsimp [b1, b2, b3, b4]; first | done | with_reducible rfl | exact ⟨rfl, rfl, rfl⟩ | exact ⟨rfl, rfl⟩))
                                                            | ((with_reducible apply nd_range); (case hx => simp -dsimp [b1, b2, b3, b4]; with_reducible rfl); (case hT => simp -dsimp [b1, b2, b3, b4]); (case hnd => assumption); (case hz => simp -dsimp [b1, b2, b3, b4]))
                                                            | (with_reducible refine dn_i follows_any (by kernel_rfl) ?_)
                                                            | (with_reducible exact done_eq rfl)
                                                            | (simp -dsimp [b1, b2, b3, b4]))); (all_goals try with_reducible refine done_eq ?_)
  all_goals first
    | (simp_all [eqP]; done)
    | (simp_all [eqP, eqFl]; done)
    | (by_cases hd : ks = ks' <;> by_cases hd2 : l.length = l'.length <;> simp_all [eqP] <;> omega)
    | skip
  all_goals
    have e1 : n = n' := by simp_all
    have e2 : s = s' := by simp_all
    have e3 : ks.length = ks'.length := by have h := ‹(!decide ((ks.length : Int) = ks'.length)) = false›; simp at h; omega
    have e4 : l.length = l'.length := by have h := ‹(!decide ((l.length : Int) = l'.length)) = false›; simp at h; omega
    have H : eqP (.mk k n f s ks l) (.mk k' n' f' s' ks' l') = (decide (ks = ks') && eqPs l l') := by simp_all [eqP]
    rw [H]
    clear H
    refine ex_loop (fun i : Nat => ⟨[(2, .c (.own 2 0)), (3, .c (.own 3 0)), (68, aV (.int .i64 ks.length)), (69, aV (.int .i64 i))], [(3, .cells (cls (gvD (.mk k' n' f' s' ks' l'))) 26), (2, .cells (cls (gvD (.mk k n f s ks l))) 26)]⟩) (fun i => i ≤ ks.length ∧ ∀ (j : Nat) (h : j < ks.length) (h' : j < ks'.length), j < i → ks[j] = ks'[j]) (fun i => ks.length - i) 0 ?_ ⟨Nat.zero_le _, fun j x y h => by omega⟩ ?_
    · exact Weak.same (by simp -dsimp [gvD_mk, cls_cons, cls_nil]) (by simp -dsimp [gvD_mk, cls_cons, cls_nil]) (by first | rfl | (simp [closedSt, Av.ids, Ow.ids, Cl.ids, Go.Smd.keys]; done))
    · rintro i ⟨hi, hall⟩ K hK
      simp only [gvD_mk, cls_cons, cls_nil]
      by_cases hlt : i < ks.length
      · have hlt' : i < ks'.length := by omega
        have hw : IntKind.wrap .i64 ((i : Int) + 1) = ((i + 1 : Nat) : Int) := by rw [wrap_i64] <;> omega
        (repeat' (first
                                                            | (with_reducible refine br_d (fun _ => ?_) (fun _ => ?_))
                                                            | (with_reducible refine br_i (fun _ => ?_) (fun _ => ?_))
                                                            | ((with_reducible apply nd_next); (case hx => simp -dsimp [b1, b3, hlt, hlt', hw]; first | done | with_reducible rfl); (case hid => simp -dsimp [b1, b3, hlt, hlt', hw]; first | done | with_reducible rfl | exact ⟨rfl, rfl, rfl⟩ | exact ⟨rfl, rfl⟩); (case' h1 => intro _ _ _); (case' h0 => intro _))
                                                            | ((with_reducible apply nd_entry); (case hx => simp -dsimp [b1, b3, hlt, hlt', hw]; first | done | with_reducible rfl); (case hid => simp -dsimp [b1, b3, hlt, hlt', hw]; first | done | with_reducible rfl | exact ⟨rfl, rfl, rfl⟩ | exact ⟨rfl, rfl⟩))
                                                            | ((with_reducible apply nd_range); (case hx => simp -dsimp [b1, b3, hlt, hlt', hw]; with_reducible rfl); (case hT => simp -dsimp [b1, b3, hlt, hlt', hw]); (case hnd => assumption); (case hz => simp -dsimp [b1, b3, hlt, hlt', hw]))
                                                            | (with_reducible refine dn_i follows_any (by kernel_rfl) ?_)
                                                            | (with_reducible exact done_eq rfl)
                                                            | (simp -dsimp [b1, b3, hlt, hlt', hw]))); (all_goals try with_reducible refine done_eq ?_)
        · rename_i hn
          have hn : ¬ ks[i] = ks'[i] := by simpa using hn
          have : ks ≠ ks' := fun e => hn (by simp only [e])
          simp [this]
        · rename_i hn
          have hn : ks[i] = ks'[i] := by simpa using hn
          refine hK _ (i + 1) ?_ ⟨by omega, fun j x y hj => ?_⟩ (by omega)
          · exact Weak.same (by simp -dsimp [gvD_mk, cls_cons, cls_nil]) (by simp -dsimp [gvD_mk, cls_cons, cls_nil]) (by first | rfl | (simp [closedSt, Av.ids, Ow.ids, Cl.ids, Go.Smd.keys]; done))
          · by_cases e : j = i
            · subst e; exact hn
            · exact hall j x y (by omega)
      · have hks : ks = ks' := List.ext_getElem e3 fun j x y => hall j x y (by omega)
        (repeat' (first
                                                            | (with_reducible refine br_d (fun _ => ?_) (fun _ => ?_))
                                                            | (with_reducible refine br_i (fun _ => ?_) (fun _ => ?_))
                                                            | ((with_reducible apply nd_next); (case hx => simp -dsimp [b2, hlt]; first | done | with_reducible rfl); (case hid => simp -dsimp [b2, hlt]; first | done | with_reducible rfl | exact ⟨rfl, rfl, rfl⟩ | exact ⟨rfl, rfl⟩); (case' h1 => intro _ _ _); (case' h0 => intro _))
                                                            | ((with_reducible apply nd_entry); (case hx => simp -dsimp [b2, hlt]; first | done | with_reducible rfl); (case hid => simp -dsimp [b2, hlt]; first | done | with_reducible rfl | exact ⟨rfl, rfl, rfl⟩ | exact ⟨rfl, rfl⟩))
                                                            | ((with_reducible apply nd_range); (case hx => simp -dsimp [b2, hlt]; with_reducible rfl); (case hT => simp -dsimp [b2, hlt]); (case hnd => assumption); (case hz => simp -dsimp [b2, hlt]))
                                                            | (with_reducible refine dn_i follows_any (by kernel_rfl) ?_)
                                                            | (with_reducible exact done_eq rfl)
                                                            | (simp -dsimp [b2, hlt]))); (all_goals try with_reducible refine done_eq ?_)
        clear hall hK
        have H : (decide (ks = ks') && eqPs l l') = eqPs l l' := by simp [hks]
        rw [H]
        clear H
        refine ex_loop (fun i : Nat => ⟨[(2, .c (.own 2 0)), (3, .c (.own 3 0)), (86, aV (.int .i64 l.length)), (87, aV (.int .i64 i))], [(3, .cells (cls (gvD (.mk k' n' f' s' ks' l'))) 26), (2, .cells (cls (gvD (.mk k n f s ks l))) 26)]⟩) (fun i => i ≤ l.length ∧ ∀ (j : Nat) (h : j < l.length) (h' : j < l'.length), j < i → eqP l[j] l'[j] = true) (fun i => l.length - i) 0 ?_ ⟨Nat.zero_le _, fun j x y h => by omega⟩ ?_
        · exact Weak.same (by simp -dsimp [gvD_mk, cls_cons, cls_nil]) (by simp -dsimp [gvD_mk, cls_cons, cls_nil]) (by first | rfl | (simp [closedSt, Av.ids, Ow.ids, Cl.ids, Go.Smd.keys]; done))
        · rintro i2 ⟨hi2, hall⟩ K2 hK
          simp only [gvD_mk, cls_cons, cls_nil]
          by_cases hlt : i2 < l.length
          · have hlt' : i2 < l'.length := by omega
            have hw : IntKind.wrap .i64 ((i2 : Int) + 1) = ((i2 + 1 : Nat) : Int) := by rw [wrap_i64] <;> omega
            (repeat' (first
                                                            | (with_reducible refine br_d (fun _ => ?_) (fun _ => ?_))
                                                            | (with_reducible refine br_i (fun _ => ?_) (fun _ => ?_))
                                                            | (with_reducible refine nd_v (IH l[i2] (List.getElem_mem hlt) l'[i2]) (by first | rfl | (simp -dsimp [b2, b4, hlt, hlt', hw]; done)) ?_)
                                                            | (with_reducible refine nw_v (IH l[i2] (List.getElem_mem hlt) l'[i2]) rfl (by first | rfl | (simp -dsimp [b2, b4, hlt, hlt', hw]; done)) (by first | rfl | (simp -dsimp [b2, b4, hlt, hlt', hw]; done)) ?_)
                                                            | ((with_reducible apply nd_next); (case hx => simp -dsimp [b2, b4, hlt, hlt', hw]; first | done | with_reducible rfl); (case hid => simp -dsimp [b2, b4, hlt, hlt', hw]; first | done | with_reducible rfl | exact ⟨rfl, rfl, rfl⟩ | exact ⟨rfl, rfl⟩); (case' h1 => intro _ _ _); (case' h0 => intro _))
                                                            | ((with_reducible apply nd_entry); (case hx => simp -dsimp [b2, b4, hlt, hlt', hw]; first | done | with_reducible rfl); (case hid => simp -dsimp [b2, b4, hlt, hlt', hw]; first | done | with_reducible rfl | exact ⟨rfl, rfl, rfl⟩ | exact ⟨rfl, rfl⟩))
                                                            | ((with_reducible apply nd_range); (case hx => simp -dsimp [b2, b4, hlt, hlt', hw]; with_reducible rfl); (case hT => simp -dsimp [b2, b4, hlt, hlt', hw]); (case hnd => assumption); (case hz => simp -dsimp [b2, b4, hlt, hlt', hw]))
                                                            | (with_reducible refine dn_i follows_any (by kernel_rfl) ?_)
                                                            | (with_reducible exact done_eq rfl)
                                                            | (simp -dsimp [b2, b4, hlt, hlt', hw]))); (all_goals try with_reducible refine done_eq ?_)
            · rename_i hn
              have hn : eqP l[i2] l'[i2] = false := by simpa using hn
              have : ¬ eqPs l l' = true := fun h => by
                have := (eqPs_iff e4).1 h i2 _ _ (List.getElem?_eq_getElem hlt) (List.getElem?_eq_getElem hlt')
                rw [hn] at this; cases this
              rw [Bool.eq_false_iff.2 this]
            · rename_i hn
              have hn : eqP l[i2] l'[i2] = true := by simpa using hn
              refine hK _ (i2 + 1) ?_ ⟨by omega, fun j x y hj => ?_⟩ (by omega)
              · exact Weak.same (by simp -dsimp [gvD_mk, cls_cons, cls_nil]) (by simp -dsimp [gvD_mk, cls_cons, cls_nil]) (by first | rfl | (simp [closedSt, Av.ids, Ow.ids, Cl.ids, Go.Smd.keys]; done))
              · by_cases e : j = i2
                · subst e; exact hn
                · exact hall j x y (by omega)
          · (repeat' (first
                                                            | (with_reducible refine br_d (fun _ => ?_) (fun _ => ?_))
                                                            | (with_reducible refine br_i (fun _ => ?_) (fun _ => ?_))
                                                            | ((with_reducible apply nd_next); (case hx => simp -dsimp [hlt]; first | done | with_reducible rfl); (case hid => simp -dsimp [hlt]; first | done | with_reducible rfl | exact ⟨rfl, rfl, rfl⟩ | exact ⟨rfl, rfl⟩); (case' h1 => intro _ _ _); (case' h0 => intro _))
                                                            | ((with_reducible apply nd_entry); (case hx => simp -dsimp [hlt]; first | done | with_reducible rfl); (case hid => simp -dsimp [hlt]; first | done | with_reducible rfl | exact ⟨rfl, rfl, rfl⟩ | exact ⟨rfl, rfl⟩))
                                                            | ((with_reducible apply nd_range); (case hx => simp -dsimp [hlt]; with_reducible rfl); (case hT => simp -dsimp [hlt]); (case hnd => assumption); (case hz => simp -dsimp [hlt]))
                                                            | (with_reducible refine dn_i follows_any (by kernel_rfl) ?_)
                                                            | (with_reducible exact done_eq rfl)
                                                            | (simp -dsimp [hlt]))); (all_goals try with_reducible refine done_eq ?_)
            have : eqPs l l' = true := (eqPs_iff e4).2 fun j x y hx hy => by
              obtain ⟨j1, rfl⟩ := List.getElem?_eq_some_iff.1 hx
              obtain ⟨j2, rfl⟩ := List.getElem?_eq_some_iff.1 hy
              exact hall j j1 j2 (by omega)
            rw [this]
theorem fromMs_of {k : ByteArray} {t : Tree} : ∀ {m : List (ByteArray × Tree)}, (m.map (·.1)).Nodup → (k, t) ∈ m → (k, fromT t) ∈ fromMs m
  | [], _, h => by cases h
  | p :: m, hn, h => by
    simp only [List.map_cons, List.nodup_cons] at hn
    simp only [fromMs]
    rw [sIns_mem_iff (fromMs_sorted m)]
    rcases List.mem_cons.1 h with rfl | h
    · exact .inl rfl
    · exact .inr ⟨fromMs_of hn.2 h, fun e => hn.1 (e ▸ List.mem_map_of_mem h)⟩
theorem eqL_eqPs {e : Tree → Tree → Bool} : ∀ {l m : List Tree}, (∀ x ∈ l, ∀ y ∈ m, e x y = eqP (fromT x) (fromT y)) → eqL e l m = (decide (l.length = m.length) && eqPs (fromTs l) (fromTs m))
  | [], [], _ => by simp [eqL, fromTs, eqPs]
  | [], _ :: _, _ => by simp [eqL]
  | _ :: _, [], _ => by simp [eqL]
  | x :: l, y :: m, h => by
    simp only [eqL, fromTs, eqPs]
    rw [eqL_eqPs (l := l) (m := m) fun a ha b hb => h a (List.mem_cons_of_mem _ ha) b (List.mem_cons_of_mem _ hb), h x (List.mem_cons_self ..) y (List.mem_cons_self ..)]
    simp only [List.length_cons, Nat.succ_eq_add_one, Nat.add_right_cancel_iff]
    cases decide (l.length = m.length) <;> simp
theorem eqMap_eqP {e : Tree → Tree → Bool} {m1 m2 : List (ByteArray × Tree)} (hn1 : (m1.map (·.1)).Nodup) (hn2 : (m2.map (·.1)).Nodup) (h : ∀ x ∈ m1, ∀ y ∈ m2, e x.2 y.2 = eqP (fromT x.2) (fromT y.2)) :
    eqMap e m1 m2 = (decide ((fromMs m1).map (·.1) = (fromMs m2).map (·.1)) && decide (((fromMs m1).map (·.2)).length = ((fromMs m2).map (·.2)).length) && eqPs ((fromMs m1).map (·.2)) ((fromMs m2).map (·.2))) := by
  have s1 := fromMs_sorted m1
  have s2 := fromMs_sorted m2
  have l1 : (fromMs m1).length = m1.length := by
    have := nodup_perm (sorted_nodup s1) hn1 fun q => fromMs_keys q m1
    rwa [List.length_map, List.length_map] at this
  have l2 : (fromMs m2).length = m2.length := by
    have := nodup_perm (sorted_nodup s2) hn2 fun q => fromMs_keys q m2
    rwa [List.length_map, List.length_map] at this
  rw [Bool.eq_iff_iff]
  unfold eqMap eqM
  simp only [Bool.and_eq_true, decide_eq_true_eq, List.all_eq_true, List.length_map, l1, l2]
  have at_ : ∀ (m : List (ByteArray × Tree)) (i : Nat) (k : ByteArray) (a : GV), (fromMs m)[i]? = some (k, a) → ∃ t, (k, t) ∈ m ∧ a = fromT t := fun m i k a hi => fromMs_mem (List.mem_of_getElem? hi)
  constructor
  · rintro ⟨hl, hall⟩
    have sub : ∀ q ∈ m2.map (·.1), q ∈ m1.map (·.1) := fun q hq => by
      obtain ⟨p, hp, rfl⟩ := List.mem_map.1 hq
      have := hall p hp
      unfold eqK at this
      split at this
      · next x hx => exact List.mem_map.2 ⟨_, mget_mem hx, rfl⟩
      · cases this
    have sup := nodup_onto hn2 (by simp; omega) sub
    have hk : (fromMs m1).map (·.1) = (fromMs m2).map (·.1) := sorted_eq s1 s2 fun q => by
      rw [fromMs_keys, fromMs_keys]; exact ⟨sup q, sub q⟩
    refine ⟨⟨hk, hl⟩, (eqPs_iff (by simp [l1, l2, hl])).2 fun i x y hx hy => ?_⟩
    rw [List.getElem?_map] at hx hy
    obtain ⟨⟨k, a⟩, ha, rfl⟩ := Option.map_eq_some_iff.1 hx
    obtain ⟨⟨k2, b⟩, hb, rfl⟩ := Option.map_eq_some_iff.1 hy
    have hkk : k = k2 := by
      have e1 : ((fromMs m1).map (·.1))[i]? = some k := by rw [List.getElem?_map, ha]; rfl
      have e2 : ((fromMs m2).map (·.1))[i]? = some k2 := by rw [List.getElem?_map, hb]; rfl
      rw [hk, e2] at e1; exact (Option.some.inj e1).symm
    subst hkk
    obtain ⟨t, ht, rfl⟩ := at_ m1 i k a ha
    obtain ⟨v, hv, rfl⟩ := at_ m2 i k b hb
    have := hall _ hv
    unfold eqK at this
    rw [mget_of_mem hn1 ht] at this
    exact (h _ ht _ hv).symm.trans this
  · rintro ⟨⟨hk, hl⟩, hps⟩
    have hps := (eqPs_iff (by simp [l1, l2, hl])).1 hps
    refine ⟨hl, fun p hp => ?_⟩
    have hb := fromMs_of hn2 (k := p.1) (t := p.2) hp
    obtain ⟨i, hi, hib⟩ := List.getElem_of_mem hb
    have hb' : (fromMs m2)[i]? = some (p.1, fromT p.2) := by rw [List.getElem?_eq_getElem hi, hib]
    have hi1 : i < (fromMs m1).length := by omega
    obtain ⟨⟨k, a⟩, hq⟩ : ∃ q, (fromMs m1)[i] = q := ⟨_, rfl⟩
    have ha' : (fromMs m1)[i]? = some (k, a) := by rw [List.getElem?_eq_getElem hi1, hq]
    have hkk : k = p.1 := by
      have e1 : ((fromMs m1).map (·.1))[i]? = some k := by rw [List.getElem?_map, ha']; rfl
      have e2 : ((fromMs m2).map (·.1))[i]? = some p.1 := by rw [List.getElem?_map, hb']; rfl
      rw [hk, e2] at e1; exact (Option.some.inj e1).symm
    subst hkk
    obtain ⟨t, ht, rfl⟩ := at_ m1 i p.1 a ha'
    unfold eqK
    rw [mget_of_mem hn1 ht]
    have := hps i (fromT t) (fromT p.2) (by rw [List.getElem?_map, ha']; rfl) (by rw [List.getElem?_map, hb']; rfl)
    exact (h _ ht _ hp).trans this
theorem eqF_eqP : ∀ (n : Nat) (x y : Tree), dep x ≤ n → Fits x → Fits y → eqF n x y = eqP (fromT x) (fromT y)
  | 0, x, y, h, _, _ => by have := dep_pos x; omega
  | n + 1, x, y, h, hx, hy => by
    unfold eqF
    cases x <;> cases y <;> simp only [eqT, fromT, mkMap, eqP] <;> (try (simp [numK, eqPs]; done))
    case float.float a b => simp [numK, asF]
    case float.int a b => simp [numK, asF]
    case int.float a b => simp [numK, asF]
    case bool.bool a b => cases a <;> cases b <;> simp [numK, eqPs]
    case list.list l m =>
      simp only [Fits] at hx hy
      simp only [dep] at h
      rw [eqL_eqPs fun a ha b hb => eqF_eqP n a b (by have := depL_mem ha; omega) (hx.2.mem a ha) (hy.2.mem b hb)]
      simp [numK, fromTs_eq]
    case map.map l m =>
      simp only [Fits] at hx hy
      simp only [dep] at h
      rw [eqMap_eqP hx.2.1 hy.2.1 fun a ha b hb => eqF_eqP n a.2 b.2 (by have := depM_mem ha; omega) (hx.2.2.mem a ha) (hy.2.2.mem b hb)]
      simp [numK]
theorem eqV_spec (a b : GV) (ha : Fits (treeOf a)) (hb : Fits (treeOf b)) : eqV (treeOf a) (treeOf b) = eqP (clean a) (clean b) := by
  unfold eqV
  rw [eqF_eqP _ _ _ (Nat.le_refl _) ha hb, from_tree, from_tree]
theorem sEqualValues_a (a b : GV) : ACalls Try.prog 83 [gvA a, gvA b] (fun r => r = aV (.bool (eqP (clean a) (clean b)))) := by
  refine acalls_ex [(1, ([3, 4], [(0, []), (2, []), (1, []), (3, []), (4, []), (5, [])]))] Try.func83 (by kernel_rfl) rfl Try.ntmps83 Try.results83 (Nat.le_of_ble_eq_true (by kernel_rfl)) ?_; intro hok w0 S0
  clear hok
  (repeat' (first
                                                            | (with_reducible refine br_d (fun _ => ?_) (fun _ => ?_))
                                                            | (with_reducible refine br_i (fun _ => ?_) (fun _ => ?_))
                                                            | (with_reducible refine nd_v (clean_a _) (by first | rfl | (simp -dsimp; done)) ?_)
                                                            | (with_reducible refine nw_v (clean_a _) rfl (by first | rfl | (simp -dsimp; done)) (by first | rfl | (simp -dsimp; done)) ?_)
                                                            | (with_reducible refine nd_v (equalPlain_a _ _) (by first | rfl | (simp -dsimp; done)) ?_)
                                                            | (with_reducible refine nw_v (equalPlain_a _ _) rfl (by first | rfl | (simp -dsimp; done)) (by first | rfl | (simp -dsimp; done)) ?_)
                                                            | ((with_reducible apply nd_next); (case hx => simp -dsimp; first | done | with_reducible rfl); (case hid => simp -dsimp; first | done | with_reducible rfl | exact ⟨rfl, rfl, rfl⟩ | exact ⟨rfl, rfl⟩); (case' h1 => intro _ _ _); (case' h0 => intro _))
                                                            | ((with_reducible apply nd_entry); (case hx => simp -dsimp; first | done | with_reducible rfl); (case hid => simp -dsimp; first | done | with_reducible rfl | exact ⟨rfl, rfl, rfl⟩ | exact ⟨rfl, rfl⟩))
                                                            | ((with_reducible apply nd_range); (case hx => simp -dsimp; with_reducible rfl); (case hT => simp -dsimp); (case hnd => assumption); (case hz => simp -dsimp))
                                                            | (with_reducible refine dn_i follows_any (by kernel_rfl) ?_)
                                                            | (with_reducible exact done_eq rfl)
                                                            | (simp -dsimp))); (all_goals try with_reducible refine done_eq ?_)
end Go.Smd
end
