/- Part 21 of the proof: Sc. -/
import Derived.Test.YtphldfnnjoehpaaQC19
import Derived.Test.YtphldfnnjoehpaaQC20
set_option linter.unusedVariables false
section
set_option linter.unusedSimpArgs false
set_option maxRecDepth 100000
set_option maxHeartbeats 8000000
namespace Go.Smd
open Go.RowKit Go.Proofs
abbrev fS : Av := .c (.d (.v (.func (.func 17) #[] #[])))
theorem ctys_same : ctys Try.prog 31 = [none] := by kernel_rfl
theorem sameValue_a (g1 g2 : GV) (h : clean g1 = clean g2) : ACalls Try.prog 17 [gvA g1, gvA g2] (fun r => r = aV (.bool true)) := by
  have h1 := clean_a g1
  have h2 := clean_a g2
  rw [← h] at h2
  obtain ⟨a1, a2, a3, a4, a5, a6, hcl⟩ : ∃ a1 a2 a3 a4 a5 a6, clean g1 = .mk a1 a2 a3 a4 a5 a6 := by cases clean g1; exact ⟨_, _, _, _, _, _, rfl⟩
  rw [hcl, gvA_x] at h1 h2
  try simp only [cls_cons, cls_nil] at *
  refine acalls_ex [(1, ([3, 4], [(0, []), (2, []), (1, []), (3, []), (4, []), (5, [])]))] Try.func17 (by kernel_rfl) rfl Try.ntmps17 Try.results17 (Nat.le_of_ble_eq_true (by kernel_rfl)) ?_; intro hok w0 S0
  clear hok
  (repeat' (first
                                                            | (with_reducible refine br_d (fun _ => ?_) (fun _ => ?_))
                                                            | (with_reducible refine br_i (fun _ => ?_) (fun _ => ?_))
                                                            | (with_reducible refine nd_v (h1) (by first | rfl | (simp -dsimp; done)) ?_)
                                                            | (with_reducible refine nw_v (h1) rfl (by first | rfl | (simp -dsimp; done)) (by first | rfl | (simp -dsimp; done)) ?_)
                                                            | (with_reducible refine nd_v (h2) (by first | rfl | (simp -dsimp; done)) ?_)
                                                            | (with_reducible refine nw_v (h2) rfl (by first | rfl | (simp -dsimp; done)) (by first | rfl | (simp -dsimp; done)) ?_)
                                                            | (with_reducible refine nd_v (identical_x _ _ _ _ _ _) (by first | rfl | (simp -dsimp; done)) ?_)
                                                            | (with_reducible refine nw_v (identical_x _ _ _ _ _ _) rfl (by first | rfl | (simp -dsimp; done)) (by first | rfl | (simp -dsimp; done)) ?_)
                                                            | ((with_reducible apply nd_next); (case hx => simp -dsimp; first | done | with_reducible rfl); (case hid => simp -dsimp; first | done | with_reducible rfl | exact ⟨rfl, rfl, rfl⟩ | exact ⟨rfl, rfl⟩); (case' h1 => intro _ _ _); (case' h0 => intro _))
                                                            | ((with_reducible apply nd_entry); (case hx => simp -dsimp; first | done | with_reducible rfl); (case hid => simp -dsimp; first | done | with_reducible rfl | exact ⟨rfl, rfl, rfl⟩ | exact ⟨rfl, rfl⟩))
                                                            | ((with_reducible apply nd_range); (case hx => simp -dsimp; with_reducible rfl); (case hT => simp -dsimp); (case hnd => assumption); (case hz => simp -dsimp))
                                                            | (with_reducible refine dn_i follows_any (by kernel_rfl) ?_)
                                                            | (with_reducible exact done_eq rfl)
                                                            | (simp -dsimp))); (all_goals try with_reducible refine done_eq ?_)
theorem sameStrings_a (l : List ByteArray) (hl : l.length ≤ 9223372036854775806) : ACalls Try.prog 78 [.c (.d (dStrs l)), .c (.d (dStrs l))] (fun r => r = aV (.bool true)) := by
  try simp only [cls_cons, cls_nil] at *
  refine acalls_ex [(6, ([], [(0, []), (1, []), (2, []), (3, []), (4, []), (5, []), (6, []), (7, []), (8, [])]))] Try.func78 (by kernel_rfl) rfl Try.ntmps78 Try.results78 (Nat.le_of_ble_eq_true (by kernel_rfl)) ?_; intro hok w0 S0
  clear hok
  have b1 : l.length ≤ 9223372036854775807 := by omega
  (repeat' (first
                                                            | (with_reducible refine br_d (fun _ => ?_) (fun _ => ?_))
                                                            | (with_reducible refine br_i (fun _ => ?_) (fun _ => ?_))
                                                            | ((with_reducible apply nd_next); (case hx => simp -dsimp [b1]; first | done | with_reducible rfl); (case hid => simp -dsimp [b1]; first | done | with_reducible rfl | exact ⟨rfl, rfl, rfl⟩ | exact ⟨rfl, rfl⟩); (case' h1 => intro _ _ _); (case' h0 => intro _))
                                                            | ((with_reducible apply nd_entry); (case hx => simp -dsimp [b1]; first | done | with_reducible rfl); (case hid => simp -dsimp [b1]; first | done | with_reducible rfl | exact ⟨rfl, rfl, rfl⟩ | exact ⟨rfl, rfl⟩))
                                                            | ((with_reducible apply nd_range); (case hx => simp -dsimp [b1]; with_reducible rfl); (case hT => simp -dsimp [b1]); (case hnd => assumption); (case hz => simp -dsimp [b1]))
                                                            | (with_reducible refine dn_i follows_any (by kernel_rfl) ?_)
                                                            | (with_reducible exact done_eq rfl)
                                                            | (simp -dsimp [b1]))); (all_goals try with_reducible refine done_eq ?_)
  refine ex_loop (fun i : Nat => ⟨[(0, .c (.d (dStrs l))), (1, .c (.d (dStrs l))), (12, aI l.length), (13, aI i)], []⟩) (fun i => i ≤ l.length) (fun i => l.length - i) 0 ?_ (Nat.zero_le _) ?_
  · exact Weak.same (by simp -dsimp) (by simp -dsimp) (by first | rfl | (simp [closedSt, Av.ids, Ow.ids, Cl.ids, Go.Smd.keys]; done))
  · rintro i hi K hK
    by_cases hlt : i < l.length
    · have hw : IntKind.wrap .i64 ((i : Int) + 1) = ((i + 1 : Nat) : Int) := by rw [wrap_i64] <;> omega
      (repeat' (first
                                                            | (with_reducible refine br_d (fun _ => ?_) (fun _ => ?_))
                                                            | (with_reducible refine br_i (fun _ => ?_) (fun _ => ?_))
                                                            | ((with_reducible apply nd_next); (case hx => simp -dsimp [b1, hlt, hw, rowS]; first | done | with_reducible rfl); (case hid => simp -dsimp [b1, hlt, hw, rowS]; first | done | with_reducible rfl | exact ⟨rfl, rfl, rfl⟩ | exact ⟨rfl, rfl⟩); (case' h1 => intro _ _ _); (case' h0 => intro _))
                                                            | ((with_reducible apply nd_entry); (case hx => simp -dsimp [b1, hlt, hw, rowS]; first | done | with_reducible rfl); (case hid => simp -dsimp [b1, hlt, hw, rowS]; first | done | with_reducible rfl | exact ⟨rfl, rfl, rfl⟩ | exact ⟨rfl, rfl⟩))
                                                            | ((with_reducible apply nd_range); (case hx => simp -dsimp [b1, hlt, hw, rowS]; with_reducible rfl); (case hT => simp -dsimp [b1, hlt, hw, rowS]); (case hnd => assumption); (case hz => simp -dsimp [b1, hlt, hw, rowS]))
                                                            | (with_reducible refine dn_i follows_any (by kernel_rfl) ?_)
                                                            | (with_reducible exact done_eq rfl)
                                                            | (simp -dsimp [b1, hlt, hw, rowS]))); (all_goals try with_reducible refine done_eq ?_)
      refine hK _ (i + 1) ?_ (by omega) (by omega)
      exact Weak.same (by simp -dsimp) (by simp -dsimp) (by first | rfl | (simp [closedSt, Av.ids, Ow.ids, Cl.ids, Go.Smd.keys]; done))
    · (repeat' (first
                                                            | (with_reducible refine br_d (fun _ => ?_) (fun _ => ?_))
                                                            | (with_reducible refine br_i (fun _ => ?_) (fun _ => ?_))
                                                            | ((with_reducible apply nd_next); (case hx => simp -dsimp [hlt]; first | done | with_reducible rfl); (case hid => simp -dsimp [hlt]; first | done | with_reducible rfl | exact ⟨rfl, rfl, rfl⟩ | exact ⟨rfl, rfl⟩); (case' h1 => intro _ _ _); (case' h0 => intro _))
                                                            | ((with_reducible apply nd_entry); (case hx => simp -dsimp [hlt]; first | done | with_reducible rfl); (case hid => simp -dsimp [hlt]; first | done | with_reducible rfl | exact ⟨rfl, rfl, rfl⟩ | exact ⟨rfl, rfl⟩))
                                                            | ((with_reducible apply nd_range); (case hx => simp -dsimp [hlt]; with_reducible rfl); (case hT => simp -dsimp [hlt]); (case hnd => assumption); (case hz => simp -dsimp [hlt]))
                                                            | (with_reducible refine dn_i follows_any (by kernel_rfl) ?_)
                                                            | (with_reducible exact done_eq rfl)
                                                            | (simp -dsimp [hlt]))); (all_goals try with_reducible refine done_eq ?_)
theorem firstList_x (sc : ByteArray) (ls : List LT) (ms : List MT) (hl : ls.length ≤ 9223372036854775807) : ACalls Try.prog 60 [.agg (cls (atX sc ls ms))] (fun r => r = .c (.d (dLTs (ls.take 1)))) := by
  cases ls with
  | nil =>
    have b0 : min (1 : Int) 0 = 0 := by decide
    try simp only [cls_cons, cls_nil] at *
    refine acalls_ex [] Try.func60 (by kernel_rfl) rfl Try.ntmps60 Try.results60 (Nat.le_of_ble_eq_true (by kernel_rfl)) ?_; intro hok w0 S0
    clear hok
    (repeat' (first
                                                            | (with_reducible refine br_d (fun _ => ?_) (fun _ => ?_))
                                                            | (with_reducible refine br_i (fun _ => ?_) (fun _ => ?_))
                                                            | ((with_reducible apply nd_next); (case hx => simp -dsimp [b0]; first | done | with_reducible rfl); (case hid => simp -dsimp [b0]; first | done | with_reducible rfl | exact ⟨rfl, rfl, rfl⟩ | exact ⟨rfl, rfl⟩); (case' h1 => intro _ _ _); (case' h0 => intro _))
                                                            | ((with_reducible apply nd_entry); (case hx => simp -dsimp [b0]; first | done | with_reducible rfl); (case hid => simp -dsimp [b0]; first | done | with_reducible rfl | exact ⟨rfl, rfl, rfl⟩ | exact ⟨rfl, rfl⟩))
                                                            | ((with_reducible apply nd_range); (case hx => simp -dsimp [b0]; with_reducible rfl); (case hT => simp -dsimp [b0]); (case hnd => assumption); (case hz => simp -dsimp [b0]))
                                                            | (with_reducible refine dn_i follows_any (by kernel_rfl) ?_)
                                                            | (with_reducible exact done_eq rfl)
                                                            | (simp -dsimp [b0]))); (all_goals try with_reducible refine done_eq ?_)
  | cons l ls =>
    have b1 : ls.length ≤ 9223372036854775806 := by simpa using hl
    have b2 : min (1 : Int) ((ls.length : Int) + 1) = 1 := by omega
    have b3 : (1 : Int) ≤ (ls.length : Int) + 1 := by omega
    try simp only [cls_cons, cls_nil] at *
    refine acalls_ex [] Try.func60 (by kernel_rfl) rfl Try.ntmps60 Try.results60 (Nat.le_of_ble_eq_true (by kernel_rfl)) ?_; intro hok w0 S0
    clear hok
    (repeat' (first
                                                            | (with_reducible refine br_d (fun _ => ?_) (fun _ => ?_))
                                                            | (with_reducible refine br_i (fun _ => ?_) (fun _ => ?_))
                                                            | ((with_reducible apply nd_next); (case hx => simp -dsimp [b1, b2, b3]; first | done | with_reducible rfl); (case hid => simp -dsimp [b1, b2, b3]; first | done | with_reducible rfl | exact ⟨rfl, rfl, rfl⟩ | exact ⟨rfl, rfl⟩); (case' h1 => intro _ _ _); (case' h0 => intro _))
                                                            | ((with_reducible apply nd_entry); (case hx => simp -dsimp [b1, b2, b3]; first | done | with_reducible rfl); (case hid => simp -dsimp [b1, b2, b3]; first | done | with_reducible rfl | exact ⟨rfl, rfl, rfl⟩ | exact ⟨rfl, rfl⟩))
                                                            | ((with_reducible apply nd_range); (case hx => simp -dsimp [b1, b2, b3]; with_reducible rfl); (case hT => simp -dsimp [b1, b2, b3]); (case hnd => assumption); (case hz => simp -dsimp [b1, b2, b3]))
                                                            | (with_reducible refine dn_i follows_any (by kernel_rfl) ?_)
                                                            | (with_reducible exact done_eq rfl)
                                                            | (simp -dsimp [b1, b2, b3]))); (all_goals try with_reducible refine done_eq ?_)
theorem firstMap_x (sc : ByteArray) (ls : List LT) (ms : List MT) (hl : ms.length ≤ 9223372036854775807) : ACalls Try.prog 61 [.agg (cls (atX sc ls ms))] (fun r => r = .c (.d (dMTs (ms.take 1)))) := by
  cases ms with
  | nil =>
    have b0 : min (1 : Int) 0 = 0 := by decide
    try simp only [cls_cons, cls_nil] at *
    refine acalls_ex [] Try.func61 (by kernel_rfl) rfl Try.ntmps61 Try.results61 (Nat.le_of_ble_eq_true (by kernel_rfl)) ?_; intro hok w0 S0
    clear hok
    (repeat' (first
                                                            | (with_reducible refine br_d (fun _ => ?_) (fun _ => ?_))
                                                            | (with_reducible refine br_i (fun _ => ?_) (fun _ => ?_))
                                                            | ((with_reducible apply nd_next); (case hx => simp -dsimp [b0]; first | done | with_reducible rfl); (case hid => simp -dsimp [b0]; first | done | with_reducible rfl | exact ⟨rfl, rfl, rfl⟩ | exact ⟨rfl, rfl⟩); (case' h1 => intro _ _ _); (case' h0 => intro _))
                                                            | ((with_reducible apply nd_entry); (case hx => simp -dsimp [b0]; first | done | with_reducible rfl); (case hid => simp -dsimp [b0]; first | done | with_reducible rfl | exact ⟨rfl, rfl, rfl⟩ | exact ⟨rfl, rfl⟩))
                                                            | ((with_reducible apply nd_range); (case hx => simp -dsimp [b0]; with_reducible rfl); (case hT => simp -dsimp [b0]); (case hnd => assumption); (case hz => simp -dsimp [b0]))
                                                            | (with_reducible refine dn_i follows_any (by kernel_rfl) ?_)
                                                            | (with_reducible exact done_eq rfl)
                                                            | (simp -dsimp [b0]))); (all_goals try with_reducible refine done_eq ?_)
  | cons l ls =>
    have b1 : ls.length ≤ 9223372036854775806 := by simpa using hl
    have b2 : min (1 : Int) ((ls.length : Int) + 1) = 1 := by omega
    have b3 : (1 : Int) ≤ (ls.length : Int) + 1 := by omega
    try simp only [cls_cons, cls_nil] at *
    refine acalls_ex [] Try.func61 (by kernel_rfl) rfl Try.ntmps61 Try.results61 (Nat.le_of_ble_eq_true (by kernel_rfl)) ?_; intro hok w0 S0
    clear hok
    (repeat' (first
                                                            | (with_reducible refine br_d (fun _ => ?_) (fun _ => ?_))
                                                            | (with_reducible refine br_i (fun _ => ?_) (fun _ => ?_))
                                                            | ((with_reducible apply nd_next); (case hx => simp -dsimp [b1, b2, b3]; first | done | with_reducible rfl); (case hid => simp -dsimp [b1, b2, b3]; first | done | with_reducible rfl | exact ⟨rfl, rfl, rfl⟩ | exact ⟨rfl, rfl⟩); (case' h1 => intro _ _ _); (case' h0 => intro _))
                                                            | ((with_reducible apply nd_entry); (case hx => simp -dsimp [b1, b2, b3]; first | done | with_reducible rfl); (case hid => simp -dsimp [b1, b2, b3]; first | done | with_reducible rfl | exact ⟨rfl, rfl, rfl⟩ | exact ⟨rfl, rfl⟩))
                                                            | ((with_reducible apply nd_range); (case hx => simp -dsimp [b1, b2, b3]; with_reducible rfl); (case hT => simp -dsimp [b1, b2, b3]); (case hnd => assumption); (case hz => simp -dsimp [b1, b2, b3]))
                                                            | (with_reducible refine dn_i follows_any (by kernel_rfl) ?_)
                                                            | (with_reducible exact done_eq rfl)
                                                            | (simp -dsimp [b1, b2, b3]))); (all_goals try with_reducible refine done_eq ?_)
def defD : List GV → List GV
  | [] => []
  | d :: _ => if kd (clean d) = 0 then [] else [d]
theorem defaultOf_x (nm : ByteArray) (named : Bool) (name sc : ByteArray) (ls : List LT) (ms : List MT) (rel : ByteArray) (dflt : List GV) (hl : dflt.length ≤ 9223372036854775807) :
    ACalls Try.prog 99 [.agg (cls (ftX nm named name sc ls ms rel dflt))] (fun r => r = .c (.d (oSl 26 ((defD dflt).map gvD)))) := by
  cases dflt with
  | nil =>
    simp only [defD, List.map_nil, oSl]
    try simp only [cls_cons, cls_nil] at *
    refine acalls_ex [] Try.func99 (by kernel_rfl) rfl Try.ntmps99 Try.results99 (Nat.le_of_ble_eq_true (by kernel_rfl)) ?_; intro hok w0 S0
    clear hok
    (repeat' (first
                                                            | (with_reducible refine br_d (fun _ => ?_) (fun _ => ?_))
                                                            | (with_reducible refine br_i (fun _ => ?_) (fun _ => ?_))
                                                            | ((with_reducible apply nd_next); (case hx => simp -dsimp; first | done | with_reducible rfl); (case hid => simp -dsimp; first | done | with_reducible rfl | exact ⟨rfl, rfl, rfl⟩ | exact ⟨rfl, rfl⟩); (case' h1 => intro _ _ _); (case' h0 => intro _))
                                                            | ((with_reducible apply nd_entry); (case hx => simp -dsimp; first | done | with_reducible rfl); (case hid => simp -dsimp; first | done | with_reducible rfl | exact ⟨rfl, rfl, rfl⟩ | exact ⟨rfl, rfl⟩))
                                                            | ((with_reducible apply nd_range); (case hx => simp -dsimp; with_reducible rfl); (case hT => simp -dsimp); (case hnd => assumption); (case hz => simp -dsimp))
                                                            | (with_reducible refine dn_i follows_any (by kernel_rfl) ?_)
                                                            | (with_reducible exact done_eq rfl)
                                                            | (simp -dsimp))); (all_goals try with_reducible refine done_eq ?_)
  | cons d dflt =>
    have b1 : dflt.length ≤ 9223372036854775806 := by simpa using hl
    have b2 : ¬ ((dflt.length : Int) + 1 = 0) := by omega
    have b3 : (1 : Int) ≤ dflt.length + 1 := by omega
    have hc := clean_a d
    obtain ⟨a1, a2, a3, a4, a5, a6, hcl⟩ : ∃ a1 a2 a3 a4 a5 a6, clean d = .mk a1 a2 a3 a4 a5 a6 := by cases clean d; exact ⟨_, _, _, _, _, _, rfl⟩
    rw [hcl, gvA_x] at hc
    simp only [defD, hcl, kd]
    by_cases hk : a1 = 0
    · simp only [hk, if_true, List.map_nil, oSl]
      rw [hk] at hc
      try simp only [cls_cons, cls_nil] at *
      refine acalls_ex [] Try.func99 (by kernel_rfl) rfl Try.ntmps99 Try.results99 (Nat.le_of_ble_eq_true (by kernel_rfl)) ?_; intro hok w0 S0
      clear hok
      (repeat' (first
                                                            | (with_reducible refine br_d (fun _ => ?_) (fun _ => ?_))
                                                            | (with_reducible refine br_i (fun _ => ?_) (fun _ => ?_))
                                                            | (with_reducible refine nd_v (hc) (by first | rfl | (simp -dsimp [b1, b2, b3]; done)) ?_)
                                                            | (with_reducible refine nw_v (hc) rfl (by first | rfl | (simp -dsimp [b1, b2, b3]; done)) (by first | rfl | (simp -dsimp [b1, b2, b3]; done)) ?_)
                                                            | ((with_reducible apply nd_next); (case hx => simp -dsimp [b1, b2, b3]; first | done | with_reducible rfl); (case hid => simp -dsimp [b1, b2, b3]; first | done | with_reducible rfl | exact ⟨rfl, rfl, rfl⟩ | exact ⟨rfl, rfl⟩); (case' h1 => intro _ _ _); (case' h0 => intro _))
                                                            | ((with_reducible apply nd_entry); (case hx => simp -dsimp [b1, b2, b3]; first | done | with_reducible rfl); (case hid => simp -dsimp [b1, b2, b3]; first | done | with_reducible rfl | exact ⟨rfl, rfl, rfl⟩ | exact ⟨rfl, rfl⟩))
                                                            | ((with_reducible apply nd_range); (case hx => simp -dsimp [b1, b2, b3]; with_reducible rfl); (case hT => simp -dsimp [b1, b2, b3]); (case hnd => assumption); (case hz => simp -dsimp [b1, b2, b3]))
                                                            | (with_reducible refine dn_i follows_any (by kernel_rfl) ?_)
                                                            | (with_reducible exact done_eq rfl)
                                                            | (simp -dsimp [b1, b2, b3]))); (all_goals try with_reducible refine done_eq ?_)
    · simp only [hk, if_false, List.map_cons, List.map_nil, oSl]
      try simp only [cls_cons, cls_nil] at *
      refine acalls_ex [] Try.func99 (by kernel_rfl) rfl Try.ntmps99 Try.results99 (Nat.le_of_ble_eq_true (by kernel_rfl)) ?_; intro hok w0 S0
      clear hok
      (repeat' (first
                                                            | (with_reducible refine br_d (fun _ => ?_) (fun _ => ?_))
                                                            | (with_reducible refine br_i (fun _ => ?_) (fun _ => ?_))
                                                            | (with_reducible refine nd_v (hc) (by first | rfl | (simp -dsimp [b1, b2, b3, hk]; done)) ?_)
                                                            | (with_reducible refine nw_v (hc) rfl (by first | rfl | (simp -dsimp [b1, b2, b3, hk]; done)) (by first | rfl | (simp -dsimp [b1, b2, b3, hk]; done)) ?_)
                                                            | ((with_reducible apply nd_next); (case hx => simp -dsimp [b1, b2, b3, hk]; first | done | with_reducible rfl); (case hid => simp -dsimp [b1, b2, b3, hk]; first | done | with_reducible rfl | exact ⟨rfl, rfl, rfl⟩ | exact ⟨rfl, rfl⟩); (case' h1 => intro _ _ _); (case' h0 => intro _))
                                                            | ((with_reducible apply nd_entry); (case hx => simp -dsimp [b1, b2, b3, hk]; first | done | with_reducible rfl); (case hid => simp -dsimp [b1, b2, b3, hk]; first | done | with_reducible rfl | exact ⟨rfl, rfl, rfl⟩ | exact ⟨rfl, rfl⟩))
                                                            | ((with_reducible apply nd_range); (case hx => simp -dsimp [b1, b2, b3, hk]; with_reducible rfl); (case hT => simp -dsimp [b1, b2, b3, hk]); (case hnd => assumption); (case hz => simp -dsimp [b1, b2, b3, hk]))
                                                            | (with_reducible refine dn_i follows_any (by kernel_rfl) ?_)
                                                            | (with_reducible exact done_eq rfl)
                                                            | (simp -dsimp [b1, b2, b3, hk]))); (all_goals try with_reducible refine done_eq ?_)
theorem clean_kd (d : GV) : kd (clean d) = 0 ↔ isNilT (treeOf d) = true := by
  obtain ⟨k, n, f, s, ks, l⟩ := d
  simp only [clean, treeOf]
  by_cases h1 : k = 1
  · simp [h1, kd, isNilT]
  · by_cases h2 : k = 2
    · simp [h2, kd, isNilT]
    · by_cases h3 : k = 3
      · simp [h3, kd, isNilT]
      · by_cases h4 : k = 4
        · simp [h4, kd, isNilT]
        · by_cases h5 : k = 5
          · simp [h5, kd, isNilT]
          · by_cases h6 : k = 6
            · simp [h6, kd, isNilT, mkMap]
            · simp [h1, h2, h3, h4, h5, h6, kd, isNilT]
abbrev ARef (r : RF) : Prop := ACalls Try.prog 34 [.agg (cls (rfD (nR r))), .agg (cls (rfD r)), fS] (fun x => x = aV (.bool true))
abbrev AAtom (a : AT) : Prop := ACalls Try.prog 70 [.agg (cls (atD (nA a))), .agg (cls (atD a)), fS] (fun x => x = aV (.bool true))
abbrev AField (f : FT) : Prop := ACalls Try.prog 66 [.agg (cls (ftD (nF f))), .agg (cls (ftD f)), fS] (fun x => x = aV (.bool true))
theorem refsAlike_s (named : Bool) (name : ByteArray) (a : AT) (rel : ByteArray) (h : AAtom a) : ARef (.mk named name a rel) := by
  obtain ⟨sc, ls, ms⟩ := a
  unfold ARef
  unfold AAtom at h
  rw [atD_x] at h
  cases named
  · have e2 : rfD (nR (.mk false name (.mk sc ls ms) rel)) = rfX false ⟨#[]⟩ sc (nLs ls) (nMs ms) rel := by simp only [nR, Bool.false_eq_true, if_false, nA, rfD_x]
    rw [e2, rfD_x]
    simp only [nA, atD_x] at h
    try simp only [cls_cons, cls_nil] at *
    refine acalls_ex [] Try.func34 (by kernel_rfl) rfl Try.ntmps34 Try.results34 (Nat.le_of_ble_eq_true (by kernel_rfl)) ?_; intro hok w0 S0
    clear hok
    (repeat' (first
                                                            | (with_reducible refine br_d (fun _ => ?_) (fun _ => ?_))
                                                            | (with_reducible refine br_i (fun _ => ?_) (fun _ => ?_))
                                                            | (with_reducible refine nd_v (h) (by first | rfl | (simp -dsimp [ctys_same]; done)) ?_)
                                                            | (with_reducible refine nw_v (h) rfl (by first | rfl | (simp -dsimp [ctys_same]; done)) (by first | rfl | (simp -dsimp [ctys_same]; done)) ?_)
                                                            | ((with_reducible apply nd_next); (case hx => simp -dsimp [ctys_same]; first | done | with_reducible rfl); (case hid => simp -dsimp [ctys_same]; first | done | with_reducible rfl | exact ⟨rfl, rfl, rfl⟩ | exact ⟨rfl, rfl⟩); (case' h1 => intro _ _ _); (case' h0 => intro _))
                                                            | ((with_reducible apply nd_entry); (case hx => simp -dsimp [ctys_same]; first | done | with_reducible rfl); (case hid => simp -dsimp [ctys_same]; first | done | with_reducible rfl | exact ⟨rfl, rfl, rfl⟩ | exact ⟨rfl, rfl⟩))
                                                            | ((with_reducible apply nd_range); (case hx => simp -dsimp [ctys_same]; with_reducible rfl); (case hT => simp -dsimp [ctys_same]); (case hnd => assumption); (case hz => simp -dsimp [ctys_same]))
                                                            | (with_reducible refine dn_i follows_any (by kernel_rfl) ?_)
                                                            | (with_reducible exact done_eq rfl)
                                                            | (simp -dsimp [ctys_same]))); (all_goals try with_reducible refine done_eq ?_)
  · have e2 : rfD (nR (.mk true name (.mk sc ls ms) rel)) = rfX true name ⟨#[]⟩ [] [] rel := by simp only [nR, if_true, rfD_x]
    rw [e2, rfD_x]
    try simp only [cls_cons, cls_nil] at *
    refine acalls_ex [] Try.func34 (by kernel_rfl) rfl Try.ntmps34 Try.results34 (Nat.le_of_ble_eq_true (by kernel_rfl)) ?_; intro hok w0 S0
    clear hok
    (repeat' (first
                                                            | (with_reducible refine br_d (fun _ => ?_) (fun _ => ?_))
                                                            | (with_reducible refine br_i (fun _ => ?_) (fun _ => ?_))
                                                            | (with_reducible refine nd_v (h) (by first | rfl | (simp -dsimp [ctys_same]; done)) ?_)
                                                            | (with_reducible refine nw_v (h) rfl (by first | rfl | (simp -dsimp [ctys_same]; done)) (by first | rfl | (simp -dsimp [ctys_same]; done)) ?_)
                                                            | ((with_reducible apply nd_next); (case hx => simp -dsimp [ctys_same]; first | done | with_reducible rfl); (case hid => simp -dsimp [ctys_same]; first | done | with_reducible rfl | exact ⟨rfl, rfl, rfl⟩ | exact ⟨rfl, rfl⟩); (case' h1 => intro _ _ _); (case' h0 => intro _))
                                                            | ((with_reducible apply nd_entry); (case hx => simp -dsimp [ctys_same]; first | done | with_reducible rfl); (case hid => simp -dsimp [ctys_same]; first | done | with_reducible rfl | exact ⟨rfl, rfl, rfl⟩ | exact ⟨rfl, rfl⟩))
                                                            | ((with_reducible apply nd_range); (case hx => simp -dsimp [ctys_same]; with_reducible rfl); (case hT => simp -dsimp [ctys_same]); (case hnd => assumption); (case hz => simp -dsimp [ctys_same]))
                                                            | (with_reducible refine dn_i follows_any (by kernel_rfl) ?_)
                                                            | (with_reducible exact done_eq rfl)
                                                            | (simp -dsimp [ctys_same]))); (all_goals try with_reducible refine done_eq ?_)
theorem fieldsAlike_s (nm : ByteArray) (r : RF) (dflt : List GV) (h : ARef r) (hl : dflt.length ≤ 9223372036854775807) : AField (.mk nm r dflt) := by
  obtain ⟨named1, name1, sc1, ls1, ms1, rel1, en1⟩ : ∃ named name sc2 ls2 ms2 rel, nR r = .mk named name (.mk sc2 ls2 ms2) rel := by
    obtain ⟨named, name, ⟨sc2, ls2, ms2⟩, rel⟩ := nR r
    exact ⟨_, _, _, _, _, _, rfl⟩
  obtain ⟨named, name, ⟨sc, ls, ms⟩, rel⟩ := r
  unfold AField
  unfold ARef at h
  rw [en1, rfD_x, rfD_x] at h
  simp only [nF, en1, ftD_x]
  have hl2 : (nD dflt).length ≤ 9223372036854775807 := by
    cases dflt with
    | nil => simp [nD]
    | cons d l => simp only [nD]; split <;> simp
  have d1 := defaultOf_x nm named1 name1 sc1 ls1 ms1 rel1 (nD dflt) hl2
  have d2 := defaultOf_x nm named name sc ls ms rel dflt hl
  cases dflt with
  | nil =>
    simp only [nD, defD, List.map_nil, oSl] at d1 d2 ⊢
    try simp only [cls_cons, cls_nil] at *
    refine acalls_ex [(1, ([3], [(0, []), (2, []), (1, []), (3, []), (4, []), (5, [])])), (4, ([11], [(0, []), (1, []), (2, []), (3, []), (4, []), (5, []), (6, []), (7, []), (8, []), (9, []), (10, []), (11, []), (12, []), (13, [])]))] Try.func66 (by kernel_rfl) rfl Try.ntmps66 Try.results66 (Nat.le_of_ble_eq_true (by kernel_rfl)) ?_; intro hok w0 S0
    clear hok
    (repeat' (first
                                                            | (with_reducible refine br_d (fun _ => ?_) (fun _ => ?_))
                                                            | (with_reducible refine br_i (fun _ => ?_) (fun _ => ?_))
                                                            | (with_reducible refine nd_v (d1) (by first | rfl | (simp -dsimp [ctys_same]; done)) ?_)
                                                            | (with_reducible refine nw_v (d1) rfl (by first | rfl | (simp -dsimp [ctys_same]; done)) (by first | rfl | (simp -dsimp [ctys_same]; done)) ?_)
                                                            | (with_reducible refine nd_v (d2) (by first | rfl | (simp -dsimp [ctys_same]; done)) ?_)
                                                            | (with_reducible refine nw_v (d2) rfl (by first | rfl | (simp -dsimp [ctys_same]; done)) (by first | rfl | (simp -dsimp [ctys_same]; done)) ?_)
                                                            | (with_reducible refine nd_v (h) (by first | rfl | (simp -dsimp [ctys_same]; done)) ?_)
                                                            | (with_reducible refine nw_v (h) rfl (by first | rfl | (simp -dsimp [ctys_same]; done)) (by first | rfl | (simp -dsimp [ctys_same]; done)) ?_)
                                                            | ((with_reducible apply nd_next); (case hx => simp -dsimp [ctys_same]; first | done | with_reducible rfl); (case hid => simp -dsimp [ctys_same]; first | done | with_reducible rfl | exact ⟨rfl, rfl, rfl⟩ | exact ⟨rfl, rfl⟩); (case' h1 => intro _ _ _); (case' h0 => intro _))
                                                            | ((with_reducible apply nd_entry); (case hx => simp -dsimp [ctys_same]; first | done | with_reducible rfl); (case hid => simp -dsimp [ctys_same]; first | done | with_reducible rfl | exact ⟨rfl, rfl, rfl⟩ | exact ⟨rfl, rfl⟩))
                                                            | ((with_reducible apply nd_range); (case hx => simp -dsimp [ctys_same]; with_reducible rfl); (case hT => simp -dsimp [ctys_same]); (case hnd => assumption); (case hz => simp -dsimp [ctys_same]))
                                                            | (with_reducible refine dn_i follows_any (by kernel_rfl) ?_)
                                                            | (with_reducible exact done_eq rfl)
                                                            | (simp -dsimp [ctys_same]))); (all_goals try with_reducible refine done_eq ?_)
  | cons d dflt =>
    by_cases hn : isNilT (treeOf d) = true
    · have hk := (clean_kd d).2 hn
      simp only [nD, defD, hn, hk, if_true, List.map_nil, oSl] at d1 d2 ⊢
      try simp only [cls_cons, cls_nil] at *
      refine acalls_ex [(1, ([3], [(0, []), (2, []), (1, []), (3, []), (4, []), (5, [])])), (4, ([11], [(0, []), (1, []), (2, []), (3, []), (4, []), (5, []), (6, []), (7, []), (8, []), (9, []), (10, []), (11, []), (12, []), (13, [])]))] Try.func66 (by kernel_rfl) rfl Try.ntmps66 Try.results66 (Nat.le_of_ble_eq_true (by kernel_rfl)) ?_; intro hok w0 S0
      clear hok
      (repeat' (first
                                                            | (with_reducible refine br_d (fun _ => ?_) (fun _ => ?_))
                                                            | (with_reducible refine br_i (fun _ => ?_) (fun _ => ?_))
                                                            | (with_reducible refine nd_v (d1) (by first | rfl | (simp -dsimp [ctys_same]; done)) ?_)
                                                            | (with_reducible refine nw_v (d1) rfl (by first | rfl | (simp -dsimp [ctys_same]; done)) (by first | rfl | (simp -dsimp [ctys_same]; done)) ?_)
                                                            | (with_reducible refine nd_v (d2) (by first | rfl | (simp -dsimp [ctys_same]; done)) ?_)
                                                            | (with_reducible refine nw_v (d2) rfl (by first | rfl | (simp -dsimp [ctys_same]; done)) (by first | rfl | (simp -dsimp [ctys_same]; done)) ?_)
                                                            | (with_reducible refine nd_v (h) (by first | rfl | (simp -dsimp [ctys_same]; done)) ?_)
                                                            | (with_reducible refine nw_v (h) rfl (by first | rfl | (simp -dsimp [ctys_same]; done)) (by first | rfl | (simp -dsimp [ctys_same]; done)) ?_)
                                                            | ((with_reducible apply nd_next); (case hx => simp -dsimp [ctys_same]; first | done | with_reducible rfl); (case hid => simp -dsimp [ctys_same]; first | done | with_reducible rfl | exact ⟨rfl, rfl, rfl⟩ | exact ⟨rfl, rfl⟩); (case' h1 => intro _ _ _); (case' h0 => intro _))
                                                            | ((with_reducible apply nd_entry); (case hx => simp -dsimp [ctys_same]; first | done | with_reducible rfl); (case hid => simp -dsimp [ctys_same]; first | done | with_reducible rfl | exact ⟨rfl, rfl, rfl⟩ | exact ⟨rfl, rfl⟩))
                                                            | ((with_reducible apply nd_range); (case hx => simp -dsimp [ctys_same]; with_reducible rfl); (case hT => simp -dsimp [ctys_same]); (case hnd => assumption); (case hz => simp -dsimp [ctys_same]))
                                                            | (with_reducible refine dn_i follows_any (by kernel_rfl) ?_)
                                                            | (with_reducible exact done_eq rfl)
                                                            | (simp -dsimp [ctys_same]))); (all_goals try with_reducible refine done_eq ?_)
    · have hk : ¬ kd (clean d) = 0 := fun e => hn ((clean_kd d).1 e)
      have hs := sameValue_a (clean d) d (clean_idem d)
      simp only [nD, defD, hn, hk, if_false, clean_idem, Bool.false_eq_true, List.map_cons, List.map_nil, oSl] at d1 d2 ⊢
      try simp only [cls_cons, cls_nil] at *
      refine acalls_ex [(1, ([3], [(0, []), (2, []), (1, []), (3, []), (4, []), (5, [])])), (4, ([11], [(0, []), (1, []), (2, []), (3, []), (4, []), (5, []), (6, []), (7, []), (8, []), (9, []), (10, []), (11, []), (12, []), (13, [])]))] Try.func66 (by kernel_rfl) rfl Try.ntmps66 Try.results66 (Nat.le_of_ble_eq_true (by kernel_rfl)) ?_; intro hok w0 S0
      clear hok
      (repeat' (first
                                                            | (with_reducible refine br_d (fun _ => ?_) (fun _ => ?_))
                                                            | (with_reducible refine br_i (fun _ => ?_) (fun _ => ?_))
                                                            | (with_reducible refine nd_v (d1) (by first | rfl | (simp -dsimp [ctys_same]; done)) ?_)
                                                            | (with_reducible refine nw_v (d1) rfl (by first | rfl | (simp -dsimp [ctys_same]; done)) (by first | rfl | (simp -dsimp [ctys_same]; done)) ?_)
                                                            | (with_reducible refine nd_v (d2) (by first | rfl | (simp -dsimp [ctys_same]; done)) ?_)
                                                            | (with_reducible refine nw_v (d2) rfl (by first | rfl | (simp -dsimp [ctys_same]; done)) (by first | rfl | (simp -dsimp [ctys_same]; done)) ?_)
                                                            | (with_reducible refine nd_v (h) (by first | rfl | (simp -dsimp [ctys_same]; done)) ?_)
                                                            | (with_reducible refine nw_v (h) rfl (by first | rfl | (simp -dsimp [ctys_same]; done)) (by first | rfl | (simp -dsimp [ctys_same]; done)) ?_)
                                                            | (with_reducible refine nd_v (hs) (by first | rfl | (simp -dsimp [ctys_same]; done)) ?_)
                                                            | (with_reducible refine nw_v (hs) rfl (by first | rfl | (simp -dsimp [ctys_same]; done)) (by first | rfl | (simp -dsimp [ctys_same]; done)) ?_)
                                                            | ((with_reducible apply nd_next); (case hx => simp -dsimp [ctys_same]; first | done | with_reducible rfl); (case hid => simp -dsimp [ctys_same]; first | done | with_reducible rfl | exact ⟨rfl, rfl, rfl⟩ | exact ⟨rfl, rfl⟩); (case' h1 => intro _ _ _); (case' h0 => intro _))
                                                            | ((with_reducible apply nd_entry); (case hx => simp -dsimp [ctys_same]; first | done | with_reducible rfl); (case hid => simp -dsimp [ctys_same]; first | done | with_reducible rfl | exact ⟨rfl, rfl, rfl⟩ | exact ⟨rfl, rfl⟩))
                                                            | ((with_reducible apply nd_range); (case hx => simp -dsimp [ctys_same]; with_reducible rfl); (case hT => simp -dsimp [ctys_same]); (case hnd => assumption); (case hz => simp -dsimp [ctys_same]))
                                                            | (with_reducible refine dn_i follows_any (by kernel_rfl) ?_)
                                                            | (with_reducible exact done_eq rfl)
                                                            | (simp -dsimp [ctys_same]))); (all_goals try with_reducible refine done_eq ?_)
theorem nLs_take (ls : List LT) : (nLs ls).take 1 = (ls.take 1).map nL := by cases ls <;> simp [nLs]
theorem nMs_take (ls : List MT) : (nMs ls).take 1 = (ls.take 1).map nM := by cases ls <;> simp [nMs]
theorem nLs_len (ls : List LT) : (nLs ls).length ≤ 1 := by cases ls <;> simp [nLs]
theorem nMs_len (ls : List MT) : (nMs ls).length ≤ 1 := by cases ls <;> simp [nMs]
theorem atomsAlike_s (sc : ByteArray) (ls : List LT) (ms : List MT) (hl : ∀ l ∈ ls, ∀ e rel keys, l = .mk e rel keys → ARef e ∧ keys.length * 16 ≤ 140737488351232) (hm : ∀ m ∈ ms, ∀ fs e rel, m = .mk fs e rel → ARef e ∧ fs.length * 144 ≤ 140737488351232 ∧ ∀ f ∈ fs, AField f)
    (b1 : ls.length ≤ 9223372036854775807) (b2 : ms.length ≤ 9223372036854775807) : AAtom (.mk sc ls ms) := by
  unfold AAtom
  simp only [nA, atD_x]
  have f1 := firstList_x sc (nLs ls) (nMs ms) (by have := nLs_len ls; omega)
  have f2 := firstList_x sc ls ms b1
  have f3 := firstMap_x sc (nLs ls) (nMs ms) (by have := nMs_len ms; omega)
  have f4 := firstMap_x sc ls ms b2
  obtain ⟨LS, hLS⟩ : ∃ LS, LS = ls.take 1 := ⟨_, rfl⟩
  obtain ⟨MS, hMS⟩ : ∃ MS, MS = ms.take 1 := ⟨_, rfl⟩
  rw [nLs_take, ← hLS] at f1
  rw [← hLS] at f2
  rw [nMs_take, ← hMS] at f3
  rw [← hMS] at f4
  have l1 : LS.length ≤ 1 := by rw [hLS]; simp; omega
  have l2 : MS.length ≤ 1 := by rw [hMS]; simp; omega
  have hl : ∀ l ∈ LS, ∀ e rel keys, l = .mk e rel keys → ARef e ∧ keys.length * 16 ≤ 140737488351232 := fun l h => hl l (List.mem_of_mem_take (hLS ▸ h))
  have hm : ∀ m ∈ MS, ∀ fs e rel, m = .mk fs e rel → ARef e ∧ fs.length * 144 ≤ 140737488351232 ∧ ∀ f ∈ fs, AField f := fun m h => hm m (List.mem_of_mem_take (hMS ▸ h))
  clear hLS hMS
  have c1 : LS.length ≤ 9223372036854775807 := by omega
  have c2 : MS.length ≤ 9223372036854775807 := by omega
  have g1 : dLTs (LS.map nL) = .sl 99 (LS.map (ltD ∘ nL)) := by simp only [dLTs, List.map_map]
  have g2 : dMTs (MS.map nM) = .sl 40 (MS.map (mtD ∘ nM)) := by simp only [dMTs, List.map_map]
  rw [g1] at f1
  rw [g2] at f3
  try simp only [cls_cons, cls_nil] at *
  refine acalls_ex [(1, ([7], [(0, []), (2, []), (4, []), (6, []), (1, []), (3, []), (5, []), (7, []), (8, []), (9, []), (10, []), (11, [])])), (7, ([22, 37], [(0, []), (1, []), (2, []), (3, []), (4, []), (5, []), (6, []), (7, []), (8, []), (9, []), (10, []), (11, []), (12, []), (13, []), (14, []), (15, []), (16, []), (17, []), (18, []), (19, []), (20, []), (21, []), (22, []), (23, []), (24, []), (25, []), (26, []), (27, []), (28, []), (29, []), (30, []), (31, []), (32, []), (33, []), (34, []), (35, []), (36, []), (37, []), (38, []), (39, [])])), (13, ([38], [(0, []), (1, []), (2, []), (3, []), (4, []), (5, []), (6, []), (7, []), (8, []), (9, []), (10, []), (11, []), (12, []), (13, []), (14, []), (15, []), (16, []), (17, []), (18, []), (19, []), (20, []), (21, []), (22, []), (23, []), (24, []), (25, []), (26, []), (27, []), (28, []), (29, []), (30, []), (31, []), (32, []), (33, []), (34, []), (35, []), (36, []), (37, []), (38, []), (39, []), (40, [])])), (18, ([17], [(0, []), (1, []), (2, []), (3, []), (4, []), (5, []), (6, []), (7, []), (8, []), (9, []), (10, []), (11, []), (12, []), (13, []), (14, []), (15, []), (16, []), (17, []), (18, [])]))] Try.func70 (by kernel_rfl) rfl Try.ntmps70 Try.results70 (Nat.le_of_ble_eq_true (by kernel_rfl)) ?_; intro hok w0 S0
  clear hok
  (repeat' (first
                                                            | (with_reducible refine br_d (fun _ => ?_) (fun _ => ?_))
                                                            | (with_reducible refine br_i (fun _ => ?_) (fun _ => ?_))
                                                            | (with_reducible refine nd_v (f1) (by first | rfl | (simp -dsimp [ctys_same, c1, c2]; done)) ?_)
                                                            | (with_reducible refine nw_v (f1) rfl (by first | rfl | (simp -dsimp [ctys_same, c1, c2]; done)) (by first | rfl | (simp -dsimp [ctys_same, c1, c2]; done)) ?_)
                                                            | (with_reducible refine nd_v (f2) (by first | rfl | (simp -dsimp [ctys_same, c1, c2]; done)) ?_)
                                                            | (with_reducible refine nw_v (f2) rfl (by first | rfl | (simp -dsimp [ctys_same, c1, c2]; done)) (by first | rfl | (simp -dsimp [ctys_same, c1, c2]; done)) ?_)
                                                            | (with_reducible refine nd_v (f3) (by first | rfl | (simp -dsimp [ctys_same, c1, c2]; done)) ?_)
                                                            | (with_reducible refine nw_v (f3) rfl (by first | rfl | (simp -dsimp [ctys_same, c1, c2]; done)) (by first | rfl | (simp -dsimp [ctys_same, c1, c2]; done)) ?_)
                                                            | (with_reducible refine nd_v (f4) (by first | rfl | (simp -dsimp [ctys_same, c1, c2]; done)) ?_)
                                                            | (with_reducible refine nw_v (f4) rfl (by first | rfl | (simp -dsimp [ctys_same, c1, c2]; done)) (by first | rfl | (simp -dsimp [ctys_same, c1, c2]; done)) ?_)
                                                            | ((with_reducible apply nd_next); (case hx => simp -dsimp [ctys_same, c1, c2]; first | done | with_reducible rfl); (case hid => simp -dsimp [ctys_same, c1, c2]; first | done | with_reducible rfl | exact ⟨rfl, rfl, rfl⟩ | exact ⟨rfl, rfl⟩); (case' h1 => intro _ _ _); (case' h0 => intro _))
                                                            | ((with_reducible apply nd_entry); (case hx => simp -dsimp [ctys_same, c1, c2]; first | done | with_reducible rfl); (case hid => simp -dsimp [ctys_same, c1, c2]; first | done | with_reducible rfl | exact ⟨rfl, rfl, rfl⟩ | exact ⟨rfl, rfl⟩))
                                                            | ((with_reducible apply nd_range); (case hx => simp -dsimp [ctys_same, c1, c2]; with_reducible rfl); (case hT => simp -dsimp [ctys_same, c1, c2]); (case hnd => assumption); (case hz => simp -dsimp [ctys_same, c1, c2]))
                                                            | (with_reducible refine dn_i follows_any (by kernel_rfl) ?_)
                                                            | (with_reducible exact done_eq rfl)
                                                            | (simp -dsimp [ctys_same, c1, c2]))); (all_goals try with_reducible refine done_eq ?_)
  refine ex_loop (fun i : Nat => ⟨[(2, fS), (7, .c (.d (.sl 99 (LS.map (ltD ∘ nL))))), (8, .c (.d (dLTs LS))), (9, .c (.d (.sl 40 (MS.map (mtD ∘ nM))))), (10, .c (.d (dMTs MS))), (42, aI LS.length), (43, aI i)], []⟩) (fun i => i ≤ LS.length) (fun i => LS.length - i) 0 ?_ (Nat.zero_le _) ?_
  · exact Weak.same (by simp -dsimp) (by simp -dsimp) (by first | rfl | (simp [closedSt, Av.ids, Ow.ids, Cl.ids, Go.Smd.keys]; done))
  · rintro i hi K hK
    by_cases hlt : i < LS.length
    · have hw : IntKind.wrap .i64 ((i : Int) + 1) = ((i + 1 : Nat) : Int) := by rw [wrap_i64] <;> omega
      obtain ⟨l, hli⟩ : ∃ l, LS[i] = l := ⟨_, rfl⟩
      have hmem : l ∈ LS := hli ▸ List.getElem_mem hlt
      obtain ⟨e, rel0, keys⟩ := l
      obtain ⟨he, hk⟩ := hl _ hmem e rel0 keys rfl
      have hss := sameStrings_a keys (by omega)
      obtain ⟨named1, name1, sc1, ls1, ms1, rel1, en1⟩ : ∃ named name sc2 ls2 ms2 rel, nR e = .mk named name (.mk sc2 ls2 ms2) rel := by
        obtain ⟨named, name, ⟨sc2, ls2, ms2⟩, rel⟩ := nR e
        exact ⟨_, _, _, _, _, _, rfl⟩
      have e1 : ltD (nL LS[i]) = ltX named1 name1 sc1 ls1 ms1 rel1 rel0 keys := by rw [hli]; simp only [nL, en1, ltD_x]
      obtain ⟨named, name, ⟨sc', ls', ms'⟩, rel'⟩ := e
      have e2 : ltD LS[i] = ltX named name sc' ls' ms' rel' rel0 keys := by rw [hli, ltD_x]
      unfold ARef at he
      rw [en1, rfD_x, rfD_x] at he
      simp only [cls_cons, cls_nil] at he
      (repeat' (first
                                                            | (with_reducible refine br_d (fun _ => ?_) (fun _ => ?_))
                                                            | (with_reducible refine br_i (fun _ => ?_) (fun _ => ?_))
                                                            | (with_reducible refine nd_v (hss) (by first | rfl | (simp -dsimp [ctys_same, c1, hlt, hw, e1, e2]; done)) ?_)
                                                            | (with_reducible refine nw_v (hss) rfl (by first | rfl | (simp -dsimp [ctys_same, c1, hlt, hw, e1, e2]; done)) (by first | rfl | (simp -dsimp [ctys_same, c1, hlt, hw, e1, e2]; done)) ?_)
                                                            | (with_reducible refine nd_v (he) (by first | rfl | (simp -dsimp [ctys_same, c1, hlt, hw, e1, e2]; done)) ?_)
                                                            | (with_reducible refine nw_v (he) rfl (by first | rfl | (simp -dsimp [ctys_same, c1, hlt, hw, e1, e2]; done)) (by first | rfl | (simp -dsimp [ctys_same, c1, hlt, hw, e1, e2]; done)) ?_)
                                                            | ((with_reducible apply nd_next); (case hx => simp -dsimp [ctys_same, c1, hlt, hw, e1, e2]; first | done | with_reducible rfl); (case hid => simp -dsimp [ctys_same, c1, hlt, hw, e1, e2]; first | done | with_reducible rfl | exact ⟨rfl, rfl, rfl⟩ | exact ⟨rfl, rfl⟩); (case' h1 => intro _ _ _); (case' h0 => intro _))
                                                            | ((with_reducible apply nd_entry); (case hx => simp -dsimp [ctys_same, c1, hlt, hw, e1, e2]; first | done | with_reducible rfl); (case hid => simp -dsimp [ctys_same, c1, hlt, hw, e1, e2]; first | done | with_reducible rfl | exact ⟨rfl, rfl, rfl⟩ | exact ⟨rfl, rfl⟩))
                                                            | ((with_reducible apply nd_range); (case hx => simp -dsimp [ctys_same, c1, hlt, hw, e1, e2]; with_reducible rfl); (case hT => simp -dsimp [ctys_same, c1, hlt, hw, e1, e2]); (case hnd => assumption); (case hz => simp -dsimp [ctys_same, c1, hlt, hw, e1, e2]))
                                                            | (with_reducible refine dn_i follows_any (by kernel_rfl) ?_)
                                                            | (with_reducible exact done_eq rfl)
                                                            | (simp -dsimp [ctys_same, c1, hlt, hw, e1, e2]))); (all_goals try with_reducible refine done_eq ?_)
      refine hK _ (i + 1) ?_ (by omega) (by omega)
      exact Weak.same (by simp -dsimp) (by simp -dsimp) (by first | rfl | (simp [closedSt, Av.ids, Ow.ids, Cl.ids, Go.Smd.keys]; done))
    · (repeat' (first
                                                            | (with_reducible refine br_d (fun _ => ?_) (fun _ => ?_))
                                                            | (with_reducible refine br_i (fun _ => ?_) (fun _ => ?_))
                                                            | ((with_reducible apply nd_next); (case hx => simp -dsimp [ctys_same, hlt, c2]; first | done | with_reducible rfl); (case hid => simp -dsimp [ctys_same, hlt, c2]; first | done | with_reducible rfl | exact ⟨rfl, rfl, rfl⟩ | exact ⟨rfl, rfl⟩); (case' h1 => intro _ _ _); (case' h0 => intro _))
                                                            | ((with_reducible apply nd_entry); (case hx => simp -dsimp [ctys_same, hlt, c2]; first | done | with_reducible rfl); (case hid => simp -dsimp [ctys_same, hlt, c2]; first | done | with_reducible rfl | exact ⟨rfl, rfl, rfl⟩ | exact ⟨rfl, rfl⟩))
                                                            | ((with_reducible apply nd_range); (case hx => simp -dsimp [ctys_same, hlt, c2]; with_reducible rfl); (case hT => simp -dsimp [ctys_same, hlt, c2]); (case hnd => assumption); (case hz => simp -dsimp [ctys_same, hlt, c2]))
                                                            | (with_reducible refine dn_i follows_any (by kernel_rfl) ?_)
                                                            | (with_reducible exact done_eq rfl)
                                                            | (simp -dsimp [ctys_same, hlt, c2]))); (all_goals try with_reducible refine done_eq ?_)
      refine ex_loop (fun i : Nat => ⟨[(2, fS), (9, .c (.d (.sl 40 (MS.map (mtD ∘ nM))))), (10, .c (.d (dMTs MS))), (88, aI MS.length), (89, aI i)], []⟩) (fun i => i ≤ MS.length) (fun i => MS.length - i) 0 ?_ (Nat.zero_le _) ?_
      · exact Weak.same (by simp -dsimp) (by simp -dsimp) (by first | rfl | (simp [closedSt, Av.ids, Ow.ids, Cl.ids, Go.Smd.keys]; done))
      · rintro i hi K hK
        by_cases hlt : i < MS.length
        · have hw : IntKind.wrap .i64 ((i : Int) + 1) = ((i + 1 : Nat) : Int) := by rw [wrap_i64] <;> omega
          obtain ⟨m, hmi⟩ : ∃ m, MS[i] = m := ⟨_, rfl⟩
          have hmem : m ∈ MS := hmi ▸ List.getElem_mem hlt
          obtain ⟨fs, e, rel0⟩ := m
          obtain ⟨he, hfl, hf⟩ := hm _ hmem fs e rel0 rfl
          obtain ⟨named1, name1, sc1, ls1, ms1, rel1, en1⟩ : ∃ named name sc2 ls2 ms2 rel, nR e = .mk named name (.mk sc2 ls2 ms2) rel := by
            obtain ⟨named, name, ⟨sc2, ls2, ms2⟩, rel⟩ := nR e
            exact ⟨_, _, _, _, _, _, rfl⟩
          have e1 : mtD (nM MS[i]) = [.sl 44 (fs.map (ftD ∘ nF)), dB named1, dS name1, dS sc1, dLTs ls1, dMTs ms1, dS rel1, dS rel0] := by
            rw [hmi]; simp only [nM, en1, mtD_x, mtX, dFTs, nFs_eq, List.map_map]
          obtain ⟨named, name, ⟨sc', ls', ms'⟩, rel'⟩ := e
          have e2 : mtD MS[i] = mtX fs named name sc' ls' ms' rel' rel0 := by rw [hmi, mtD_x]
          unfold ARef at he
          rw [en1, rfD_x, rfD_x] at he
          simp only [cls_cons, cls_nil] at he
          have c3 : fs.length ≤ 9223372036854775807 := by omega
          (repeat' (first
                                                            | (with_reducible refine br_d (fun _ => ?_) (fun _ => ?_))
                                                            | (with_reducible refine br_i (fun _ => ?_) (fun _ => ?_))
                                                            | (with_reducible refine nd_v (he) (by first | rfl | (simp -dsimp [ctys_same, c2, hlt, hw, e1, e2, c3]; done)) ?_)
                                                            | (with_reducible refine nw_v (he) rfl (by first | rfl | (simp -dsimp [ctys_same, c2, hlt, hw, e1, e2, c3]; done)) (by first | rfl | (simp -dsimp [ctys_same, c2, hlt, hw, e1, e2, c3]; done)) ?_)
                                                            | ((with_reducible apply nd_next); (case hx => simp -dsimp [ctys_same, c2, hlt, hw, e1, e2, c3]; first | done | with_reducible rfl); (case hid => simp -dsimp [ctys_same, c2, hlt, hw, e1, e2, c3]; first | done | with_reducible rfl | exact ⟨rfl, rfl, rfl⟩ | exact ⟨rfl, rfl⟩); (case' h1 => intro _ _ _); (case' h0 => intro _))
                                                            | ((with_reducible apply nd_entry); (case hx => simp -dsimp [ctys_same, c2, hlt, hw, e1, e2, c3]; first | done | with_reducible rfl); (case hid => simp -dsimp [ctys_same, c2, hlt, hw, e1, e2, c3]; first | done | with_reducible rfl | exact ⟨rfl, rfl, rfl⟩ | exact ⟨rfl, rfl⟩))
                                                            | ((with_reducible apply nd_range); (case hx => simp -dsimp [ctys_same, c2, hlt, hw, e1, e2, c3]; with_reducible rfl); (case hT => simp -dsimp [ctys_same, c2, hlt, hw, e1, e2, c3]); (case hnd => assumption); (case hz => simp -dsimp [ctys_same, c2, hlt, hw, e1, e2, c3]))
                                                            | (with_reducible refine dn_i follows_any (by kernel_rfl) ?_)
                                                            | (with_reducible exact done_eq rfl)
                                                            | (simp -dsimp [ctys_same, c2, hlt, hw, e1, e2, c3]))); (all_goals try with_reducible refine done_eq ?_)
          refine ex_loop (fun j : Nat => ⟨[(2, fS), (9, .c (.d (.sl 40 (MS.map (mtD ∘ nM))))), (10, .c (.d (dMTs MS))), (12, aI i), (88, aI MS.length), (89, aI i), (138, aI fs.length), (139, aI j)], []⟩) (fun j => j ≤ fs.length) (fun j => fs.length - j) 0 ?_ (Nat.zero_le _) ?_
          · exact Weak.same (by simp -dsimp) (by simp -dsimp) (by first | rfl | (simp [closedSt, Av.ids, Ow.ids, Cl.ids, Go.Smd.keys]; done))
          · rintro j hj K2 hK2
            by_cases hlt2 : j < fs.length
            · have hw2 : IntKind.wrap .i64 ((j : Int) + 1) = ((j + 1 : Nat) : Int) := by rw [wrap_i64] <;> omega
              have hfj := hf _ (List.getElem_mem hlt2)
              (repeat' (first
                                                            | (with_reducible refine br_d (fun _ => ?_) (fun _ => ?_))
                                                            | (with_reducible refine br_i (fun _ => ?_) (fun _ => ?_))
                                                            | (with_reducible refine nd_v (hfj) (by first | rfl | (simp -dsimp [ctys_same, c2, hlt, hlt2, hw2, e1, e2, c3]; done)) ?_)
                                                            | (with_reducible refine nw_v (hfj) rfl (by first | rfl | (simp -dsimp [ctys_same, c2, hlt, hlt2, hw2, e1, e2, c3]; done)) (by first | rfl | (simp -dsimp [ctys_same, c2, hlt, hlt2, hw2, e1, e2, c3]; done)) ?_)
                                                            | ((with_reducible apply nd_next); (case hx => simp -dsimp [ctys_same, c2, hlt, hlt2, hw2, e1, e2, c3]; first | done | with_reducible rfl); (case hid => simp -dsimp [ctys_same, c2, hlt, hlt2, hw2, e1, e2, c3]; first | done | with_reducible rfl | exact ⟨rfl, rfl, rfl⟩ | exact ⟨rfl, rfl⟩); (case' h1 => intro _ _ _); (case' h0 => intro _))
                                                            | ((with_reducible apply nd_entry); (case hx => simp -dsimp [ctys_same, c2, hlt, hlt2, hw2, e1, e2, c3]; first | done | with_reducible rfl); (case hid => simp -dsimp [ctys_same, c2, hlt, hlt2, hw2, e1, e2, c3]; first | done | with_reducible rfl | exact ⟨rfl, rfl, rfl⟩ | exact ⟨rfl, rfl⟩))
                                                            | ((with_reducible apply nd_range); (case hx => simp -dsimp [ctys_same, c2, hlt, hlt2, hw2, e1, e2, c3]; with_reducible rfl); (case hT => simp -dsimp [ctys_same, c2, hlt, hlt2, hw2, e1, e2, c3]); (case hnd => assumption); (case hz => simp -dsimp [ctys_same, c2, hlt, hlt2, hw2, e1, e2, c3]))
                                                            | (with_reducible refine dn_i follows_any (by kernel_rfl) ?_)
                                                            | (with_reducible exact done_eq rfl)
                                                            | (simp -dsimp [ctys_same, c2, hlt, hlt2, hw2, e1, e2, c3]))); (all_goals try with_reducible refine done_eq ?_)
              refine hK2 _ (j + 1) ?_ (by omega) (by omega)
              exact Weak.same (by simp -dsimp) (by simp -dsimp) (by first | rfl | (simp [closedSt, Av.ids, Ow.ids, Cl.ids, Go.Smd.keys]; done))
            · (repeat' (first
                                                            | (with_reducible refine br_d (fun _ => ?_) (fun _ => ?_))
                                                            | (with_reducible refine br_i (fun _ => ?_) (fun _ => ?_))
                                                            | ((with_reducible apply nd_next); (case hx => simp -dsimp [ctys_same, hlt2, hw]; first | done | with_reducible rfl); (case hid => simp -dsimp [ctys_same, hlt2, hw]; first | done | with_reducible rfl | exact ⟨rfl, rfl, rfl⟩ | exact ⟨rfl, rfl⟩); (case' h1 => intro _ _ _); (case' h0 => intro _))
                                                            | ((with_reducible apply nd_entry); (case hx => simp -dsimp [ctys_same, hlt2, hw]; first | done | with_reducible rfl); (case hid => simp -dsimp [ctys_same, hlt2, hw]; first | done | with_reducible rfl | exact ⟨rfl, rfl, rfl⟩ | exact ⟨rfl, rfl⟩))
                                                            | ((with_reducible apply nd_range); (case hx => simp -dsimp [ctys_same, hlt2, hw]; with_reducible rfl); (case hT => simp -dsimp [ctys_same, hlt2, hw]); (case hnd => assumption); (case hz => simp -dsimp [ctys_same, hlt2, hw]))
                                                            | (with_reducible refine dn_i follows_any (by kernel_rfl) ?_)
                                                            | (with_reducible exact done_eq rfl)
                                                            | (simp -dsimp [ctys_same, hlt2, hw]))); (all_goals try with_reducible refine done_eq ?_)
              refine hK _ (i + 1) ?_ (by omega) (by omega)
              exact Weak.same (by simp -dsimp) (by simp -dsimp) (by first | rfl | (simp [closedSt, Av.ids, Ow.ids, Cl.ids, Go.Smd.keys]; done))
        · (repeat' (first
                                                            | (with_reducible refine br_d (fun _ => ?_) (fun _ => ?_))
                                                            | (with_reducible refine br_i (fun _ => ?_) (fun _ => ?_))
                                                            | ((with_reducible apply nd_next); (case hx => simp -dsimp [ctys_same, hlt]; first | done | with_reducible rfl); (case hid => simp -dsimp [ctys_same, hlt]; first | done | with_reducible rfl | exact ⟨rfl, rfl, rfl⟩ | exact ⟨rfl, rfl⟩); (case' h1 => intro _ _ _); (case' h0 => intro _))
                                                            | ((with_reducible apply nd_entry); (case hx => simp -dsimp [ctys_same, hlt]; first | done | with_reducible rfl); (case hid => simp -dsimp [ctys_same, hlt]; first | done | with_reducible rfl | exact ⟨rfl, rfl, rfl⟩ | exact ⟨rfl, rfl⟩))
                                                            | ((with_reducible apply nd_range); (case hx => simp -dsimp [ctys_same, hlt]; with_reducible rfl); (case hT => simp -dsimp [ctys_same, hlt]); (case hnd => assumption); (case hz => simp -dsimp [ctys_same, hlt]))
                                                            | (with_reducible refine dn_i follows_any (by kernel_rfl) ?_)
                                                            | (with_reducible exact done_eq rfl)
                                                            | (simp -dsimp [ctys_same, hlt]))); (all_goals try with_reducible refine done_eq ?_)
theorem alike_all (n : Nat) : (∀ r : RF, SizeOf.sizeOf r < n → gR r → ARef r) ∧ (∀ a : AT, SizeOf.sizeOf a < n → gA a → AAtom a) ∧ (∀ l : LT, SizeOf.sizeOf l < n → gL l → ∀ e rel keys, l = .mk e rel keys → ARef e ∧ keys.length * 16 ≤ 140737488351232) ∧ (∀ m : MT, SizeOf.sizeOf m < n → gM m → ∀ fs e rel, m = .mk fs e rel → ARef e ∧ fs.length * 144 ≤ 140737488351232 ∧ ∀ f ∈ fs, AField f) ∧ (∀ f : FT, SizeOf.sizeOf f < n → gF f → AField f) := by
  refine sch_ind (fun named name a rel h g => ?_) (fun sc ls ms hl hm g => ?_) (fun e rel keys h g => ?_) (fun fs e rel hf h g => ?_) (fun nm r dflt h g => ?_) n
  · simp only [gR] at g
    exact refsAlike_s _ _ _ _ (h g)
  · simp only [gA] at g
    obtain ⟨g1, g2, g3, g4⟩ := g
    exact atomsAlike_s _ _ _ (fun l hl' => hl l hl' (gLs_mem g3 l hl')) (fun m hm' => hm m hm' (gMs_mem g4 m hm')) g1 g2
  · simp only [gL] at g
    rintro _ _ _ he
    cases he
    exact ⟨h g.1, g.2⟩
  · simp only [gM] at g
    rintro _ _ _ he
    cases he
    exact ⟨h g.1, g.2.1, fun f hf' => hf f hf' (gFs_mem g.2.2 f hf')⟩
  · simp only [gF] at g
    exact fieldsAlike_s _ _ _ (h g.1) g.2.1
theorem alike_atom (a : AT) (g : gA a) : AAtom a := (alike_all (SizeOf.sizeOf a + 1)).2.1 a (by omega) g
end Go.Smd
end
