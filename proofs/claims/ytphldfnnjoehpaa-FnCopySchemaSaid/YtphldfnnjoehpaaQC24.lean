/- The law FnCopySchema holds of every two schemas: a schema that is copied over another one takes its place whole. -/
import Derived.Test.YtphldfnnjoehpaaQC23
import Derived.Test.YtphldfnnjoehpaaQC01
import Derived.Deep.Slices
import Derived.ProofKit
import Derived.Test.YtphldfnnjoehpaaRows
import Derived.Test.YtphldfnnjoehpaaQC15
import Derived.Test.YtphldfnnjoehpaaQC17
set_option linter.unusedVariables false
section
set_option linter.unusedSimpArgs false
set_option maxRecDepth 100000
set_option maxHeartbeats 8000000
namespace Go.Smd
open Go.RowKit Go.Proofs
theorem zzFits6_w (l : List TD) (b1 : l.length ≤ 9223372036854775807) : ACalls Try.prog 24 [.agg [.d (dTDs l)]] (fun r => ∃ b, r = aV (.bool b)) := by
  refine acalls_ex [] Try.func24 (by kernel_rfl) rfl Try.ntmps24 Try.results24 (Nat.le_of_ble_eq_true (by kernel_rfl)) ?_; intro hok w0 S0
  clear hok
  (repeat' (first
                                                            | (with_reducible refine br_d (fun _ => ?_) (fun _ => ?_))
                                                            | (with_reducible refine br_i (fun _ => ?_) (fun _ => ?_))
                                                            | ((with_reducible apply nd_next); (case hx => simp -dsimp [b1]; first | done | with_reducible rfl); (case hid => simp -dsimp [b1]; first | done | with_reducible rfl | exact ⟨rfl, rfl, rfl⟩ | exact ⟨rfl, rfl⟩); (case' h1 => intro _ _ _); (case' h0 => intro _))
                                                            | ((with_reducible apply nd_entry); (case hx => simp -dsimp [b1]; first | done | with_reducible rfl); (case hid => simp -dsimp [b1]; first | done | with_reducible rfl | exact ⟨rfl, rfl, rfl⟩ | exact ⟨rfl, rfl⟩))
                                                            | ((with_reducible apply nd_range); (case hx => simp -dsimp [b1]; with_reducible rfl); (case hT => simp -dsimp [b1]); (case hnd => assumption); (case hz => simp -dsimp [b1]))
                                                            | (with_reducible refine dn_i follows_any (by kernel_rfl) ?_)
                                                            | (with_reducible exact done_eq rfl)
                                                            | (simp -dsimp [b1]))); (all_goals try with_reducible refine done_eq ?_)
  all_goals exact done_of ⟨_, rfl⟩
theorem definedSchema_w (l : List TD) (b1 : l.length ≤ 9223372036854775807) (hg : ∀ t ∈ l, gA t.a) : ACalls Try.prog 25 [.agg [.d (dTDs l)]] (fun r => ∃ b, r = aV (.bool b)) := by
  refine acalls_ex [] Try.func25 (by kernel_rfl) rfl Try.ntmps25 Try.results25 (Nat.le_of_ble_eq_true (by kernel_rfl)) ?_; intro hok w0 S0
  clear hok
  (repeat' (first
                                                            | (with_reducible refine br_d (fun _ => ?_) (fun _ => ?_))
                                                            | (with_reducible refine br_i (fun _ => ?_) (fun _ => ?_))
                                                            | ((with_reducible apply nd_next); (case hx => simp -dsimp [b1]; first | done | with_reducible rfl); (case hid => simp -dsimp [b1]; first | done | with_reducible rfl | exact ⟨rfl, rfl, rfl⟩ | exact ⟨rfl, rfl⟩); (case' h1 => intro _ _ _); (case' h0 => intro _))
                                                            | ((with_reducible apply nd_entry); (case hx => simp -dsimp [b1]; first | done | with_reducible rfl); (case hid => simp -dsimp [b1]; first | done | with_reducible rfl | exact ⟨rfl, rfl, rfl⟩ | exact ⟨rfl, rfl⟩))
                                                            | ((with_reducible apply nd_range); (case hx => simp -dsimp [b1]; with_reducible rfl); (case hT => simp -dsimp [b1]); (case hnd => assumption); (case hz => simp -dsimp [b1]))
                                                            | (with_reducible refine dn_i follows_any (by kernel_rfl) ?_)
                                                            | (with_reducible exact done_eq rfl)
                                                            | (simp -dsimp [b1]))); (all_goals try with_reducible refine done_eq ?_)
  refine ex_loop (fun i : Nat => ⟨[(6, .c (.d (dTDs l))), (7, aI l.length), (8, aI i)], []⟩) (fun i => i ≤ l.length) (fun i => l.length - i) 0 ?_ (Nat.zero_le _) ?_
  · exact Weak.same (by simp -dsimp) (by simp -dsimp) (by first | rfl | (simp [closedSt, Av.ids, Ow.ids, Cl.ids, Go.Smd.keys]; done))
  · rintro i hi K hK
    by_cases hlt : i < l.length
    · have hw : IntKind.wrap .i64 ((i : Int) + 1) = ((i + 1 : Nat) : Int) := by rw [wrap_i64] <;> omega
      obtain ⟨nm, sc, ls, ms, hli⟩ : ∃ nm sc ls ms, l[i] = ⟨nm, .mk sc ls ms⟩ := by
        obtain ⟨nm, ⟨sc, ls, ms⟩⟩ := l[i]
        exact ⟨_, _, _, _, rfl⟩
      have he : tdD l[i] = [dS nm, dS sc, dLTs ls, dMTs ms] := by rw [hli, tdD_x]
      have hd := defined_atom _ (hg _ (List.getElem_mem hlt)) 20 (by omega)
      rw [hli, atD_x] at hd
      simp only [cls_cons, cls_nil] at hd
      (repeat' (first
                                                            | (with_reducible refine br_d (fun _ => ?_) (fun _ => ?_))
                                                            | (with_reducible refine br_i (fun _ => ?_) (fun _ => ?_))
                                                            | ((with_reducible refine nd_c (hd) (by first | rfl | (simp -dsimp [b1, hlt, he, hw]; done)) ?_); rintro _ ⟨x, rfl⟩ _)
                                                            | ((with_reducible refine nw_c (hd) rfl (by first | rfl | (simp -dsimp [b1, hlt, he, hw]; done)) (by first | rfl | (simp -dsimp [b1, hlt, he, hw]; done)) ?_); rintro _ ⟨x, rfl⟩ _)
                                                            | ((with_reducible apply nd_next); (case hx => simp -dsimp [b1, hlt, he, hw]; first | done | with_reducible rfl); (case hid => simp -dsimp [b1, hlt, he, hw]; first | done | with_reducible rfl | exact ⟨rfl, rfl, rfl⟩ | exact ⟨rfl, rfl⟩); (case' h1 => intro _ _ _); (case' h0 => intro _))
                                                            | ((with_reducible apply nd_entry); (case hx => simp -dsimp [b1, hlt, he, hw]; first | done | with_reducible rfl); (case hid => simp -dsimp [b1, hlt, he, hw]; first | done | with_reducible rfl | exact ⟨rfl, rfl, rfl⟩ | exact ⟨rfl, rfl⟩))
                                                            | ((with_reducible apply nd_range); (case hx => simp -dsimp [b1, hlt, he, hw]; with_reducible rfl); (case hT => simp -dsimp [b1, hlt, he, hw]); (case hnd => assumption); (case hz => simp -dsimp [b1, hlt, he, hw]))
                                                            | (with_reducible refine dn_i follows_any (by kernel_rfl) ?_)
                                                            | (with_reducible exact done_eq rfl)
                                                            | (simp -dsimp [b1, hlt, he, hw]))); (all_goals try with_reducible refine done_eq ?_)
      · exact done_of ⟨_, rfl⟩
      · refine hK _ (i + 1) ?_ (by omega) (by omega)
        exact Weak.same (by simp -dsimp) (by simp -dsimp) (by first | rfl | (simp [closedSt, Av.ids, Ow.ids, Cl.ids, Go.Smd.keys]; done))
    · (repeat' (first
                                                            | (with_reducible refine br_d (fun _ => ?_) (fun _ => ?_))
                                                            | (with_reducible refine br_i (fun _ => ?_) (fun _ => ?_))
                                                            | ((with_reducible apply nd_next); (case hx => simp -dsimp [hlt]; first | done | with_reducible rfl); (case hid => simp -dsimp [hlt]; first | done | with_reducible rfl | exact ⟨rfl, rfl, rfl⟩ | exact ⟨rfl, rfl⟩); (case' h1 => intro _ _ _); (case' h0 => intro _))
                                                            | ((with_reducible apply nd_entry); (case hx => simp -dsimp [hlt]; first | done | with_reducible rfl); (case hid => simp -dsimp [hlt]; first | done | with_reducible rfl | exact ⟨rfl, rfl, rfl⟩ | exact ⟨rfl, rfl⟩))
                                                            | ((with_reducible apply nd_range); (case hx => simp -dsimp [hlt]; with_reducible rfl); (case hT => simp -dsimp [hlt]); (case hnd => assumption); (case hz => simp -dsimp [hlt]))
                                                            | (with_reducible refine dn_i follows_any (by kernel_rfl) ?_)
                                                            | (with_reducible exact done_eq rfl)
                                                            | (simp -dsimp [hlt]))); (all_goals try with_reducible refine done_eq ?_)
      exact done_of ⟨_, rfl⟩
theorem sameAtom_a (a : AT) (g : gA a) : ACalls Try.prog 27 [.agg (cls (atD (nA a))), .agg (cls (atD a))] (fun r => r = aV (.bool true)) := by
  have h := alike_atom a g
  unfold AAtom at h
  obtain ⟨sc, ls, ms⟩ := a
  simp only [nA, atD_x, cls_cons, cls_nil] at h ⊢
  refine acalls_ex [] Try.func27 (by kernel_rfl) rfl Try.ntmps27 Try.results27 (Nat.le_of_ble_eq_true (by kernel_rfl)) ?_; intro hok w0 S0
  clear hok
  (repeat' (first
                                                            | (with_reducible refine br_d (fun _ => ?_) (fun _ => ?_))
                                                            | (with_reducible refine br_i (fun _ => ?_) (fun _ => ?_))
                                                            | (with_reducible refine nd_v (h) (by first | rfl | (simp -dsimp [ctys_same]; done)) ?_)
                                                            | (with_reducible refine nw_v (h) rfl (by first | rfl | (simp -dsimp [ctys_same]; done)) (by first | rfl | (simp -dsimp [ctys_same]; done)) ?_)
                                                            | ((with_reducible apply nd_next); (case hx => simp -dsimp [ctys_same]; first | done | with_reducible rfl); (case hid => simp -dsimp [ctys_same]; first | done | with_reducible rfl | exact ⟨rfl, rfl, rfl⟩ | exact ⟨rfl, rfl⟩); (case' h1 => intro _ _ _); (case' h0 => intro _))
                                                            | ((with_reducible apply nd_entry); (case hx => simp -dsimp [ctys_same]; first | done | with_reducible rfl); (case hid => simp -dsimp [ctys_same]; first | done | with_reducible rfl | exact ⟨rfl, rfl, rfl⟩ | exact ⟨rfl, rfl⟩))
                                                            | ((with_reducible apply nd_range); (case hx => simp -dsimp [ctys_same]; with_reducible rfl); (case hT => simp -dsimp [ctys_same]); (case hnd => assumption); (case hz => simp -dsimp [ctys_same]))
                                                            | (with_reducible refine dn_i follows_any (by kernel_rfl) ?_)
                                                            | (with_reducible exact done_eq rfl)
                                                            | (simp -dsimp [ctys_same]))); (all_goals try with_reducible refine done_eq ?_)
theorem fnCopySchema_a (l m : List TD) : ACalls Try.prog 6 [.agg [.d (dTDs l)], .agg [.d (dTDs m)]] (fun r => r = aV (.bool true)) := by
  have key : (∀ t ∈ l, gA t.a) → (∀ t ∈ m, gA t.a) → l.length * 80 ≤ 140737488351232 → m.length * 80 ≤ 140737488351232 → ACalls Try.prog 6 [.agg [.d (dTDs l)], .agg [.d (dTDs m)]] (fun r => r = aV (.bool true)) := fun gl gm hl hm => by
    have b1 : l.length ≤ 9223372036854775807 := by omega
    have b2 : m.length ≤ 9223372036854775807 := by omega
    have z1 := zzFits6_w l b1
    have z2 := zzFits6_w m b2
    have d1 := definedSchema_w l b1 gl
    have d2 := definedSchema_w m b2 gm
    have cp := copySchema_a l m hl gl hm gm
    refine acalls_ex [(11, ([18], [(0, []), (1, []), (2, []), (3, []), (4, []), (5, []), (6, []), (7, []), (8, []), (9, []), (10, []), (11, []), (12, []), (13, []), (14, []), (15, []), (16, []), (17, []), (18, []), (19, []), (20, [])]))] Try.func6 (by kernel_rfl) rfl Try.ntmps6 Try.results6 (Nat.le_of_ble_eq_true (by kernel_rfl)) ?_; intro hok w0 S0
    clear hok
    (repeat' (first
                                                            | (with_reducible refine br_d (fun _ => ?_) (fun _ => ?_))
                                                            | (with_reducible refine br_i (fun _ => ?_) (fun _ => ?_))
                                                            | ((with_reducible refine nd_c (z1) (by first | rfl | (simp -dsimp [b1, b2]; done)) ?_); rintro _ ⟨x1, rfl⟩ _)
                                                            | ((with_reducible refine nw_c (z1) rfl (by first | rfl | (simp -dsimp [b1, b2]; done)) (by first | rfl | (simp -dsimp [b1, b2]; done)) ?_); rintro _ ⟨x1, rfl⟩ _)
                                                            | ((with_reducible refine nd_c (z2) (by first | rfl | (simp -dsimp [b1, b2]; done)) ?_); rintro _ ⟨x2, rfl⟩ _)
                                                            | ((with_reducible refine nw_c (z2) rfl (by first | rfl | (simp -dsimp [b1, b2]; done)) (by first | rfl | (simp -dsimp [b1, b2]; done)) ?_); rintro _ ⟨x2, rfl⟩ _)
                                                            | ((with_reducible refine nd_c (d1) (by first | rfl | (simp -dsimp [b1, b2]; done)) ?_); rintro _ ⟨y1, rfl⟩ _)
                                                            | ((with_reducible refine nw_c (d1) rfl (by first | rfl | (simp -dsimp [b1, b2]; done)) (by first | rfl | (simp -dsimp [b1, b2]; done)) ?_); rintro _ ⟨y1, rfl⟩ _)
                                                            | ((with_reducible refine nd_c (d2) (by first | rfl | (simp -dsimp [b1, b2]; done)) ?_); rintro _ ⟨y2, rfl⟩ _)
                                                            | ((with_reducible refine nw_c (d2) rfl (by first | rfl | (simp -dsimp [b1, b2]; done)) (by first | rfl | (simp -dsimp [b1, b2]; done)) ?_); rintro _ ⟨y2, rfl⟩ _)
                                                            | (with_reducible refine nd_v (cp) (by first | rfl | (simp -dsimp [b1, b2]; done)) ?_)
                                                            | (with_reducible refine nw_v (cp) rfl (by first | rfl | (simp -dsimp [b1, b2]; done)) (by first | rfl | (simp -dsimp [b1, b2]; done)) ?_)
                                                            | ((with_reducible apply nd_next); (case hx => simp -dsimp [b1, b2]; first | done | with_reducible rfl); (case hid => simp -dsimp [b1, b2]; first | done | with_reducible rfl | exact ⟨rfl, rfl, rfl⟩ | exact ⟨rfl, rfl⟩); (case' h1 => intro _ _ _); (case' h0 => intro _))
                                                            | ((with_reducible apply nd_entry); (case hx => simp -dsimp [b1, b2]; first | done | with_reducible rfl); (case hid => simp -dsimp [b1, b2]; first | done | with_reducible rfl | exact ⟨rfl, rfl, rfl⟩ | exact ⟨rfl, rfl⟩))
                                                            | ((with_reducible apply nd_range); (case hx => simp -dsimp [b1, b2]; with_reducible rfl); (case hT => simp -dsimp [b1, b2]); (case hnd => assumption); (case hz => simp -dsimp [b1, b2]))
                                                            | (with_reducible refine dn_i follows_any (by kernel_rfl) ?_)
                                                            | (with_reducible exact done_eq rfl)
                                                            | (simp -dsimp [b1, b2]))); (all_goals try with_reducible refine done_eq ?_)
    refine ex_loop (fun i : Nat => ⟨[(2, .c (.own 2 0)), (35, .c (.d (dTDs (l.map nTD)))), (36, aI l.length), (37, aI i)], [(2, .cells [.d (dTDs l)] 51)]⟩) (fun i => i ≤ l.length) (fun i => l.length - i) 0 ?_ (Nat.zero_le _) ?_
    · exact Weak.same (by simp -dsimp) (by simp -dsimp) (by first | rfl | (simp [closedSt, Av.ids, Ow.ids, Cl.ids, Go.Smd.keys]; done))
    · rintro i hi K hK
      by_cases hlt : i < l.length
      · have hw : IntKind.wrap .i64 ((i : Int) + 1) = ((i + 1 : Nat) : Int) := by rw [wrap_i64] <;> omega
        obtain ⟨nm, sc, ls, ms, hli⟩ : ∃ nm sc ls ms, l[i] = ⟨nm, .mk sc ls ms⟩ := by
          obtain ⟨nm, ⟨sc, ls, ms⟩⟩ := l[i]
          exact ⟨_, _, _, _, rfl⟩
        have he : tdD l[i] = [dS nm, dS sc, dLTs ls, dMTs ms] := by rw [hli, tdD_x]
        have he2 : tdD (nTD l[i]) = [dS nm, dS sc, dLTs (nLs ls), dMTs (nMs ms)] := by rw [hli]; simp only [nTD, nA, tdD_x]
        have hs := sameAtom_a _ (gl _ (List.getElem_mem hlt))
        rw [hli] at hs
        simp only [nA, atD_x, cls_cons, cls_nil] at hs
        (repeat' (first
                                                            | (with_reducible refine br_d (fun _ => ?_) (fun _ => ?_))
                                                            | (with_reducible refine br_i (fun _ => ?_) (fun _ => ?_))
                                                            | (with_reducible refine nd_v (hs) (by first | rfl | (simp -dsimp [b1, hlt, he, he2, hw]; done)) ?_)
                                                            | (with_reducible refine nw_v (hs) rfl (by first | rfl | (simp -dsimp [b1, hlt, he, he2, hw]; done)) (by first | rfl | (simp -dsimp [b1, hlt, he, he2, hw]; done)) ?_)
                                                            | ((with_reducible apply nd_next); (case hx => simp -dsimp [b1, hlt, he, he2, hw]; first | done | with_reducible rfl); (case hid => simp -dsimp [b1, hlt, he, he2, hw]; first | done | with_reducible rfl | exact ⟨rfl, rfl, rfl⟩ | exact ⟨rfl, rfl⟩); (case' h1 => intro _ _ _); (case' h0 => intro _))
                                                            | ((with_reducible apply nd_entry); (case hx => simp -dsimp [b1, hlt, he, he2, hw]; first | done | with_reducible rfl); (case hid => simp -dsimp [b1, hlt, he, he2, hw]; first | done | with_reducible rfl | exact ⟨rfl, rfl, rfl⟩ | exact ⟨rfl, rfl⟩))
                                                            | ((with_reducible apply nd_range); (case hx => simp -dsimp [b1, hlt, he, he2, hw]; with_reducible rfl); (case hT => simp -dsimp [b1, hlt, he, he2, hw]); (case hnd => assumption); (case hz => simp -dsimp [b1, hlt, he, he2, hw]))
                                                            | (with_reducible refine dn_i follows_any (by kernel_rfl) ?_)
                                                            | (with_reducible exact done_eq rfl)
                                                            | (simp -dsimp [b1, hlt, he, he2, hw]))); (all_goals try with_reducible refine done_eq ?_)
        refine hK _ (i + 1) ?_ (by omega) (by omega)
        exact Weak.same (by simp -dsimp) (by simp -dsimp) (by first | rfl | (simp [closedSt, Av.ids, Ow.ids, Cl.ids, Go.Smd.keys]; done))
      · (repeat' (first
                                                            | (with_reducible refine br_d (fun _ => ?_) (fun _ => ?_))
                                                            | (with_reducible refine br_i (fun _ => ?_) (fun _ => ?_))
                                                            | ((with_reducible apply nd_next); (case hx => simp -dsimp [hlt]; first | done | with_reducible rfl); (case hid => simp -dsimp [hlt]; first | done | with_reducible rfl | exact ⟨rfl, rfl, rfl⟩ | exact ⟨rfl, rfl⟩); (case' h1 => intro _ _ _); (case' h0 => intro _))
                                                            | ((with_reducible apply nd_entry); (case hx => simp -dsimp [hlt]; first | done | with_reducible rfl); (case hid => simp -dsimp [hlt]; first | done | with_reducible rfl | exact ⟨rfl, rfl, rfl⟩ | exact ⟨rfl, rfl⟩))
                                                            | ((with_reducible apply nd_range); (case hx => simp -dsimp [hlt]; with_reducible rfl); (case hT => simp -dsimp [hlt]); (case hnd => assumption); (case hz => simp -dsimp [hlt]))
                                                            | (with_reducible refine dn_i follows_any (by kernel_rfl) ?_)
                                                            | (with_reducible exact done_eq rfl)
                                                            | (simp -dsimp [hlt]))); (all_goals try with_reducible refine done_eq ?_)
  have ok : ∀ l : List TD, okA Try.prog (.agg [.d (dTDs l)]) → (∀ t ∈ l, gA t.a) ∧ l.length * 80 ≤ 140737488351232 := fun l h => by
    obtain ⟨a1, a2⟩ := okD_sl (okA_agg h (.d (dTDs l)) (by simp) (dTDs l) rfl)
    simp at a1
    refine ⟨fun t ht => (g_ok (SizeOf.sizeOf t.a + 1)).2.1 _ (by omega) fun d hd => (a2 _ (List.mem_map_of_mem ht)).2 d (by simp [tdD, hd]), by omega⟩
  refine acalls_ok (fun hok => key (ok l (hok _ (by simp))).1 (ok m (hok _ (by simp))).1 (ok l (hok _ (by simp))).2 (ok m (hok _ (by simp))).2) ⟨_, Try.func6, by kernel_rfl, rfl⟩
end Go.Smd
end
section
set_option linter.unusedSimpArgs false
namespace Go.Smd
open Go.RowKit Go.Proofs Go.ChangeShapes Go.WideShapes Go.Deep
theorem cells_at {w : World} {base : Nat} {a : Addr} {n : Nat} {cs : List Value} (h : w.cells? base a n = some cs) : CellsAt w a cs := fun i u hu => by
  obtain ⟨_, hl, hc⟩ := World.cells?_some h
  rw [hc i (by rw [← hl]; exact (List.getElem?_eq_some_iff.1 hu).1)]; exact hu
def Light (l : List Nat) : Prop := ∀ x ∈ l, x ≤ 140737488351232
theorem Light.append {l m : List Nat} (h : Light (l ++ m)) : Light l ∧ Light m := ⟨fun x hx => h x (List.mem_append_left _ hx), fun x hx => h x (List.mem_append_right _ hx)⟩
theorem Light.all {H : Type} {P : Program} {e : TypeId} : ∀ {ds : List (DataW H)}, Light (DataW.weightsAll P e ds) → ∀ d ∈ ds, Light (d.weights P e)
  | [], _, d, hd => by simp at hd
  | d0 :: ds, h, d, hd => by
    simp only [DataW.weightsAll] at h
    rcases List.mem_cons.1 hd with rfl | hd
    · exact h.append.1
    · exact Light.all h.append.2 d hd
section
variable {H : Type} {enc : TypeId × Value → H} {w : World} {held : Bool}
theorem open_strs {P : Program} {t e : TypeId} (ht : P.underlying t = some (.slice e)) (he : P.underlying e = some .string) (hc : P.cellsOf e = 1) (hb : P.bytesOf e = 16) {fuel : Nat} {cs : List Value} {x : DataW H × List MemPlace}
    (h : DataW.trod enc P w 0 (fun _ => true) held fuel t cs = some x) (hw : Light (x.1.weights P t)) :
    ∃ A c ss, cs = [.slice A (List.length ss) c] ∧ ss.length ≤ c ∧ RepStrs (fun _ => True) w A ss ∧ ss.length * 16 ≤ 140737488351232 ∧ ∀ s ∈ ss, s.size ≤ 140737488351232 := by
  rcases open_slice1 ht hc h with ⟨rfl, rfl⟩ | ⟨a, len, cap, m, n, V, D, Pl, rfl, _, hl, _, hm, rfl, hx⟩
  · exact ⟨none, 0, [], rfl, Nat.zero_le _, RowOf.nil, by simp, by simp⟩
  · have hm' : m = cap := by simpa using hm
    subst hm'
    have key : ∀ i : Nat, ∃ s : ByteArray, i < m → V i = .string s ∧ D i = .lit (.string s.data.toList) := fun i => by
      by_cases hi : i < m
      · obtain ⟨s, h1, h2, _⟩ := DataW.trod_string he (hx i hi).2
        exact ⟨s, fun _ => ⟨by simpa using h1, congrArg Prod.fst h2⟩⟩
      · exact ⟨⟨#[]⟩, fun h => absurd h hi⟩
    let F : Nat → ByteArray := fun i => Classical.choose (key i)
    have hF : ∀ i, i < m → V i = .string (F i) ∧ D i = .lit (.string (F i).data.toList) := fun i hi => Classical.choose_spec (key i) hi
    have hlen : ((List.range len).map F).length = len := by simp
    simp only [DataW.weights, ht, hb, List.length_map, List.length_range] at hw
    have hw1 : (len + (m - len)) * 16 ≤ 140737488351232 := hw _ (List.mem_cons_self ..)
    have hw2 : Light (DataW.weightsAll P e ((List.range len).map D)) := fun x hx => hw x (List.mem_cons_of_mem _ (List.mem_append_left _ hx))
    refine ⟨some a, m, (List.range len).map F, by rw [hlen], by rw [hlen]; exact hl, fun j x hj => ?_, by rw [hlen]; omega, fun s hs => ?_⟩
    · rw [List.getElem?_map] at hj
      obtain ⟨i, hi, rfl⟩ := Option.map_eq_some_iff.1 hj
      obtain ⟨hlt, rfl⟩ := List.getElem?_eq_some_iff.1 hi
      simp only [List.length_range] at hlt
      simp only [List.getElem_range]
      refine ⟨a, [V j], rfl, trivial, by rw [(hF j (by omega)).1]; rfl, rfl, fun i u hu => ?_⟩
      match i, hu with
      | 0, hu =>
        simp at hu; subst hu
        have := (hx j (by omega)).1
        simpa [Addr.add] using this
    · obtain ⟨i, hi, rfl⟩ := List.mem_map.1 hs
      have hi' : i < len := by simpa using hi
      have := Light.all hw2 (D i) (List.mem_map.2 ⟨i, hi, rfl⟩)
      rw [(hF i (by omega)).2] at this
      simp only [DataW.weights] at this
      have := this _ (List.mem_singleton_self _)
      rw [ByteArray.size, Array.size_eq_length_toList]; exact this
theorem trod_float {P : Program} {t : TypeId} {k : FloatKind} {fuel : Nat} {cs : List Value} {x : DataW H × List MemPlace} (ht : P.underlying t = some (.float k)) (h : DataW.trod enc P w 0 (fun _ => true) held fuel t cs = some x) : ∃ n, cs = [.float k n] ∧ x = (.lit (.float k n), []) ∧ (Lit.float k n).wf = true := by
  cases fuel with
  | zero => simp [DataW.trod] at h
  | succ n =>
    unfold DataW.trod at h
    rw [ht] at h
    split at h <;> simp_all
set_option maxRecDepth 100000 in
theorem open_val : ∀ (fuel : Nat) (cs : List Value) (x : DataW H × List MemPlace), DataW.trod enc Try.prog w 0 (fun _ => true) held fuel 26 cs = some x → Light (x.1.weights Try.prog 26) →
    ∃ v, RepGV (fun _ => True) w v cs := by
  intro fuel
  induction fuel using Nat.strongRecOn with
  | _ fuel IH =>
  intro cs x h hw
  obtain ⟨xs, n, rfl, rfl, hlen, hxl, hf⟩ := DataW.trod_struct Try.underlying26 h
  have e6 : Try.prog.cellsOf 26 = 6 := by kernel_rfl
  have e1 : Try.prog.cellsOf 3 = 1 := by kernel_rfl
  have e2 : Try.prog.cellsOf 2 = 1 := by kernel_rfl
  have e3 : Try.prog.cellsOf 22 = 1 := by kernel_rfl
  have e4 : Try.prog.cellsOf 9 = 1 := by kernel_rfl
  have e5 : Try.prog.cellsOf 23 = 1 := by kernel_rfl
  have e7 : Try.prog.cellsOf 24 = 1 := by kernel_rfl
  rw [e6] at hlen
  match cs, hlen with
  | [c0, c1, c2, c3, c4, c5], _ =>
  match xs, hxl with
  | [x0, x1, x2, x3, x4, x5], _ =>
  have f0 : DataW.trod enc Try.prog w 0 (fun _ => true) held n 3 (([c0, c1, c2, c3, c4, c5].drop 0).take (Try.prog.cellsOf 3)) = some x0 := hf 0 _ rfl
  rw [e1] at f0
  change DataW.trod enc Try.prog w 0 (fun _ => true) held n 3 [c0] = some x0 at f0
  have f1 : DataW.trod enc Try.prog w 0 (fun _ => true) held n 2 (([c0, c1, c2, c3, c4, c5].drop 1).take (Try.prog.cellsOf 2)) = some x1 := hf 1 _ rfl
  rw [e2] at f1
  change DataW.trod enc Try.prog w 0 (fun _ => true) held n 2 [c1] = some x1 at f1
  have f2 : DataW.trod enc Try.prog w 0 (fun _ => true) held n 22 (([c0, c1, c2, c3, c4, c5].drop 2).take (Try.prog.cellsOf 22)) = some x2 := hf 2 _ rfl
  rw [e3] at f2
  change DataW.trod enc Try.prog w 0 (fun _ => true) held n 22 [c2] = some x2 at f2
  have f3 : DataW.trod enc Try.prog w 0 (fun _ => true) held n 9 (([c0, c1, c2, c3, c4, c5].drop 3).take (Try.prog.cellsOf 9)) = some x3 := hf 3 _ rfl
  rw [e4] at f3
  change DataW.trod enc Try.prog w 0 (fun _ => true) held n 9 [c3] = some x3 at f3
  have f4 : DataW.trod enc Try.prog w 0 (fun _ => true) held n 23 (([c0, c1, c2, c3, c4, c5].drop 4).take (Try.prog.cellsOf 23)) = some x4 := hf 4 _ rfl
  rw [e5] at f4
  change DataW.trod enc Try.prog w 0 (fun _ => true) held n 23 [c4] = some x4 at f4
  have f5 : DataW.trod enc Try.prog w 0 (fun _ => true) held n 24 (([c0, c1, c2, c3, c4, c5].drop 5).take (Try.prog.cellsOf 24)) = some x5 := hf 5 _ rfl
  rw [e7] at f5
  change DataW.trod enc Try.prog w 0 (fun _ => true) held n 24 [c5] = some x5 at f5
  obtain ⟨kind, h0, hx0, hr0⟩ := DataW.trod_int Try.underlying3 f0
  obtain ⟨N, h1, hx1, hr1⟩ := DataW.trod_int Try.underlying2 f1
  obtain ⟨F, h2, hx2, hr2⟩ := trod_float Try.underlying22 f2
  obtain ⟨s, h3, hx3, hr3⟩ := DataW.trod_string Try.underlying9 f3
  simp only [List.cons.injEq, and_true] at h0 h1 h2 h3
  subst h0; subst h1; subst h2; subst h3
  simp only [List.map_cons, List.map_nil, DataW.weights, Try.underlying26, DataW.weightsEach] at hw
  have hw : Light (DataW.weights Try.prog 3 x0.1 ++ (DataW.weights Try.prog 2 x1.1 ++ (DataW.weights Try.prog 22 x2.1 ++ (DataW.weights Try.prog 9 x3.1 ++ (DataW.weights Try.prog 23 x4.1 ++ (DataW.weights Try.prog 24 x5.1 ++ [])))))) := hw
  have w3 := hw.append.2.append.2.append.2.append.1
  have w4 := hw.append.2.append.2.append.2.append.2.append.1
  have w5 := hw.append.2.append.2.append.2.append.2.append.2.append.1
  obtain ⟨ka, kc, keys, hk, hkc, hkr, hk16, hks⟩ := open_strs Try.underlying23 Try.underlying9 e4 (by kernel_rfl) f4 w4
  simp only [List.cons.injEq, and_true] at hk
  subst hk
  have hss : s.size ≤ 140737488351232 := by
    rw [hx3] at w3
    simp only [DataW.weights] at w3
    have := w3 _ (List.mem_singleton_self _)
    rw [ByteArray.size, Array.size_eq_length_toList]; exact this
  have okk : ∀ {l : List GV}, l.length * 88 ≤ 140737488351232 → GVok kind N F s keys l := fun hl => by
    refine ⟨?_, ?_, ?_, hss, hk16, hks, hl⟩
    · have := hr0; simp [Lit.wf, IntKind.min, IntKind.max, IntKind.signed, IntKind.bits] at this; omega
    · have := hr1; simp [Lit.wf, IntKind.min, IntKind.max, IntKind.signed, IntKind.bits] at this; omega
    · have := hr2; simp [Lit.wf] at this; omega
  rcases DataW.trod_slice Try.underlying24 f5 with ⟨h5, rfl⟩ | ⟨a, len, cap, elems, rest, n', rfl, h5, rfl, _, hl, _, hlen5, hel, _, _⟩
  · simp only [List.cons.injEq, and_true] at h5
    subst h5
    exact ⟨.mk kind N F s keys [], RepGV.close (l := []) (okk (by simp)) hkc (Nat.zero_le _) hkr RowOf.nil⟩
  · simp only [List.cons.injEq, and_true] at h5
    subst h5
    have hb : Try.prog.bytesOf 26 = 88 := by kernel_rfl
    simp only [DataW.weights, Try.underlying24, List.length_map, hb, hlen5] at w5
    have hw1 : (len + rest.length) * 88 ≤ 140737488351232 := w5 _ (List.mem_cons_self ..)
    have hw2 : Light (DataW.weightsAll Try.prog 26 (elems.map (·.1))) := fun x hx => w5 x (List.mem_cons_of_mem _ (List.mem_append_left _ hx))
    have key : ∀ j : Nat, ∃ p : GV × List Value, j < len → CellsAt w (a.add (j * 6)) p.2 ∧ RepGV (fun _ => True) w p.1 p.2 := fun j => by
      by_cases hj : j < len
      · have he := hel j hj
        rw [e6] at he
        obtain ⟨y, hy⟩ : ∃ y, elems[j]? = some y := ⟨elems[j]'(by omega), List.getElem?_eq_getElem _⟩
        rw [hy] at he
        obtain ⟨cs', hc, ht⟩ := Option.bind_eq_some_iff.1 he
        obtain ⟨v, hv⟩ := IH n' (by omega) cs' y ht (Light.all hw2 y.1 (List.mem_map.2 ⟨y, List.mem_of_getElem? hy, rfl⟩))
        exact ⟨(v, cs'), fun _ => ⟨cells_at hc, hv⟩⟩
      · exact ⟨(.mk 0 0 0 ⟨#[]⟩ [] [], []), fun h => absurd h hj⟩
    let G : Nat → GV × List Value := fun j => Classical.choose (key j)
    have hG : ∀ j, j < len → CellsAt w (a.add (j * 6)) (G j).2 ∧ RepGV (fun _ => True) w (G j).1 (G j).2 := fun j hj => Classical.choose_spec (key j) hj
    have hlenl : ((List.range len).map fun j => (G j).1).length = len := by simp
    refine ⟨.mk kind N F s keys ((List.range len).map fun j => (G j).1), ?_⟩
    have := RepGV.close (S := fun _ => True) (w := w) (la := some a) (lc := cap) (okk (l := (List.range len).map fun j => (G j).1) (by rw [hlenl]; omega)) hkc (by rw [hlenl]; exact hl) hkr (fun j x hj => by
      rw [List.getElem?_map] at hj
      obtain ⟨i, hi, rfl⟩ := Option.map_eq_some_iff.1 hj
      obtain ⟨hlt, rfl⟩ := List.getElem?_eq_some_iff.1 hi
      simp only [List.length_range] at hlt
      simp only [List.getElem_range]
      exact ⟨a, (G j).2, rfl, trivial, (hG j hlt).2, (hG j hlt).2.length, (hG j hlt).1⟩)
    rw [hlenl] at this
    exact this
end
end Go.Smd
end
section
set_option linter.unusedSimpArgs false
namespace Go.Smd
open Go.RowKit Go.Proofs Go.ChangeShapes Go.WideShapes Go.ChangeAt
theorem own_knob : ownKnob Try.prog.godebug = none := by kernel_rfl
theorem laid_out : laidOutB Try.prog = true := by kernel_rfl
section
variable {H : Type} {enc : TypeId × Value → H}
theorem trodAll_below {W W' : World} (hb : Below W.heap.size W W') : ∀ {ts : List TypeId} {vs : List Value} {ds : List (DataW H)} {ps : List MemPlace},
    (∀ t ∈ ts, Try.prog.readableRec t = true ∧ t < Try.prog.types.size) → DataW.TrodAll enc Try.prog W 0 (fun _ => true) true ts vs ds ps → (∀ x ∈ ps, x.block < W.heap.size) →
    DataW.TrodAll enc Try.prog W' 0 (fun b => decide (b < W.heap.size)) true ts vs ds ps
  | [], vs, ds, ps, _, h, _ => by
    match vs, ds, h with
    | [], [], h => exact h
  | t :: ts, vs, ds, ps, hr, h, hlt => by
    match vs, ds, h with
    | v :: vs, d :: ds, ⟨p, q, h1, h2, e⟩ =>
      subst e
      exact ⟨p, q, Below.trod laid_out (hr t (List.mem_cons_self ..)).1 (hr t (List.mem_cons_self ..)).2 h1 hb fun x hx => hlt x (List.mem_append_left _ hx),
        trodAll_below hb (fun t ht => hr t (List.mem_cons_of_mem _ ht)) h2 fun x hx => hlt x (List.mem_append_right _ hx), rfl⟩
theorem law_post {fn : Func} {s : ChangeSpec} {W W' : World} {args : Array Value} {ds gs : List (DataW H)} {before : List MemPlace} (hv : s.vars = []) (hr : fn.resultTypes = #[4])
    (hp : ∀ t ∈ fn.params.toList, Try.prog.readableRec t = true ∧ t < Try.prog.types.size)
    (hW : DataW.Whole enc Try.prog fn.params.toList s.vars false W args.toList ds gs before) (hs : s.fn H ds = { results := [.lit (.bool true)], args := ds }) (hE : Ext W W') :
    s.post enc Try.prog fn false true false false W args (.bool true) W' := by
  have hlt : ∀ p ∈ before, p.block < W.heap.size := fun p hp => hW.lt p hp
  have hW' := hW
  obtain ⟨p, q, hA, hV, rfl, hfz, hnd⟩ := hW
  rw [hv] at hV
  obtain ⟨rfl, rfl⟩ := trodVars_none hV
  have hA' := trodAll_below hE hp hA fun x hx => hlt x (by simpa using hx)
  refine ⟨ds, [], p ++ [], [], p, [], hW', ?_, ?_, ?_, ?_, fun h => by cases h⟩
  · rw [hr, List.append_nil, hs]
    exact trodAll_mk1 (shut_bool Try.underlying4 true)
  · rw [List.append_nil, hs]; exact hA'
  · rw [hv, List.append_nil, hs]; rfl
  · exact World.keptBut_mono (fun x hx => hx) (Below.frame hE _)
end
set_option maxRecDepth 100000 in
theorem law_lift {fn : Func} {f : FuncId} {s : ChangeSpec} (hfn : Try.prog.funcs[f]? = some fn) (hv : s.vars = []) (hr : fn.resultTypes = #[4])
    (hp : ∀ t ∈ fn.params.toList, Try.prog.readableRec t = true ∧ t < Try.prog.types.size) (hi : Try.prog.inits.idxOf? f = none)
    {os : Os} (started : os.Started) {H : Type} {enc : TypeId × Value → H}
    (hs : ∀ ds : List (DataW H), ds.length = fn.params.size → s.fn H ds = { results := [.lit (.bool true)], args := ds })
    (witness : ∃ (w : World) (tape : Tape) (i : Input), w.os = os ∧ (w.forCall tape i).Shaped Try.prog ∧ i.vars = [] ∧ Input.okWide Try.prog (w.forCall tape i) .any w.heap.size f i ∧
      s.pre6 enc Try.prog fn [] false (w.forCall tape i).memory i.args ∧ ({} : Assume).holds Try.prog (lone (Frame.enter Try.prog f i.args .normal) [] (w.forCall tape i)))
    (walk : ∀ (W : World) (args : Array Value) (ds : List (DataW H)) (p : List MemPlace), DataW.TrodAll enc Try.prog W 0 (fun _ => true) true fn.params.toList args.toList ds p →
      (∀ x ∈ DataW.weightsEach Try.prog fn.params.toList ds, x ≤ 140737488351232) →
      (∃ base : Nat, ∀ (j : Nat) t v, fn.params[j]? = some t → args[j]? = some v → Value.okWide Try.prog W .any base t v) → Calls Try.prog f args W (Makes (fun _ u => u = .bool true) W)) :
    ReturnsInHanded {} Try.checked os f .any (s.pre6 enc Try.prog fn [] false) (s.post enc Try.prog fn false true false false) := by
  refine returnsInHanded_of_change_sized (C := Try.checked) own_knob started hi hfn witness ?_
  intro W base args ds gs before hval hW _ hweights _
  have hW' := hW
  obtain ⟨p, q, hA, hV, rfl, hfz, hnd⟩ := hW
  rw [hv] at hV
  obtain ⟨rfl, rfl⟩ := trodVars_none hV
  have hlen : ds.length = fn.params.size := by
    have : ∀ {ts : List TypeId} {vs : List Value} {ds : List (DataW H)} {ps : List MemPlace}, DataW.TrodAll enc Try.prog W 0 (fun _ => true) true ts vs ds ps → ds.length = ts.length := by
      intro ts
      induction ts with
      | nil => intro vs ds ps h; match vs, ds, h with | [], [], _ => rfl
      | cons t ts ih => intro vs ds ps h; match vs, ds, h with | v :: vs, d :: ds, ⟨_, _, _, h2, _⟩ => simp [ih h2]
    simpa using this hA
  refine (walk W args ds p hA (fun x hx => ?_) ⟨base, hval⟩).mono fun e W' h => ?_
  · have e : s.plain.varTypes Try.prog = [] := by simp [DataSpec.varTypes, ChangeSpec.plain, hv]
    have hw : (DataW.weightsEach Try.prog (fn.params.toList ++ s.plain.varTypes Try.prog) (ds ++ [])).all (· ≤ reachBytes) = true := hweights
    rw [e, List.append_nil, List.append_nil, List.all_eq_true] at hw
    exact of_decide_eq_true (hw x hx)
  · obtain ⟨v, rfl, rfl, hE⟩ := h
    exact ⟨_, rfl, law_post hv hr hp hW' (hs ds hlen) hE⟩
end Go.Smd
end
section
set_option linter.unusedSimpArgs false
namespace Go.Smd
open Go.RowKit Go.Proofs Go.ChangeShapes Go.WideShapes Go.Deep
section
variable {H : Type} {enc : TypeId × Value → H} {w : World} {held : Bool} {P : Program}
variable (enc w held P) in
def OpensAt {α : Type} (n : Nat) (T : TypeId) (E : α → List D) : Prop := ∀ (m : Nat), m ≤ n → ∀ (cs : List Value) (x : DataW H × List MemPlace), DataW.trod enc P w 0 (fun _ => true) held m T cs = some x → Light (x.1.weights P T) →
  ∃ a, All2 (RepD P w (fun _ => True)) (E a) cs
theorem opens_str {n : Nat} {T : TypeId} (ht : P.underlying T = some .string) : OpensAt enc w held P n T fun s : ByteArray => [.v (.string s)] := fun m _ cs x h hw => by
  obtain ⟨s, h1, h2, _⟩ := DataW.trod_string ht h
  subst h1; subst h2
  refine ⟨s, .cons (.v ?_) .nil⟩
  simp only [DataW.weights] at hw
  have := hw _ (List.mem_singleton_self _)
  simp only [okVb, decide_eq_true_eq]
  rw [ByteArray.size, Array.size_eq_length_toList]; exact this
theorem opens_bool {n : Nat} {T : TypeId} (ht : P.underlying T = some .bool) : OpensAt enc w held P n T fun b : Bool => [.v (.bool b)] := fun m _ cs x h hw => by
  have : ∃ b, cs = [.bool b] := by
    cases m with
    | zero => simp [DataW.trod] at h
    | succ m =>
      unfold DataW.trod at h
      rw [ht] at h
      split at h <;> simp_all
  obtain ⟨b, rfl⟩ := this
  exact ⟨b, .cons (.v rfl) .nil⟩
theorem opens_slice {α : Type} [Inhabited α] {n : Nat} {T E : TypeId} {e : α → List D} (ht : P.underlying T = some (.slice E)) (hl : ∀ a, (e a).length = P.cellsOf E) (h : ∀ m, m < n → OpensAt enc w held P m E e) :
    OpensAt enc w held P n T fun l : List α => [.sl E (l.map e)] := fun m hm cs x hx hw => by
  rcases DataW.trod_slice ht hx with ⟨rfl, rfl⟩ | ⟨a, len, cap, elems, rest, n', rfl, rfl, rfl, _, hle, _, hlen, hel, _, _⟩
  · exact ⟨[], .cons (RepD.nil E) .nil⟩
  · simp only [DataW.weights, ht, List.length_map, hlen] at hw
    have hw1 : (len + rest.length) * P.bytesOf E ≤ 140737488351232 := hw _ (List.mem_cons_self ..)
    have hw2 : Light (DataW.weightsAll P E (elems.map (·.1))) := fun x hx => hw x (List.mem_cons_of_mem _ (List.mem_append_left _ hx))
    have key : ∀ j : Nat, ∃ p : α × List Value, j < len → CellsAt w (a.add (j * P.cellsOf E)) p.2 ∧ All2 (RepD P w (fun _ => True)) (e p.1) p.2 := fun j => by
      by_cases hj : j < len
      · have he := hel j hj
        obtain ⟨y, hy⟩ : ∃ y, elems[j]? = some y := ⟨elems[j]'(by omega), List.getElem?_eq_getElem _⟩
        rw [hy] at he
        obtain ⟨cs', hc, ht'⟩ := Option.bind_eq_some_iff.1 he
        obtain ⟨v, hv⟩ := h n' (by omega) n' (Nat.le_refl _) cs' y ht' (Light.all hw2 y.1 (List.mem_map.2 ⟨y, List.mem_of_getElem? hy, rfl⟩))
        exact ⟨(v, cs'), fun _ => ⟨cells_at hc, hv⟩⟩
      · exact ⟨(default, []), fun h => absurd h hj⟩
    let G : Nat → α × List Value := fun j => Classical.choose (key j)
    have hG : ∀ j, j < len → CellsAt w (a.add (j * P.cellsOf E)) (G j).2 ∧ All2 (RepD P w (fun _ => True)) (e (G j).1) (G j).2 := fun j hj => Classical.choose_spec (key j) hj
    refine ⟨(List.range len).map fun j => (G j).1, .cons (RepD.sl_iff.2 ⟨some a, cap, by simp, by simpa using hle, by
      have := Nat.mul_le_mul_right (P.bytesOf E) (Nat.le_add_right len rest.length)
      simp; omega, fun j r hj => ?_⟩) .nil⟩
    rw [List.getElem?_map] at hj
    obtain ⟨y, hy, rfl⟩ := Option.map_eq_some_iff.1 hj
    rw [List.getElem?_map] at hy
    obtain ⟨i, hi, rfl⟩ := Option.map_eq_some_iff.1 hy
    obtain ⟨hlt, rfl⟩ := List.getElem?_eq_some_iff.1 hi
    simp only [List.length_range] at hlt
    simp only [List.getElem_range]
    refine ⟨hl _, fun _ => ⟨a, rfl, fun i d hd => ?_⟩⟩
    obtain ⟨hc, hr⟩ := hG j hlt
    obtain ⟨u, hu, hd'⟩ := hr.at hd
    exact ⟨u, trivial, hc i u hu, hd'⟩
theorem opens_val {n : Nat} : OpensAt enc w held Try.prog n 26 gvD := fun m _ cs x h hw => by
  obtain ⟨g, hg⟩ := open_val m cs x h hw
  exact ⟨g, repGV_rep hg⟩
theorem cls_all2' {S : Nat → Prop} {β : Nat → Value} {h : Nat → Option Ow} {xs : List D} {us : List Value} (k : All2 (RepD P w S) xs us) : All2 (RepC P S β h w) (cls xs) us := by
  induction k with
  | nil => exact .nil
  | cons k t ih => exact .cons k ih
end
end Go.Smd
end
section
set_option linter.unusedSimpArgs false
namespace Go.Smd
open Go.RowKit Go.Proofs Go.ChangeShapes Go.WideShapes Go.Deep
section
variable {H : Type} {enc : TypeId × Value → H} {w : World} {held : Bool} {P : Program}
variable (enc w held P) in
inductive FieldsAt (n : Nat) : Nat → List TypeId → (List D → Prop) → Prop
  | nil {o : Nat} : FieldsAt n o [] fun ds => ds = []
  | cons {o : Nat} {T : TypeId} {Ts : List TypeId} {α : Type} {E : α → List D} {Q : List D → Prop} (h : OpensAt enc w held P n T E) (t : FieldsAt n (o + P.cellsOf T) Ts Q) : FieldsAt n o (T :: Ts) fun ds => ∃ a rest, ds = E a ++ rest ∧ Q rest
theorem fieldsAt_open {n : Nat} {cs : List Value} : ∀ {o : Nat} {Ts : List TypeId} {Q : List D → Prop} {xs : List (DataW H × List MemPlace)}, FieldsAt enc w held P n o Ts Q → xs.length = Ts.length → cs.length = o + (Ts.map P.cellsOf).sum →
    (∀ (i : Nat) (T : TypeId) (x : DataW H × List MemPlace) (off : Nat), Ts[i]? = some T → xs[i]? = some x → off = o + ((Ts.take i).map P.cellsOf).sum → DataW.trod enc P w 0 (fun _ => true) held n T ((cs.drop off).take (P.cellsOf T)) = some x ∧ Light (x.1.weights P T)) →
    ∃ ds, Q ds ∧ All2 (RepD P w (fun _ => True)) ds (cs.drop o)
  | o, [], _, xs, .nil, _, hc, _ => ⟨[], rfl, by rw [List.drop_eq_nil_of_le (by simp at hc; omega)]; exact .nil⟩
  | o, T :: Ts, _, x :: xs, .cons h t, hl, hc, hf => by
    obtain ⟨h1, h2⟩ := hf 0 T x o rfl rfl (by simp)
    obtain ⟨a, ha⟩ := h n (Nat.le_refl _) _ _ h1 h2
    simp only [List.map_cons, List.sum_cons] at hc
    obtain ⟨ds, hq, hd⟩ := fieldsAt_open (cs := cs) (xs := xs) t (by simpa using hl) (by omega) fun i T' x' off hT hx hoff => hf (i + 1) T' x' off (by simpa using hT) (by simpa using hx) (by simp only [List.take_succ_cons, List.map_cons, List.sum_cons]; omega)
    refine ⟨_, ⟨a, ds, rfl, hq⟩, ?_⟩
    have e : cs.drop o = (cs.drop o).take (P.cellsOf T) ++ cs.drop (o + P.cellsOf T) := by
      rw [← List.drop_drop, List.take_append_drop]
    rw [e]
    exact ha.append hd
theorem light_each : ∀ {Ts : List TypeId} {ds : List (DataW H)}, Light (DataW.weightsEach P Ts ds) → ∀ (i : Nat) (T : TypeId) (d : DataW H), Ts[i]? = some T → ds[i]? = some d → Light (d.weights P T)
  | [], _, _, i, T, d, hT, _ => by simp at hT
  | _ :: _, [], _, i, T, d, _, hd => by simp at hd
  | T0 :: Ts, d0 :: ds, h, i, T, d, hT, hd => by
    simp only [DataW.weightsEach] at h
    cases i with
    | zero => simp at hT hd; subst hT; subst hd; exact h.append.1
    | succ i => exact light_each h.append.2 i T d (by simpa using hT) (by simpa using hd)
theorem opens_struct {α : Type} {n : Nat} {T : TypeId} {fs : Array Field} {Q : List D → Prop} {E : α → List D} (ht : P.underlying T = some (.struct fs))
    (hoff : (List.range fs.size).all (fun i => match fs[i]? with | some f => f.offset == ((fs.toList.map (·.type)).take i |>.map P.cellsOf).sum | none => false) = true) (hc : P.cellsOf T = ((fs.toList.map (·.type)).map P.cellsOf).sum)
    (hE : ∀ ds, Q ds → ∃ a, ds = E a) (h : ∀ m, m < n → FieldsAt enc w held P m 0 (fs.toList.map (·.type)) Q) : OpensAt enc w held P n T E := fun m hm cs x hx hw => by
  obtain ⟨xs, k, rfl, rfl, hlen, hxl, hf⟩ := DataW.trod_struct ht hx
  simp only [DataW.weights, ht] at hw
  obtain ⟨ds, hq, hd⟩ := fieldsAt_open (cs := cs) (xs := xs) (h k (by omega)) (by simp [hxl]) (by rw [hlen, hc]; omega) fun i T' x' off hT hx' hoff' => by
    rw [List.getElem?_map] at hT
    obtain ⟨f, hfi, rfl⟩ := Option.map_eq_some_iff.1 hT
    have hfi' : fs[i]? = some f := by simpa using hfi
    have ho := List.all_eq_true.1 hoff i (List.mem_range.2 (Array.getElem?_eq_some_iff.1 hfi').1)
    rw [hfi'] at ho
    simp only [beq_iff_eq] at ho
    have := hf i f hfi'
    rw [hx'] at this
    refine ⟨by rw [hoff', Nat.zero_add, ← ho]; exact this, light_each hw i f.type x'.1 (by rw [List.getElem?_map]; exact hT) (by rw [List.getElem?_map, hx']; rfl)⟩
  obtain ⟨a, rfl⟩ := hE ds hq
  exact ⟨a, by simpa using hd⟩
end
end Go.Smd
end
section
namespace Go.Smd
open Go.RowKit Go.Proofs Go.ChangeShapes Go.WideShapes Go.Deep
instance : Inhabited GV := ⟨.mk 0 0 0 ⟨#[]⟩ [] []⟩
instance : Inhabited AT := ⟨.mk ⟨#[]⟩ [] []⟩
instance : Inhabited RF := ⟨.mk false ⟨#[]⟩ default ⟨#[]⟩⟩
instance : Inhabited LT := ⟨.mk default ⟨#[]⟩ []⟩
instance : Inhabited MT := ⟨.mk [] default ⟨#[]⟩⟩
instance : Inhabited FT := ⟨.mk ⟨#[]⟩ default []⟩
def structFs2 (P : Program) (T : TypeId) : Array Field := match P.underlying T with | some (.struct fs) => fs | _ => #[]
theorem opens_types {H : Type} {enc : TypeId × Value → H} {w : World} {held : Bool} (n : Nat) :
    OpensAt enc w held Try.prog n 38 rfD ∧ OpensAt enc w held Try.prog n 36 atD ∧ OpensAt enc w held Try.prog n 99 ltD ∧ OpensAt enc w held Try.prog n 40 mtD ∧ OpensAt enc w held Try.prog n 44 ftD := by
  induction n using Nat.strongRecOn with
  | _ n IH =>
  refine ⟨?_, ?_, ?_, ?_, ?_⟩
  · have hf : ∀ m, m < n → FieldsAt enc w held Try.prog m 0 [4, 9, 36, 9] _ := fun m hm =>
      .cons (opens_bool (by kernel_rfl)) (.cons (opens_str (by kernel_rfl)) (.cons (IH m hm).2.1 (.cons (opens_str (by kernel_rfl)) .nil)))
    have hT : [4, 9, 36, 9] = (structFs2 Try.prog 38).toList.map (·.type) := by kernel_rfl
    rw [hT] at hf
    refine opens_struct (fs := structFs2 Try.prog 38) (by kernel_rfl) (by kernel_rfl) (by kernel_rfl) ?_ hf
    rintro ds ⟨b, _, rfl, s, _, rfl, a, _, rfl, r, _, rfl, rfl⟩
    exact ⟨.mk b s a r, by simp [rfD]⟩
  · have hf : ∀ m, m < n → FieldsAt enc w held Try.prog m 0 [9, 33, 34] _ := fun m hm =>
      .cons (opens_str (by kernel_rfl)) (.cons (opens_slice (E := 99) (e := ltD) (by kernel_rfl) (fun _ => by simp) fun k hk => (IH k (by omega)).2.2.1) (.cons (opens_slice (E := 40) (e := mtD) (by kernel_rfl) (fun _ => by simp) fun k hk => (IH k (by omega)).2.2.2.1) .nil))
    have hT : [9, 33, 34] = (structFs2 Try.prog 36).toList.map (·.type) := by kernel_rfl
    rw [hT] at hf
    refine opens_struct (fs := structFs2 Try.prog 36) (by kernel_rfl) (by kernel_rfl) (by kernel_rfl) ?_ hf
    rintro ds ⟨s, _, rfl, l, _, rfl, m, _, rfl, rfl⟩
    exact ⟨.mk s l m, by simp [atD, ltDs_eq, mtDs_eq]⟩
  · have hf : ∀ m, m < n → FieldsAt enc w held Try.prog m 0 [38, 9, 23] _ := fun m hm =>
      .cons (IH m hm).1 (.cons (opens_str (by kernel_rfl)) (.cons (opens_slice (E := 9) (e := fun s : ByteArray => [dS s]) (by kernel_rfl) (fun _ => by kernel_rfl) fun _ _ => opens_str (by kernel_rfl)) .nil))
    have hT : [38, 9, 23] = (structFs2 Try.prog 99).toList.map (·.type) := by kernel_rfl
    rw [hT] at hf
    refine opens_struct (fs := structFs2 Try.prog 99) (by kernel_rfl) (by kernel_rfl) (by kernel_rfl) ?_ hf
    rintro ds ⟨e, _, rfl, s, _, rfl, l, _, rfl, rfl⟩
    exact ⟨.mk e s l, by simp [ltD, rowS]⟩
  · have hf : ∀ m, m < n → FieldsAt enc w held Try.prog m 0 [32, 38, 9] _ := fun m hm =>
      .cons (opens_slice (E := 44) (e := ftD) (by kernel_rfl) (fun _ => by simp) fun k hk => (IH k (by omega)).2.2.2.2) (.cons (IH m hm).1 (.cons (opens_str (by kernel_rfl)) .nil))
    have hT : [32, 38, 9] = (structFs2 Try.prog 40).toList.map (·.type) := by kernel_rfl
    rw [hT] at hf
    refine opens_struct (fs := structFs2 Try.prog 40) (by kernel_rfl) (by kernel_rfl) (by kernel_rfl) ?_ hf
    rintro ds ⟨l, _, rfl, e, _, rfl, s, _, rfl, rfl⟩
    exact ⟨.mk l e s, by simp [mtD, ftDs_eq]⟩
  · have hf : ∀ m, m < n → FieldsAt enc w held Try.prog m 0 [9, 38, 24] _ := fun m hm =>
      .cons (opens_str (by kernel_rfl)) (.cons (IH m hm).1 (.cons (opens_slice (E := 26) (e := gvD) (by kernel_rfl) (fun _ => by simp) fun _ _ => opens_val) .nil))
    have hT : [9, 38, 24] = (structFs2 Try.prog 44).toList.map (·.type) := by kernel_rfl
    rw [hT] at hf
    refine opens_struct (fs := structFs2 Try.prog 44) (by kernel_rfl) (by kernel_rfl) (by kernel_rfl) ?_ hf
    rintro ds ⟨s, _, rfl, e, _, rfl, l, _, rfl, rfl⟩
    exact ⟨.mk s e l, by simp [ftD]⟩
end Go.Smd
end
section
namespace Go.Smd
open Go.RowKit Go.Proofs Go.ChangeShapes Go.WideShapes Go.Deep
section
variable {H : Type} {enc : TypeId × Value → H} {w : World} {held : Bool} {P : Program}
theorem open_agg1 {α : Type} {T : TypeId} {E : α → List D} {v : Value} {d : DataW H} {p : List MemPlace} (hd : DataW.Trod enc P w 0 (fun _ => true) held T v d p) (hw : Light (d.weights P T)) (h : ∀ n, OpensAt enc w held P n T E) (h2 : ∃ cs, v = .agg cs) :
    ∃ a, RepA P (fun _ => True) noB noH w (.agg (cls (E a))) v := by
  obtain ⟨fuel, hd⟩ := hd
  obtain ⟨a, ha⟩ := h fuel fuel (Nat.le_refl _) _ _ hd hw
  obtain ⟨cs, rfl⟩ := h2
  exact ⟨a, cs.toList, by simp, by simpa [Value.cells] using cls_all2' ha⟩
end
instance : Inhabited TD := ⟨⟨⟨#[]⟩, default⟩⟩
theorem opens_td {H : Type} {enc : TypeId × Value → H} {w : World} {held : Bool} (n : Nat) : OpensAt enc w held Try.prog n 55 tdD := by
  have hf : ∀ m, m < n → FieldsAt enc w held Try.prog m 0 [9, 36] _ := fun m hm =>
    .cons (opens_str (by kernel_rfl)) (.cons (opens_types m).2.1 .nil)
  have hT : [9, 36] = (structFs2 Try.prog 55).toList.map (·.type) := by kernel_rfl
  rw [hT] at hf
  refine opens_struct (fs := structFs2 Try.prog 55) (by kernel_rfl) (by kernel_rfl) (by kernel_rfl) ?_ hf
  rintro ds ⟨s, _, rfl, a, _, rfl, rfl⟩
  exact ⟨⟨s, a⟩, by simp [tdD]⟩
theorem opens_schema {H : Type} {enc : TypeId × Value → H} {w : World} {held : Bool} (n : Nat) : OpensAt enc w held Try.prog n 51 (fun l => [dTDs l]) := by
  have hf : ∀ m, m < n → FieldsAt enc w held Try.prog m 0 [49] _ := fun m hm =>
    .cons (opens_slice (E := 55) (e := tdD) (by kernel_rfl) (fun _ => by simp) fun k hk => opens_td k) .nil
  have hT : [49] = (structFs2 Try.prog 51).toList.map (·.type) := by kernel_rfl
  rw [hT] at hf
  refine opens_struct (fs := structFs2 Try.prog 51) (by kernel_rfl) (by kernel_rfl) (by kernel_rfl) ?_ hf
  rintro ds ⟨l, _, rfl, rfl⟩
  exact ⟨l, by simp⟩
end Go.Smd
end
section
namespace Go.Proofs.Ytphldfnnjoehpaa
open Go.Smd Go.RowKit Go.Proofs Go.ChangeShapes Go.WideShapes Go.ChangeAt
set_option maxRecDepth 100000 in
theorem copySchema_lifted (os : Os) (started : os.Started) (H : Type) (enc : TypeId × Value → H) :
    ReturnsInHanded {} Try.checked os 6 .any (Rows.fnCopySchemaSpec.pre6 enc Try.prog Try.f6 Rows.fnCopySchemaRow.domain false) (Rows.fnCopySchemaSpec.post enc Try.prog Try.f6 false true false false) := by
  refine law_lift Try.func6 rfl rfl (by decide +kernel) (by kernel_rfl) started (fun ds h => ?_)
    (ChangeSpec.witness6 (enc := enc) (C := Try.checked) false ⟨#[], #[.agg #[.slice none 0 0], .agg #[.slice none 0 0]], []⟩ 8 (by kernel_rfl) (by kernel_rfl) (by kernel_rfl) (by kernel_rfl)) ?_
  · match ds, h with
    | [d1, d2], _ => rfl
  · intro W args ds p hA hw hval
    obtain ⟨_, hval⟩ := hval
    rw [Try.params6] at hA hw hval
    obtain ⟨v1, vs1, d1, ds1, p1, q1, e1, rfl, rfl, t1, hA⟩ := trodAll_cons hA
    obtain ⟨v2, vs2, d2, ds2, p2, q2, rfl, rfl, rfl, t2, hA⟩ := trodAll_cons hA
    obtain ⟨rfl, rfl, rfl⟩ := trodAll_nil hA
    have ea : args = #[v1, v2] := by rw [← Array.toArray_toList (xs := args), e1]
    subst ea
    simp only [DataW.weightsEach] at hw
    have hw : Light (DataW.weights Try.prog 51 d1 ++ (DataW.weights Try.prog 51 d2 ++ [])) := hw
    have w1 := hw.append.1
    have w2 := hw.append.2.append.1
    obtain ⟨a, ra⟩ := open_agg1 t1 w1 (fun n => opens_schema n) ((okWide_struct (fs := structFs2 Try.prog 51) (by kernel_rfl) (hval 0 51 v1 rfl rfl)).imp fun _ h => h.1)
    obtain ⟨b, rb⟩ := open_agg1 t2 w2 (fun n => opens_schema n) ((okWide_struct (fs := structFs2 Try.prog 51) (by kernel_rfl) (hval 1 51 v2 rfl rfl)).imp fun _ h => h.1)
    exact law_walk (fnCopySchema_a a b) (.cons ra (.cons rb .nil))
theorem copySchema_holds : Rows.FnCopySchemaSaid :=
  OpenClaim.holds_of_wide 6 Try.f6 rfl rfl rfl rfl rfl rfl rfl ⟨rfl, rfl, rfl, rfl, rfl⟩ rfl rfl rfl rfl rfl (by kernel_rfl) Try.func6 (by kernel_rfl)
    (of_decide_eq_true (by kernel_rfl)) (by unfold Func.isWrapper; first | (rw [if_pos (by decide +kernel)]; kernel_rfl) | (rw [if_neg (by decide +kernel)]; exact ⟨rfl, rfl⟩))
    (fun os started H enc _ => copySchema_lifted os started H enc)
end Go.Proofs.Ytphldfnnjoehpaa
end
#print axioms Go.Proofs.Ytphldfnnjoehpaa.copySchema_holds
