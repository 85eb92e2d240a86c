/- Part 19 of the proof: Sb. -/
import Derived.Test.YtphldfnnjoehpaaQC17
import Derived.Test.YtphldfnnjoehpaaQC18
set_option linter.unusedVariables false
section
set_option linter.unusedSimpArgs false
set_option maxRecDepth 100000
set_option maxHeartbeats 8000000
namespace Go.Smd
open Go.RowKit Go.Proofs
def nD : List GV → List GV
  | [] => []
  | d :: _ => if isNilT (treeOf d) = true then [] else [clean d]
mutual
def nR : RF → RF
  | .mk named name a rel => if named = true then .mk true name (.mk ⟨#[]⟩ [] []) rel else .mk false ⟨#[]⟩ (nA a) rel
def nA : AT → AT
  | .mk sc ls ms => .mk sc (nLs ls) (nMs ms)
def nLs : List LT → List LT
  | [] => []
  | l :: _ => [nL l]
def nMs : List MT → List MT
  | [] => []
  | m :: _ => [nM m]
def nL : LT → LT
  | .mk e rel keys => .mk (nR e) rel keys
def nM : MT → MT
  | .mk fs e rel => .mk (nFs fs) (nR e) rel
def nF : FT → FT
  | .mk name r dflt => .mk name (nR r) (nD dflt)
def nFs : List FT → List FT
  | [] => []
  | f :: l => nF f :: nFs l
end
theorem nFs_eq : ∀ l, nFs l = l.map nF
  | [] => by simp [nFs]
  | x :: l => by simp [nFs, nFs_eq l]
abbrev FRef (r : RF) : Prop := ACalls Try.prog 98 [.agg (cls (srD r))] (fun x => x = .agg (cls (rfD (nR r))))
abbrev FAtom (a : AT) : Prop := ACalls Try.prog 101 [.agg (cls (saD a))] (fun x => x = .agg (cls (atD (nA a))))
abbrev FMap (m : MT) : Prop := ACalls Try.prog 117 [.c (.d (.pt (smD m)))] (fun x => x = .agg (cls (mtD (nM m))))
abbrev FField (f : FT) : Prop := ACalls Try.prog 65 [.agg (cls (sfD f))] (fun x => x = .agg (cls (ftD (nF f))))
theorem relD_cases (rel : ByteArray) : (rel = ⟨#[]⟩ ∧ relD rel = .v (.pointer none)) ∨ (¬ rel = ⟨#[]⟩ ∧ relD rel = .pt [dS rel]) := by
  unfold relD
  by_cases h : rel = ⟨#[]⟩
  · exact .inl ⟨h, if_pos h⟩
  · exact .inr ⟨h, if_neg h⟩
theorem fromRef_s (named : Bool) (name : ByteArray) (a : AT) (rel : ByteArray) (h0 : FAtom (.mk ⟨#[]⟩ [] [])) (h : FAtom a) : FRef (.mk named name a rel) := by
  unfold FRef
  unfold FAtom at h h0
  have e0 : saD (.mk ⟨#[]⟩ [] []) = [.v (.pointer none), .v (.pointer none), .v (.pointer none)] := by simp [saD, relD, slP, smP]
  have n0 : atD (nA (.mk ⟨#[]⟩ [] [])) = atX ⟨#[]⟩ [] [] := by simp only [nA, nLs, nMs, atD_x]
  rw [e0, n0] at h0
  obtain ⟨p, q, r, e⟩ := saD_three a
  obtain ⟨sc, ls, ms, en⟩ : ∃ sc ls ms, nA a = .mk sc ls ms := by cases nA a; exact ⟨_, _, _, rfl⟩
  rw [e, en, atD_x] at h
  cases named
  · have e1 : srD (.mk false name a rel) = [.v (.pointer none), p, q, r, relD rel, dB false] := by simp [srD, e]
    have e2 : rfD (nR (.mk false name a rel)) = rfX false ⟨#[]⟩ sc ls ms rel := by simp only [nR, Bool.false_eq_true, if_false, en, rfD_x]
    rw [e1, e2]
    rcases relD_cases rel with ⟨rfl, er⟩ | ⟨hr, er⟩
    all_goals
      rw [er]
      try simp only [cls_cons, cls_nil] at *
      refine acalls_ex [(3, ([], [(0, []), (4, []), (1, [5]), (2, []), (3, [5]), (5, []), (6, []), (7, [])]))] Try.func98 (by kernel_rfl) rfl Try.ntmps98 Try.results98 (Nat.le_of_ble_eq_true (by kernel_rfl)) ?_; intro hok w0 S0
      clear hok
      (repeat' (first
                                                            | (with_reducible refine br_d (fun _ => ?_) (fun _ => ?_))
                                                            | (with_reducible refine br_i (fun _ => ?_) (fun _ => ?_))
                                                            | (with_reducible refine nd_v (h) (by first | rfl | (simp -dsimp; done)) ?_)
                                                            | (with_reducible refine nw_v (h) rfl (by first | rfl | (simp -dsimp; done)) (by first | rfl | (simp -dsimp; done)) ?_)
                                                            | ((with_reducible apply nd_next); (case hx => simp -dsimp; first | done | with_reducible rfl); (case hid => simp -dsimp; first | done | with_reducible rfl | exact ⟨rfl, rfl, rfl⟩ | exact ⟨rfl, rfl⟩); (case' h1 => intro _ _ _); (case' h0 => intro _))
                                                            | ((with_reducible apply nd_entry); (case hx => simp -dsimp; first | done | with_reducible rfl); (case hid => simp -dsimp; first | done | with_reducible rfl | exact ⟨rfl, rfl, rfl⟩ | exact ⟨rfl, rfl⟩))
                                                            | ((with_reducible apply nd_range); (case hx => simp -dsimp; with_reducible rfl); (case hT => simp -dsimp); (case hnd => assumption); (case hz => simp -dsimp))
                                                            | (with_reducible refine dn_i follows_any (by kernel_rfl) ?_)
                                                            | (with_reducible exact done_eq rfl)
                                                            | (simp -dsimp))); (all_goals try with_reducible refine done_eq ?_)
  · have e1 : srD (.mk true name a rel) = [.pt [dS name], .v (.pointer none), .v (.pointer none), .v (.pointer none), relD rel, dB false] := by simp [srD]
    have e2 : rfD (nR (.mk true name a rel)) = rfX true name ⟨#[]⟩ [] [] rel := by simp only [nR, if_true, rfD_x]
    rw [e1, e2]
    rcases relD_cases rel with ⟨rfl, er⟩ | ⟨hr, er⟩
    all_goals
      rw [er]
      try simp only [cls_cons, cls_nil] at *
      refine acalls_ex [(3, ([], [(0, []), (4, []), (1, [5]), (2, []), (3, [5]), (5, []), (6, []), (7, [])]))] Try.func98 (by kernel_rfl) rfl Try.ntmps98 Try.results98 (Nat.le_of_ble_eq_true (by kernel_rfl)) ?_; intro hok w0 S0
      clear hok
      (repeat' (first
                                                            | (with_reducible refine br_d (fun _ => ?_) (fun _ => ?_))
                                                            | (with_reducible refine br_i (fun _ => ?_) (fun _ => ?_))
                                                            | (with_reducible refine nd_v (h0) (by first | rfl | (simp -dsimp; done)) ?_)
                                                            | (with_reducible refine nw_v (h0) rfl (by first | rfl | (simp -dsimp; done)) (by first | rfl | (simp -dsimp; done)) ?_)
                                                            | ((with_reducible apply nd_next); (case hx => simp -dsimp; first | done | with_reducible rfl); (case hid => simp -dsimp; first | done | with_reducible rfl | exact ⟨rfl, rfl, rfl⟩ | exact ⟨rfl, rfl⟩); (case' h1 => intro _ _ _); (case' h0 => intro _))
                                                            | ((with_reducible apply nd_entry); (case hx => simp -dsimp; first | done | with_reducible rfl); (case hid => simp -dsimp; first | done | with_reducible rfl | exact ⟨rfl, rfl, rfl⟩ | exact ⟨rfl, rfl⟩))
                                                            | ((with_reducible apply nd_range); (case hx => simp -dsimp; with_reducible rfl); (case hT => simp -dsimp); (case hnd => assumption); (case hz => simp -dsimp))
                                                            | (with_reducible refine dn_i follows_any (by kernel_rfl) ?_)
                                                            | (with_reducible exact done_eq rfl)
                                                            | (simp -dsimp))); (all_goals try with_reducible refine done_eq ?_)
theorem fromAtom_s (sc : ByteArray) (ls : List LT) (ms : List MT) (hl : ∀ e rel keys, ls.head? = some (.mk e rel keys) → FRef e ∧ keys.length * 16 ≤ 140737488351232) (hm : ∀ m, ms.head? = some m → FMap m) : FAtom (.mk sc ls ms) := by
  unfold FAtom
  simp only [saD, nA, atD_x]
  cases ls with
  | nil => cases ms with
    | nil =>
      simp only [nLs, nMs, slP, smP]
      rcases relD_cases sc with ⟨rfl, er⟩ | ⟨hr, er⟩
      all_goals
        rw [er]
        try simp only [cls_cons, cls_nil] at *
        refine acalls_ex [(5, ([], [(0, []), (1, []), (2, []), (3, []), (4, []), (6, []), (7, []), (8, []), (9, []), (10, []), (11, []), (12, []), (13, []), (14, []), (15, []), (5, []), (16, []), (17, []), (18, []), (19, []), (20, [])]))] Try.func101 (by kernel_rfl) rfl Try.ntmps101 Try.results101 (Nat.le_of_ble_eq_true (by kernel_rfl)) ?_; intro hok w0 S0
        clear hok
        (repeat' (first
                                                            | (with_reducible refine br_d (fun _ => ?_) (fun _ => ?_))
                                                            | (with_reducible refine br_i (fun _ => ?_) (fun _ => ?_))
                                                            | ((with_reducible apply nd_next); (case hx => simp -dsimp; first | done | with_reducible rfl); (case hid => simp -dsimp; first | done | with_reducible rfl | exact ⟨rfl, rfl, rfl⟩ | exact ⟨rfl, rfl⟩); (case' h1 => intro _ _ _); (case' h0 => intro _))
                                                            | ((with_reducible apply nd_entry); (case hx => simp -dsimp; first | done | with_reducible rfl); (case hid => simp -dsimp; first | done | with_reducible rfl | exact ⟨rfl, rfl, rfl⟩ | exact ⟨rfl, rfl⟩))
                                                            | ((with_reducible apply nd_range); (case hx => simp -dsimp; with_reducible rfl); (case hT => simp -dsimp); (case hnd => assumption); (case hz => simp -dsimp))
                                                            | (with_reducible refine dn_i follows_any (by kernel_rfl) ?_)
                                                            | (with_reducible exact done_eq rfl)
                                                            | (simp -dsimp))); (all_goals try with_reducible refine done_eq ?_)
    | cons m ms =>
      have h2 := hm m rfl
      obtain ⟨fs, named, name, sc2, ls2, ms2, rel, rel2, en⟩ : ∃ fs named name sc2 ls2 ms2 rel rel2, nM m = .mk fs (.mk named name (.mk sc2 ls2 ms2) rel) rel2 := by
        obtain ⟨fs, ⟨named, name, ⟨sc2, ls2, ms2⟩, rel⟩, rel2⟩ := nM m
        exact ⟨_, _, _, _, _, _, _, _, rfl⟩
      unfold FMap at h2
      rw [en, mtD_x] at h2
      simp only [nLs, nMs, slP, smP, en, dMTs, List.map_cons, List.map_nil, mtD_x]
      rcases relD_cases sc with ⟨rfl, er⟩ | ⟨hr, er⟩
      all_goals
        rw [er]
        try simp only [cls_cons, cls_nil] at *
        refine acalls_ex [(5, ([], [(0, []), (1, []), (2, []), (3, []), (4, []), (6, []), (7, []), (8, []), (9, []), (10, []), (11, []), (12, []), (13, []), (14, []), (15, []), (5, []), (16, []), (17, []), (18, []), (19, []), (20, [])]))] Try.func101 (by kernel_rfl) rfl Try.ntmps101 Try.results101 (Nat.le_of_ble_eq_true (by kernel_rfl)) ?_; intro hok w0 S0
        clear hok
        (repeat' (first
                                                            | (with_reducible refine br_d (fun _ => ?_) (fun _ => ?_))
                                                            | (with_reducible refine br_i (fun _ => ?_) (fun _ => ?_))
                                                            | (with_reducible refine nd_v (h2) (by first | rfl | (simp -dsimp [toDs]; done)) ?_)
                                                            | (with_reducible refine nw_v (h2) rfl (by first | rfl | (simp -dsimp [toDs]; done)) (by first | rfl | (simp -dsimp [toDs]; done)) ?_)
                                                            | ((with_reducible apply nd_next); (case hx => simp -dsimp [toDs]; first | done | with_reducible rfl); (case hid => simp -dsimp [toDs]; first | done | with_reducible rfl | exact ⟨rfl, rfl, rfl⟩ | exact ⟨rfl, rfl⟩); (case' h1 => intro _ _ _); (case' h0 => intro _))
                                                            | ((with_reducible apply nd_entry); (case hx => simp -dsimp [toDs]; first | done | with_reducible rfl); (case hid => simp -dsimp [toDs]; first | done | with_reducible rfl | exact ⟨rfl, rfl, rfl⟩ | exact ⟨rfl, rfl⟩))
                                                            | ((with_reducible apply nd_range); (case hx => simp -dsimp [toDs]; with_reducible rfl); (case hT => simp -dsimp [toDs]); (case hnd => assumption); (case hz => simp -dsimp [toDs]))
                                                            | (with_reducible refine dn_i follows_any (by kernel_rfl) ?_)
                                                            | (with_reducible exact done_eq rfl)
                                                            | (simp -dsimp [toDs]))); (all_goals try with_reducible refine done_eq ?_)
      all_goals first | rfl | (simp only [dLTs, dMTs, List.map_cons, List.map_nil, ltD_x, mtD_x]; first | done | rfl)
  | cons l ls =>
    obtain ⟨e, rel0, keys⟩ := l
    obtain ⟨h1, hk⟩ := hl e rel0 keys rfl
    obtain ⟨p0, p1, p2, p3, p4, p5, he⟩ := srD_six e
    obtain ⟨named1, name1, sc1, ls1, ms1, rel1, en1⟩ : ∃ named name sc2 ls2 ms2 rel, nR e = .mk named name (.mk sc2 ls2 ms2) rel := by
      obtain ⟨named, name, ⟨sc2, ls2, ms2⟩, rel⟩ := nR e
      exact ⟨_, _, _, _, _, _, rfl⟩
    unfold FRef at h1
    rw [he, en1, rfD_x] at h1
    have hs : slD (.mk e rel0 keys) = [p0, p1, p2, p3, p4, p5, dS rel0, dStrs keys] := by simp [slD, he]
    cases ms with
    | nil =>
      simp only [nLs, nMs, nL, slP, smP, hs, en1, dLTs, List.map_cons, List.map_nil, ltD_x]
      rcases relD_cases sc with ⟨rfl, er⟩ | ⟨hr, er⟩
      · rw [er]
        try simp only [cls_cons, cls_nil] at *
        refine acalls_ex [] Try.func101 (by kernel_rfl) rfl Try.ntmps101 Try.results101 (Nat.le_of_ble_eq_true (by kernel_rfl)) ?_; intro hok w0 S0
        clear hok
        (repeat' (first
                                                            | (with_reducible refine br_d (fun _ => ?_) (fun _ => ?_))
                                                            | (with_reducible refine br_i (fun _ => ?_) (fun _ => ?_))
                                                            | ((with_reducible apply nd_next); (case hx => simp -dsimp [toDs, hk]; first | done | with_reducible rfl); (case hid => simp -dsimp [toDs, hk]; first | done | with_reducible rfl | exact ⟨rfl, rfl, rfl⟩ | exact ⟨rfl, rfl⟩); (case' h1 => intro _ _ _); (case' h0 => intro _))
                                                            | ((with_reducible apply nd_entry); (case hx => simp -dsimp [toDs, hk]; first | done | with_reducible rfl); (case hid => simp -dsimp [toDs, hk]; first | done | with_reducible rfl | exact ⟨rfl, rfl, rfl⟩ | exact ⟨rfl, rfl⟩))
                                                            | ((with_reducible apply nd_range); (case hx => simp -dsimp [toDs, hk]; with_reducible rfl); (case hT => simp -dsimp [toDs, hk]); (case hnd => assumption); (case hz => simp -dsimp [toDs, hk]))
                                                            | (with_reducible refine dn_i follows_any (by kernel_rfl) ?_)
                                                            | (with_reducible exact done_eq rfl)
                                                            | (simp -dsimp [toDs, hk]))); (all_goals try with_reducible refine done_eq ?_)
        refine exD_p ?_
        refine aw_drawn_n follows_any [[], [0], [0, 1], [0, 1, 2], [0, 1, 2, 3], [0, 1, 2, 3, 4], [], [6], [6, 7], [6, 7, 8], [6, 7, 8, 9], [], [11], [11, 12], [11, 12, 13], [11, 12, 13, 14], [0, 1, 2, 3, 4, 5, 11, 12, 13, 14, 15], [0, 1, 2, 3, 4, 5, 6, 7, 8, 9, 10, 11, 12, 13, 14, 15, 16], [0, 1, 2, 3, 4, 5, 6, 7, 8, 9, 10, 11, 12, 13, 14, 15, 16, 17], [0, 1, 2, 3, 4, 5, 6, 7, 8, 9, 10, 11, 12, 13, 14, 15, 16, 17, 18], [0, 1, 2, 3, 4, 5, 6, 7, 8, 9, 10, 11, 12, 13, 14, 15, 16, 17, 18, 19]] [0, 1, 2, 3, 4, 5, 6, 7, 8, 9, 10, 11, 12, 13, 14, 15, 16, 17, 18, 19, 20] [16, 18, 20] [([], ⟨[(16, ?m16u1), (17, ?m17u1), (18, ?m18u1), (19, ?m19u1), (20, ?m20u1), (21, ?m21u1), (22, ?m22u1), (23, ?m23u1), (24, ?m24u1), (25, ?m25u1), (26, ?m26u1), (27, ?m27u1), (28, ?m28u1), (29, ?m29u1), (30, ?m30u1), (31, ?m31u1), (32, ?m32u1), (33, ?m33u1), (34, ?m34u1), (35, ?m35u1)], ?bu1, ?o0u1⟩), ([16], ⟨[(16, ?m16u1), (17, ?m17u1), (18, ?m18u1), (19, ?m19u1), (20, ?m20u1), (21, ?m21u1), (22, ?m22u1), (23, ?m23u1), (24, ?m24u1), (25, ?m25u1), (26, ?m26u1), (27, ?m27u1), (28, ?m28u1), (29, ?m29u1), (30, ?m30u1), (31, ?m31u1), (32, ?m32u1), (33, ?m33u1), (34, ?m34u1), (35, ?m35u1)], ?bu1, ?o1u1⟩), ([16, 18], ⟨[(16, ?m16u1), (17, ?m17u1), (18, ?m18u1), (19, ?m19u1), (20, ?m20u1), (21, ?m21u1), (22, ?m22u1), (23, ?m23u1), (24, ?m24u1), (25, ?m25u1), (26, ?m26u1), (27, ?m27u1), (28, ?m28u1), (29, ?m29u1), (30, ?m30u1), (31, ?m31u1), (32, ?m32f18u1), (33, ?m33f18u1), (34, ?m34u1), (35, ?m35u1)], ?bf18u1, ?o2u1⟩), ([16, 18, 20], ⟨[(16, ?m16u1), (17, ?m17u1), (18, ?m18u1), (19, ?m19u1), (20, ?m20u1), (21, ?m21u1), (22, ?m22u1), (23, ?m23u1), (24, ?m24u1), (25, ?m25u1), (26, ?m26u1), (27, ?m27u1), (28, ?m28u1), (29, ?m29u1), (30, ?m30u1), (31, ?m31u1), (32, ?m32f18u1), (33, ?m33f18u1), (34, ?m34u1), (35, ?m35u1)], ?bf18u1, ?o3u1⟩)] ?hoku1 rfl rfl ?hbu1 ?hou1 ?hstu1 ?hku1
        case' hbu1 => rfl
        case' hou1 => rfl
        case' hstu1 => refine ⟨⟨?v0u1, ?s0u1⟩, ⟨⟨?v1u1, ?s1u1⟩, ⟨⟨?v2u1, ?s2u1⟩, ⟨⟨?v3u1, ?s3u1⟩, True.intro⟩⟩⟩⟩
        case v0u1 =>
          refine ⟨.inr ⟨_, rfl, effN_self (eff_v rfl rfl (by simp -dsimp [valT, toDs, hk] <;> with_reducible rfl))⟩, ?_⟩
          refine ⟨.inr ⟨_, rfl, effN_self (eff_v rfl rfl (by simp -dsimp [valT, toDs, hk] <;> with_reducible rfl))⟩, ?_⟩
          refine ⟨.inr ⟨_, rfl, effN_self (eff_v rfl rfl (by simp -dsimp [valT, toDs, hk] <;> with_reducible rfl))⟩, ?_⟩
          refine ⟨.inr ⟨_, rfl, effN_self (eff_v rfl rfl (by simp -dsimp [valT, toDs, hk] <;> with_reducible rfl))⟩, ?_⟩
          refine ⟨.inr ⟨_, rfl, effN_self (eff_v rfl rfl (by simp -dsimp [valT, toDs, hk] <;> with_reducible rfl))⟩, ?_⟩
          refine ⟨.inr ⟨_, rfl, effN_self (eff_c (d := 21) (h1) rfl rfl rfl (by simp -dsimp [valT, toDs, hk] <;> (first | done | rfl | exact ⟨rfl, rfl⟩ | exact ⟨rfl, rfl, rfl⟩)) (by simp -dsimp [valT, toDs, hk]) (by simp -dsimp [valT, toDs, hk] <;> with_reducible rfl))⟩, ?_⟩
          refine ⟨.inr ⟨_, rfl, effN_self (eff_v rfl rfl (by simp -dsimp [valT, toDs, hk] <;> with_reducible rfl))⟩, ?_⟩
          refine ⟨.inr ⟨_, rfl, effN_self (eff_v rfl rfl (by simp -dsimp [valT, toDs, hk] <;> with_reducible rfl))⟩, ?_⟩
          refine ⟨.inr ⟨_, rfl, effN_self (eff_v rfl rfl (by simp -dsimp [valT, toDs, hk] <;> with_reducible rfl))⟩, ?_⟩
          refine ⟨.inr ⟨_, rfl, effN_self (eff_v rfl rfl (by simp -dsimp [valT, toDs, hk] <;> with_reducible rfl))⟩, ?_⟩
          refine ⟨.inr ⟨_, rfl, effN_self (eff_v rfl rfl (by simp -dsimp [valT, toDs, hk] <;> with_reducible rfl))⟩, ?_⟩
          refine ⟨.inr ⟨_, rfl, effN_self (eff_v rfl rfl (by simp -dsimp [valT, toDs, hk] <;> with_reducible rfl))⟩, ?_⟩
          refine ⟨.inr ⟨_, rfl, effN_self (eff_v rfl rfl (by simp -dsimp [valT, toDs, hk] <;> with_reducible rfl))⟩, ?_⟩
          refine ⟨.inr ⟨_, rfl, effN_self (eff_v rfl rfl (by simp -dsimp [valT, toDs, hk] <;> with_reducible rfl))⟩, ?_⟩
          refine ⟨.inr ⟨_, rfl, effN_self (eff_v rfl rfl (by simp -dsimp [valT, toDs, hk] <;> with_reducible rfl))⟩, ?_⟩
          refine ⟨.inr ⟨_, rfl, effN_self (eff_v rfl rfl (by simp -dsimp [valT, toDs, hk] <;> with_reducible rfl))⟩, ?_⟩
          refine ⟨.inl (by kernel_rfl), ?_⟩
          refine ⟨.inl (by kernel_rfl), ?_⟩
          refine ⟨.inl (by kernel_rfl), ?_⟩
          refine ⟨.inl (by kernel_rfl), ?_⟩
          refine ⟨.inl (by kernel_rfl), ?_⟩
          exact True.intro
        case s0u1 =>
          refine ⟨.inr ⟨_, _, rfl, rfl, effN_of (eff_w (hdk := rfl) (hW := rfl) (hq := by simp -dsimp [valT, toDs, hk] <;> (first | done | rfl | exact ⟨rfl, rfl⟩ | exact ⟨rfl, rfl, rfl⟩)) (hoo := rfl) (hv := by simp -dsimp [valT, toDs, hk] <;> with_reducible rfl)) (by simp -dsimp [valT, canonO, insO, toDs, hk] <;> with_reducible rfl)⟩, ?_⟩
          refine ⟨.inl (by kernel_rfl), ?_⟩
          refine ⟨.inl (by kernel_rfl), ?_⟩
          exact True.intro
        case v1u1 =>
          refine ⟨.inl (by kernel_rfl), ?_⟩
          refine ⟨.inl (by kernel_rfl), ?_⟩
          refine ⟨.inl (by kernel_rfl), ?_⟩
          refine ⟨.inl (by kernel_rfl), ?_⟩
          refine ⟨.inl (by kernel_rfl), ?_⟩
          refine ⟨.inl (by kernel_rfl), ?_⟩
          refine ⟨.inr ⟨_, rfl, effN_self (eff_v rfl rfl (by simp -dsimp [valT, toDs, hk] <;> with_reducible rfl))⟩, ?_⟩
          refine ⟨.inr ⟨_, rfl, effN_self (eff_v rfl rfl (by simp -dsimp [valT, toDs, hk] <;> with_reducible rfl))⟩, ?_⟩
          refine ⟨.inr ⟨_, rfl, effN_self (eff_v rfl rfl (by simp -dsimp [valT, toDs, hk] <;> with_reducible rfl))⟩, ?_⟩
          refine ⟨.inr ⟨_, rfl, effN_self (eff_v rfl rfl (by simp -dsimp [valT, toDs, hk] <;> with_reducible rfl))⟩, ?_⟩
          refine ⟨.inr ⟨_, rfl, effN_self (eff_v rfl rfl (by simp -dsimp [valT, toDs, hk] <;> with_reducible rfl))⟩, ?_⟩
          refine ⟨.inl (by kernel_rfl), ?_⟩
          refine ⟨.inl (by kernel_rfl), ?_⟩
          refine ⟨.inl (by kernel_rfl), ?_⟩
          refine ⟨.inl (by kernel_rfl), ?_⟩
          refine ⟨.inl (by kernel_rfl), ?_⟩
          refine ⟨.inl (by kernel_rfl), ?_⟩
          refine ⟨.inr ⟨_, rfl, effN_self (eff_v rfl rfl (by simp -dsimp [valT, toDs, hk] <;> with_reducible rfl))⟩, ?_⟩
          refine ⟨.inl (by kernel_rfl), ?_⟩
          refine ⟨.inl (by kernel_rfl), ?_⟩
          refine ⟨.inl (by kernel_rfl), ?_⟩
          exact True.intro
        case' s1u1 =>
          refine ⟨.inl (by kernel_rfl), ?_⟩
          refine ⟨.inr ⟨_, _, rfl, rfl, effN_frz [32] [32, 33] ⟨(by simp -dsimp [valT, toDs, hk] <;> with_reducible rfl), (by simp -dsimp [valT, toDs, hk] <;> with_reducible rfl), True.intro⟩ (by simp) rfl rfl (by simp -dsimp [valT, toDs, hk]) ?hf18k1u1 (by simp -dsimp [valT, toDs, hk] <;> with_reducible rfl) (by simp -dsimp [valT, toDs, hk] <;> with_reducible rfl) (by simp -dsimp [valT, toDs, hk] <;> (first | done | rfl | exact ⟨rfl, rfl⟩ | exact ⟨rfl, rfl, rfl⟩)) (by simp -dsimp [valT, canonO, insO, toDs, hk] <;> with_reducible rfl) (by simp -dsimp [valT, toDs, hk] <;> with_reducible rfl)⟩, ?_⟩
          rotate_left
          refine ⟨.inl (by kernel_rfl), ?_⟩
          exact True.intro
        case v2u1 =>
          refine ⟨.inl (by kernel_rfl), ?_⟩
          refine ⟨.inl (by kernel_rfl), ?_⟩
          refine ⟨.inl (by kernel_rfl), ?_⟩
          refine ⟨.inl (by kernel_rfl), ?_⟩
          refine ⟨.inl (by kernel_rfl), ?_⟩
          refine ⟨.inl (by kernel_rfl), ?_⟩
          refine ⟨.inl (by kernel_rfl), ?_⟩
          refine ⟨.inl (by kernel_rfl), ?_⟩
          refine ⟨.inl (by kernel_rfl), ?_⟩
          refine ⟨.inl (by kernel_rfl), ?_⟩
          refine ⟨.inl (by kernel_rfl), ?_⟩
          refine ⟨.inl (by kernel_rfl), ?_⟩
          refine ⟨.inl (by kernel_rfl), ?_⟩
          refine ⟨.inl (by kernel_rfl), ?_⟩
          refine ⟨.inl (by kernel_rfl), ?_⟩
          refine ⟨.inl (by kernel_rfl), ?_⟩
          refine ⟨.inl (by kernel_rfl), ?_⟩
          refine ⟨.inl (by kernel_rfl), ?_⟩
          refine ⟨.inl (by kernel_rfl), ?_⟩
          refine ⟨.inr ⟨_, rfl, effN_self (eff_v rfl rfl (by simp -dsimp [valT, toDs, hk] <;> with_reducible rfl))⟩, ?_⟩
          refine ⟨.inl (by kernel_rfl), ?_⟩
          exact True.intro
        case s2u1 =>
          refine ⟨.inl (by kernel_rfl), ?_⟩
          refine ⟨.inl (by kernel_rfl), ?_⟩
          refine ⟨.inr ⟨_, _, rfl, rfl, effN_of (eff_w (hdk := rfl) (hW := rfl) (hq := by simp -dsimp [valT, toDs, hk] <;> (first | done | rfl | exact ⟨rfl, rfl⟩ | exact ⟨rfl, rfl, rfl⟩)) (hoo := rfl) (hv := by simp -dsimp [valT, toDs, hk] <;> with_reducible rfl)) (by simp -dsimp [valT, canonO, insO, toDs, hk] <;> with_reducible rfl)⟩, ?_⟩
          exact True.intro
        case v3u1 =>
          refine ⟨.inl (by kernel_rfl), ?_⟩
          refine ⟨.inl (by kernel_rfl), ?_⟩
          refine ⟨.inl (by kernel_rfl), ?_⟩
          refine ⟨.inl (by kernel_rfl), ?_⟩
          refine ⟨.inl (by kernel_rfl), ?_⟩
          refine ⟨.inl (by kernel_rfl), ?_⟩
          refine ⟨.inl (by kernel_rfl), ?_⟩
          refine ⟨.inl (by kernel_rfl), ?_⟩
          refine ⟨.inl (by kernel_rfl), ?_⟩
          refine ⟨.inl (by kernel_rfl), ?_⟩
          refine ⟨.inl (by kernel_rfl), ?_⟩
          refine ⟨.inl (by kernel_rfl), ?_⟩
          refine ⟨.inl (by kernel_rfl), ?_⟩
          refine ⟨.inl (by kernel_rfl), ?_⟩
          refine ⟨.inl (by kernel_rfl), ?_⟩
          refine ⟨.inl (by kernel_rfl), ?_⟩
          refine ⟨.inl (by kernel_rfl), ?_⟩
          refine ⟨.inl (by kernel_rfl), ?_⟩
          refine ⟨.inl (by kernel_rfl), ?_⟩
          refine ⟨.inl (by kernel_rfl), ?_⟩
          refine ⟨.inl (by kernel_rfl), ?_⟩
          exact True.intro
        case s3u1 =>
          refine ⟨.inl (by kernel_rfl), ?_⟩
          refine ⟨.inl (by kernel_rfl), ?_⟩
          refine ⟨.inl (by kernel_rfl), ?_⟩
          exact True.intro
        case s1u1 => simp -dsimp [valT, toDs, hk]
        case hoku1 => kernel_rfl
        refine ⟨rfl, ?_⟩
        (repeat' (first
                                                            | (with_reducible refine br_d (fun _ => ?_) (fun _ => ?_))
                                                            | (with_reducible refine br_i (fun _ => ?_) (fun _ => ?_))
                                                            | ((with_reducible apply nd_next); (case hx => simp -dsimp [toDs, hk]; first | done | with_reducible rfl); (case hid => simp -dsimp [toDs, hk]; first | done | with_reducible rfl | exact ⟨rfl, rfl, rfl⟩ | exact ⟨rfl, rfl⟩); (case' h1 => intro _ _ _); (case' h0 => intro _))
                                                            | ((with_reducible apply nd_entry); (case hx => simp -dsimp [toDs, hk]; first | done | with_reducible rfl); (case hid => simp -dsimp [toDs, hk]; first | done | with_reducible rfl | exact ⟨rfl, rfl, rfl⟩ | exact ⟨rfl, rfl⟩))
                                                            | ((with_reducible apply nd_range); (case hx => simp -dsimp [toDs, hk]; with_reducible rfl); (case hT => simp -dsimp [toDs, hk]); (case hnd => assumption); (case hz => simp -dsimp [toDs, hk]))
                                                            | (with_reducible refine dn_i follows_any (by kernel_rfl) ?_)
                                                            | (with_reducible exact done_eq rfl)
                                                            | (simp -dsimp [toDs, hk]))); (all_goals try with_reducible refine done_eq ?_)
        all_goals first | rfl | (simp only [dLTs, dMTs, List.map_cons, List.map_nil, ltD_x, mtD_x]; first | done | rfl)
      · rw [er]
        try simp only [cls_cons, cls_nil] at *
        refine acalls_ex [] Try.func101 (by kernel_rfl) rfl Try.ntmps101 Try.results101 (Nat.le_of_ble_eq_true (by kernel_rfl)) ?_; intro hok w0 S0
        clear hok
        (repeat' (first
                                                            | (with_reducible refine br_d (fun _ => ?_) (fun _ => ?_))
                                                            | (with_reducible refine br_i (fun _ => ?_) (fun _ => ?_))
                                                            | ((with_reducible apply nd_next); (case hx => simp -dsimp [toDs, hk]; first | done | with_reducible rfl); (case hid => simp -dsimp [toDs, hk]; first | done | with_reducible rfl | exact ⟨rfl, rfl, rfl⟩ | exact ⟨rfl, rfl⟩); (case' h1 => intro _ _ _); (case' h0 => intro _))
                                                            | ((with_reducible apply nd_entry); (case hx => simp -dsimp [toDs, hk]; first | done | with_reducible rfl); (case hid => simp -dsimp [toDs, hk]; first | done | with_reducible rfl | exact ⟨rfl, rfl, rfl⟩ | exact ⟨rfl, rfl⟩))
                                                            | ((with_reducible apply nd_range); (case hx => simp -dsimp [toDs, hk]; with_reducible rfl); (case hT => simp -dsimp [toDs, hk]); (case hnd => assumption); (case hz => simp -dsimp [toDs, hk]))
                                                            | (with_reducible refine dn_i follows_any (by kernel_rfl) ?_)
                                                            | (with_reducible exact done_eq rfl)
                                                            | (simp -dsimp [toDs, hk]))); (all_goals try with_reducible refine done_eq ?_)
        refine exD_p ?_
        refine aw_drawn_n follows_any [[], [0], [0, 1], [0, 1, 2], [0, 1, 2, 3], [0, 1, 2, 3, 4], [], [6], [6, 7], [6, 7, 8], [6, 7, 8, 9], [], [11], [11, 12], [11, 12, 13], [11, 12, 13, 14], [0, 1, 2, 3, 4, 5, 11, 12, 13, 14, 15], [0, 1, 2, 3, 4, 5, 6, 7, 8, 9, 10, 11, 12, 13, 14, 15, 16], [0, 1, 2, 3, 4, 5, 6, 7, 8, 9, 10, 11, 12, 13, 14, 15, 16, 17], [0, 1, 2, 3, 4, 5, 6, 7, 8, 9, 10, 11, 12, 13, 14, 15, 16, 17, 18], [0, 1, 2, 3, 4, 5, 6, 7, 8, 9, 10, 11, 12, 13, 14, 15, 16, 17, 18, 19]] [0, 1, 2, 3, 4, 5, 6, 7, 8, 9, 10, 11, 12, 13, 14, 15, 16, 17, 18, 19, 20] [16, 18, 20] [([], ⟨[(16, ?m16u2), (17, ?m17u2), (18, ?m18u2), (19, ?m19u2), (20, ?m20u2), (21, ?m21u2), (22, ?m22u2), (23, ?m23u2), (24, ?m24u2), (25, ?m25u2), (26, ?m26u2), (27, ?m27u2), (28, ?m28u2), (29, ?m29u2), (30, ?m30u2), (31, ?m31u2), (32, ?m32u2), (33, ?m33u2), (34, ?m34u2), (35, ?m35u2)], ?bu2, ?o0u2⟩), ([16], ⟨[(16, ?m16u2), (17, ?m17u2), (18, ?m18u2), (19, ?m19u2), (20, ?m20u2), (21, ?m21u2), (22, ?m22u2), (23, ?m23u2), (24, ?m24u2), (25, ?m25u2), (26, ?m26u2), (27, ?m27u2), (28, ?m28u2), (29, ?m29u2), (30, ?m30u2), (31, ?m31u2), (32, ?m32u2), (33, ?m33u2), (34, ?m34u2), (35, ?m35u2)], ?bu2, ?o1u2⟩), ([16, 18], ⟨[(16, ?m16u2), (17, ?m17u2), (18, ?m18u2), (19, ?m19u2), (20, ?m20u2), (21, ?m21u2), (22, ?m22u2), (23, ?m23u2), (24, ?m24u2), (25, ?m25u2), (26, ?m26u2), (27, ?m27u2), (28, ?m28u2), (29, ?m29u2), (30, ?m30u2), (31, ?m31u2), (32, ?m32f18u2), (33, ?m33f18u2), (34, ?m34u2), (35, ?m35u2)], ?bf18u2, ?o2u2⟩), ([16, 18, 20], ⟨[(16, ?m16u2), (17, ?m17u2), (18, ?m18u2), (19, ?m19u2), (20, ?m20u2), (21, ?m21u2), (22, ?m22u2), (23, ?m23u2), (24, ?m24u2), (25, ?m25u2), (26, ?m26u2), (27, ?m27u2), (28, ?m28u2), (29, ?m29u2), (30, ?m30u2), (31, ?m31u2), (32, ?m32f18u2), (33, ?m33f18u2), (34, ?m34u2), (35, ?m35u2)], ?bf18u2, ?o3u2⟩)] ?hoku2 rfl rfl ?hbu2 ?hou2 ?hstu2 ?hku2
        case' hbu2 => rfl
        case' hou2 => rfl
        case' hstu2 => refine ⟨⟨?v0u2, ?s0u2⟩, ⟨⟨?v1u2, ?s1u2⟩, ⟨⟨?v2u2, ?s2u2⟩, ⟨⟨?v3u2, ?s3u2⟩, True.intro⟩⟩⟩⟩
        case v0u2 =>
          refine ⟨.inr ⟨_, rfl, effN_self (eff_v rfl rfl (by simp -dsimp [valT, toDs, hk] <;> with_reducible rfl))⟩, ?_⟩
          refine ⟨.inr ⟨_, rfl, effN_self (eff_v rfl rfl (by simp -dsimp [valT, toDs, hk] <;> with_reducible rfl))⟩, ?_⟩
          refine ⟨.inr ⟨_, rfl, effN_self (eff_v rfl rfl (by simp -dsimp [valT, toDs, hk] <;> with_reducible rfl))⟩, ?_⟩
          refine ⟨.inr ⟨_, rfl, effN_self (eff_v rfl rfl (by simp -dsimp [valT, toDs, hk] <;> with_reducible rfl))⟩, ?_⟩
          refine ⟨.inr ⟨_, rfl, effN_self (eff_v rfl rfl (by simp -dsimp [valT, toDs, hk] <;> with_reducible rfl))⟩, ?_⟩
          refine ⟨.inr ⟨_, rfl, effN_self (eff_c (d := 21) (h1) rfl rfl rfl (by simp -dsimp [valT, toDs, hk] <;> (first | done | rfl | exact ⟨rfl, rfl⟩ | exact ⟨rfl, rfl, rfl⟩)) (by simp -dsimp [valT, toDs, hk]) (by simp -dsimp [valT, toDs, hk] <;> with_reducible rfl))⟩, ?_⟩
          refine ⟨.inr ⟨_, rfl, effN_self (eff_v rfl rfl (by simp -dsimp [valT, toDs, hk] <;> with_reducible rfl))⟩, ?_⟩
          refine ⟨.inr ⟨_, rfl, effN_self (eff_v rfl rfl (by simp -dsimp [valT, toDs, hk] <;> with_reducible rfl))⟩, ?_⟩
          refine ⟨.inr ⟨_, rfl, effN_self (eff_v rfl rfl (by simp -dsimp [valT, toDs, hk] <;> with_reducible rfl))⟩, ?_⟩
          refine ⟨.inr ⟨_, rfl, effN_self (eff_v rfl rfl (by simp -dsimp [valT, toDs, hk] <;> with_reducible rfl))⟩, ?_⟩
          refine ⟨.inr ⟨_, rfl, effN_self (eff_v rfl rfl (by simp -dsimp [valT, toDs, hk] <;> with_reducible rfl))⟩, ?_⟩
          refine ⟨.inr ⟨_, rfl, effN_self (eff_v rfl rfl (by simp -dsimp [valT, toDs, hk] <;> with_reducible rfl))⟩, ?_⟩
          refine ⟨.inr ⟨_, rfl, effN_self (eff_v rfl rfl (by simp -dsimp [valT, toDs, hk] <;> with_reducible rfl))⟩, ?_⟩
          refine ⟨.inr ⟨_, rfl, effN_self (eff_v rfl rfl (by simp -dsimp [valT, toDs, hk] <;> with_reducible rfl))⟩, ?_⟩
          refine ⟨.inr ⟨_, rfl, effN_self (eff_v rfl rfl (by simp -dsimp [valT, toDs, hk] <;> with_reducible rfl))⟩, ?_⟩
          refine ⟨.inr ⟨_, rfl, effN_self (eff_v rfl rfl (by simp -dsimp [valT, toDs, hk] <;> with_reducible rfl))⟩, ?_⟩
          refine ⟨.inl (by kernel_rfl), ?_⟩
          refine ⟨.inl (by kernel_rfl), ?_⟩
          refine ⟨.inl (by kernel_rfl), ?_⟩
          refine ⟨.inl (by kernel_rfl), ?_⟩
          refine ⟨.inl (by kernel_rfl), ?_⟩
          exact True.intro
        case s0u2 =>
          refine ⟨.inr ⟨_, _, rfl, rfl, effN_of (eff_w (hdk := rfl) (hW := rfl) (hq := by simp -dsimp [valT, toDs, hk] <;> (first | done | rfl | exact ⟨rfl, rfl⟩ | exact ⟨rfl, rfl, rfl⟩)) (hoo := rfl) (hv := by simp -dsimp [valT, toDs, hk] <;> with_reducible rfl)) (by simp -dsimp [valT, canonO, insO, toDs, hk] <;> with_reducible rfl)⟩, ?_⟩
          refine ⟨.inl (by kernel_rfl), ?_⟩
          refine ⟨.inl (by kernel_rfl), ?_⟩
          exact True.intro
        case v1u2 =>
          refine ⟨.inl (by kernel_rfl), ?_⟩
          refine ⟨.inl (by kernel_rfl), ?_⟩
          refine ⟨.inl (by kernel_rfl), ?_⟩
          refine ⟨.inl (by kernel_rfl), ?_⟩
          refine ⟨.inl (by kernel_rfl), ?_⟩
          refine ⟨.inl (by kernel_rfl), ?_⟩
          refine ⟨.inr ⟨_, rfl, effN_self (eff_v rfl rfl (by simp -dsimp [valT, toDs, hk] <;> with_reducible rfl))⟩, ?_⟩
          refine ⟨.inr ⟨_, rfl, effN_self (eff_v rfl rfl (by simp -dsimp [valT, toDs, hk] <;> with_reducible rfl))⟩, ?_⟩
          refine ⟨.inr ⟨_, rfl, effN_self (eff_v rfl rfl (by simp -dsimp [valT, toDs, hk] <;> with_reducible rfl))⟩, ?_⟩
          refine ⟨.inr ⟨_, rfl, effN_self (eff_v rfl rfl (by simp -dsimp [valT, toDs, hk] <;> with_reducible rfl))⟩, ?_⟩
          refine ⟨.inr ⟨_, rfl, effN_self (eff_v rfl rfl (by simp -dsimp [valT, toDs, hk] <;> with_reducible rfl))⟩, ?_⟩
          refine ⟨.inl (by kernel_rfl), ?_⟩
          refine ⟨.inl (by kernel_rfl), ?_⟩
          refine ⟨.inl (by kernel_rfl), ?_⟩
          refine ⟨.inl (by kernel_rfl), ?_⟩
          refine ⟨.inl (by kernel_rfl), ?_⟩
          refine ⟨.inl (by kernel_rfl), ?_⟩
          refine ⟨.inr ⟨_, rfl, effN_self (eff_v rfl rfl (by simp -dsimp [valT, toDs, hk] <;> with_reducible rfl))⟩, ?_⟩
          refine ⟨.inl (by kernel_rfl), ?_⟩
          refine ⟨.inl (by kernel_rfl), ?_⟩
          refine ⟨.inl (by kernel_rfl), ?_⟩
          exact True.intro
        case' s1u2 =>
          refine ⟨.inl (by kernel_rfl), ?_⟩
          refine ⟨.inr ⟨_, _, rfl, rfl, effN_frz [32] [32, 33] ⟨(by simp -dsimp [valT, toDs, hk] <;> with_reducible rfl), (by simp -dsimp [valT, toDs, hk] <;> with_reducible rfl), True.intro⟩ (by simp) rfl rfl (by simp -dsimp [valT, toDs, hk]) ?hf18k1u2 (by simp -dsimp [valT, toDs, hk] <;> with_reducible rfl) (by simp -dsimp [valT, toDs, hk] <;> with_reducible rfl) (by simp -dsimp [valT, toDs, hk] <;> (first | done | rfl | exact ⟨rfl, rfl⟩ | exact ⟨rfl, rfl, rfl⟩)) (by simp -dsimp [valT, canonO, insO, toDs, hk] <;> with_reducible rfl) (by simp -dsimp [valT, toDs, hk] <;> with_reducible rfl)⟩, ?_⟩
          rotate_left
          refine ⟨.inl (by kernel_rfl), ?_⟩
          exact True.intro
        case v2u2 =>
          refine ⟨.inl (by kernel_rfl), ?_⟩
          refine ⟨.inl (by kernel_rfl), ?_⟩
          refine ⟨.inl (by kernel_rfl), ?_⟩
          refine ⟨.inl (by kernel_rfl), ?_⟩
          refine ⟨.inl (by kernel_rfl), ?_⟩
          refine ⟨.inl (by kernel_rfl), ?_⟩
          refine ⟨.inl (by kernel_rfl), ?_⟩
          refine ⟨.inl (by kernel_rfl), ?_⟩
          refine ⟨.inl (by kernel_rfl), ?_⟩
          refine ⟨.inl (by kernel_rfl), ?_⟩
          refine ⟨.inl (by kernel_rfl), ?_⟩
          refine ⟨.inl (by kernel_rfl), ?_⟩
          refine ⟨.inl (by kernel_rfl), ?_⟩
          refine ⟨.inl (by kernel_rfl), ?_⟩
          refine ⟨.inl (by kernel_rfl), ?_⟩
          refine ⟨.inl (by kernel_rfl), ?_⟩
          refine ⟨.inl (by kernel_rfl), ?_⟩
          refine ⟨.inl (by kernel_rfl), ?_⟩
          refine ⟨.inl (by kernel_rfl), ?_⟩
          refine ⟨.inr ⟨_, rfl, effN_self (eff_v rfl rfl (by simp -dsimp [valT, toDs, hk] <;> with_reducible rfl))⟩, ?_⟩
          refine ⟨.inl (by kernel_rfl), ?_⟩
          exact True.intro
        case s2u2 =>
          refine ⟨.inl (by kernel_rfl), ?_⟩
          refine ⟨.inl (by kernel_rfl), ?_⟩
          refine ⟨.inr ⟨_, _, rfl, rfl, effN_of (eff_w (hdk := rfl) (hW := rfl) (hq := by simp -dsimp [valT, toDs, hk] <;> (first | done | rfl | exact ⟨rfl, rfl⟩ | exact ⟨rfl, rfl, rfl⟩)) (hoo := rfl) (hv := by simp -dsimp [valT, toDs, hk] <;> with_reducible rfl)) (by simp -dsimp [valT, canonO, insO, toDs, hk] <;> with_reducible rfl)⟩, ?_⟩
          exact True.intro
        case v3u2 =>
          refine ⟨.inl (by kernel_rfl), ?_⟩
          refine ⟨.inl (by kernel_rfl), ?_⟩
          refine ⟨.inl (by kernel_rfl), ?_⟩
          refine ⟨.inl (by kernel_rfl), ?_⟩
          refine ⟨.inl (by kernel_rfl), ?_⟩
          refine ⟨.inl (by kernel_rfl), ?_⟩
          refine ⟨.inl (by kernel_rfl), ?_⟩
          refine ⟨.inl (by kernel_rfl), ?_⟩
          refine ⟨.inl (by kernel_rfl), ?_⟩
          refine ⟨.inl (by kernel_rfl), ?_⟩
          refine ⟨.inl (by kernel_rfl), ?_⟩
          refine ⟨.inl (by kernel_rfl), ?_⟩
          refine ⟨.inl (by kernel_rfl), ?_⟩
          refine ⟨.inl (by kernel_rfl), ?_⟩
          refine ⟨.inl (by kernel_rfl), ?_⟩
          refine ⟨.inl (by kernel_rfl), ?_⟩
          refine ⟨.inl (by kernel_rfl), ?_⟩
          refine ⟨.inl (by kernel_rfl), ?_⟩
          refine ⟨.inl (by kernel_rfl), ?_⟩
          refine ⟨.inl (by kernel_rfl), ?_⟩
          refine ⟨.inl (by kernel_rfl), ?_⟩
          exact True.intro
        case s3u2 =>
          refine ⟨.inl (by kernel_rfl), ?_⟩
          refine ⟨.inl (by kernel_rfl), ?_⟩
          refine ⟨.inl (by kernel_rfl), ?_⟩
          exact True.intro
        case s1u2 => simp -dsimp [valT, toDs, hk]
        case hoku2 => kernel_rfl
        refine ⟨rfl, ?_⟩
        (repeat' (first
                                                            | (with_reducible refine br_d (fun _ => ?_) (fun _ => ?_))
                                                            | (with_reducible refine br_i (fun _ => ?_) (fun _ => ?_))
                                                            | ((with_reducible apply nd_next); (case hx => simp -dsimp [toDs, hk]; first | done | with_reducible rfl); (case hid => simp -dsimp [toDs, hk]; first | done | with_reducible rfl | exact ⟨rfl, rfl, rfl⟩ | exact ⟨rfl, rfl⟩); (case' h1 => intro _ _ _); (case' h0 => intro _))
                                                            | ((with_reducible apply nd_entry); (case hx => simp -dsimp [toDs, hk]; first | done | with_reducible rfl); (case hid => simp -dsimp [toDs, hk]; first | done | with_reducible rfl | exact ⟨rfl, rfl, rfl⟩ | exact ⟨rfl, rfl⟩))
                                                            | ((with_reducible apply nd_range); (case hx => simp -dsimp [toDs, hk]; with_reducible rfl); (case hT => simp -dsimp [toDs, hk]); (case hnd => assumption); (case hz => simp -dsimp [toDs, hk]))
                                                            | (with_reducible refine dn_i follows_any (by kernel_rfl) ?_)
                                                            | (with_reducible exact done_eq rfl)
                                                            | (simp -dsimp [toDs, hk]))); (all_goals try with_reducible refine done_eq ?_)
        all_goals first | rfl | (simp only [dLTs, dMTs, List.map_cons, List.map_nil, ltD_x, mtD_x]; first | done | rfl)
    | cons m ms =>
      have h2 := hm m rfl
      obtain ⟨fs, named, name, sc2, ls2, ms2, rel, rel2, en⟩ : ∃ fs named name sc2 ls2 ms2 rel rel2, nM m = .mk fs (.mk named name (.mk sc2 ls2 ms2) rel) rel2 := by
        obtain ⟨fs, ⟨named, name, ⟨sc2, ls2, ms2⟩, rel⟩, rel2⟩ := nM m
        exact ⟨_, _, _, _, _, _, _, _, rfl⟩
      unfold FMap at h2
      rw [en, mtD_x] at h2
      simp only [nLs, nMs, nL, slP, smP, hs, en, en1, dLTs, dMTs, List.map_cons, List.map_nil, ltD_x, mtD_x]
      rcases relD_cases sc with ⟨rfl, er⟩ | ⟨hr, er⟩
      · rw [er]
        try simp only [cls_cons, cls_nil] at *
        refine acalls_ex [] Try.func101 (by kernel_rfl) rfl Try.ntmps101 Try.results101 (Nat.le_of_ble_eq_true (by kernel_rfl)) ?_; intro hok w0 S0
        clear hok
        (repeat' (first
                                                            | (with_reducible refine br_d (fun _ => ?_) (fun _ => ?_))
                                                            | (with_reducible refine br_i (fun _ => ?_) (fun _ => ?_))
                                                            | ((with_reducible apply nd_next); (case hx => simp -dsimp [toDs, hk]; first | done | with_reducible rfl); (case hid => simp -dsimp [toDs, hk]; first | done | with_reducible rfl | exact ⟨rfl, rfl, rfl⟩ | exact ⟨rfl, rfl⟩); (case' h1 => intro _ _ _); (case' h0 => intro _))
                                                            | ((with_reducible apply nd_entry); (case hx => simp -dsimp [toDs, hk]; first | done | with_reducible rfl); (case hid => simp -dsimp [toDs, hk]; first | done | with_reducible rfl | exact ⟨rfl, rfl, rfl⟩ | exact ⟨rfl, rfl⟩))
                                                            | ((with_reducible apply nd_range); (case hx => simp -dsimp [toDs, hk]; with_reducible rfl); (case hT => simp -dsimp [toDs, hk]); (case hnd => assumption); (case hz => simp -dsimp [toDs, hk]))
                                                            | (with_reducible refine dn_i follows_any (by kernel_rfl) ?_)
                                                            | (with_reducible exact done_eq rfl)
                                                            | (simp -dsimp [toDs, hk]))); (all_goals try with_reducible refine done_eq ?_)
        refine exD_p ?_
        refine aw_drawn_n follows_any [[], [0], [0, 1], [0, 1, 2], [0, 1, 2, 3], [0, 1, 2, 3, 4], [], [6], [6, 7], [6, 7, 8], [6, 7, 8, 9], [], [11], [11, 12], [11, 12, 13], [11, 12, 13, 14], [0, 1, 2, 3, 4, 5, 11, 12, 13, 14, 15], [0, 1, 2, 3, 4, 5, 6, 7, 8, 9, 10, 11, 12, 13, 14, 15, 16], [0, 1, 2, 3, 4, 5, 6, 7, 8, 9, 10, 11, 12, 13, 14, 15, 16, 17], [0, 1, 2, 3, 4, 5, 6, 7, 8, 9, 10, 11, 12, 13, 14, 15, 16, 17, 18], [0, 1, 2, 3, 4, 5, 6, 7, 8, 9, 10, 11, 12, 13, 14, 15, 16, 17, 18, 19]] [0, 1, 2, 3, 4, 5, 6, 7, 8, 9, 10, 11, 12, 13, 14, 15, 16, 17, 18, 19, 20] [16, 18, 20] [([], ⟨[(16, ?m16u3), (17, ?m17u3), (18, ?m18u3), (19, ?m19u3), (20, ?m20u3), (21, ?m21u3), (22, ?m22u3), (23, ?m23u3), (24, ?m24u3), (25, ?m25u3), (26, ?m26u3), (27, ?m27u3), (28, ?m28u3), (29, ?m29u3), (30, ?m30u3), (31, ?m31u3), (32, ?m32u3), (33, ?m33u3), (34, ?m34u3), (35, ?m35u3)], ?bu3, ?o0u3⟩), ([16], ⟨[(16, ?m16u3), (17, ?m17u3), (18, ?m18u3), (19, ?m19u3), (20, ?m20u3), (21, ?m21u3), (22, ?m22u3), (23, ?m23u3), (24, ?m24u3), (25, ?m25u3), (26, ?m26u3), (27, ?m27u3), (28, ?m28u3), (29, ?m29u3), (30, ?m30u3), (31, ?m31u3), (32, ?m32u3), (33, ?m33u3), (34, ?m34u3), (35, ?m35u3)], ?bu3, ?o1u3⟩), ([16, 18], ⟨[(16, ?m16u3), (17, ?m17u3), (18, ?m18u3), (19, ?m19u3), (20, ?m20u3), (21, ?m21u3), (22, ?m22u3), (23, ?m23u3), (24, ?m24u3), (25, ?m25u3), (26, ?m26u3), (27, ?m27u3), (28, ?m28u3), (29, ?m29u3), (30, ?m30u3), (31, ?m31u3), (32, ?m32f18u3), (33, ?m33f18u3), (34, ?m34u3), (35, ?m35u3)], ?bf18u3, ?o2u3⟩), ([16, 18, 20], ⟨[(16, ?m16u3), (17, ?m17u3), (18, ?m18u3), (19, ?m19u3), (20, ?m20u3), (21, ?m21u3), (22, ?m22u3), (23, ?m23u3), (24, ?m24u3), (25, ?m25u3), (26, ?m26u3), (27, ?m27u3), (28, ?m28u3), (29, ?m29u3), (30, ?m30u3), (31, ?m31u3), (32, ?m32f18u3), (33, ?m33f18u3), (34, ?m34u3), (35, ?m35u3)], ?bf18u3, ?o3u3⟩)] ?hoku3 rfl rfl ?hbu3 ?hou3 ?hstu3 ?hku3
        case' hbu3 => rfl
        case' hou3 => rfl
        case' hstu3 => refine ⟨⟨?v0u3, ?s0u3⟩, ⟨⟨?v1u3, ?s1u3⟩, ⟨⟨?v2u3, ?s2u3⟩, ⟨⟨?v3u3, ?s3u3⟩, True.intro⟩⟩⟩⟩
        case v0u3 =>
          refine ⟨.inr ⟨_, rfl, effN_self (eff_v rfl rfl (by simp -dsimp [valT, toDs, hk] <;> with_reducible rfl))⟩, ?_⟩
          refine ⟨.inr ⟨_, rfl, effN_self (eff_v rfl rfl (by simp -dsimp [valT, toDs, hk] <;> with_reducible rfl))⟩, ?_⟩
          refine ⟨.inr ⟨_, rfl, effN_self (eff_v rfl rfl (by simp -dsimp [valT, toDs, hk] <;> with_reducible rfl))⟩, ?_⟩
          refine ⟨.inr ⟨_, rfl, effN_self (eff_v rfl rfl (by simp -dsimp [valT, toDs, hk] <;> with_reducible rfl))⟩, ?_⟩
          refine ⟨.inr ⟨_, rfl, effN_self (eff_v rfl rfl (by simp -dsimp [valT, toDs, hk] <;> with_reducible rfl))⟩, ?_⟩
          refine ⟨.inr ⟨_, rfl, effN_self (eff_c (d := 21) (h1) rfl rfl rfl (by simp -dsimp [valT, toDs, hk] <;> (first | done | rfl | exact ⟨rfl, rfl⟩ | exact ⟨rfl, rfl, rfl⟩)) (by simp -dsimp [valT, toDs, hk]) (by simp -dsimp [valT, toDs, hk] <;> with_reducible rfl))⟩, ?_⟩
          refine ⟨.inr ⟨_, rfl, effN_self (eff_v rfl rfl (by simp -dsimp [valT, toDs, hk] <;> with_reducible rfl))⟩, ?_⟩
          refine ⟨.inr ⟨_, rfl, effN_self (eff_v rfl rfl (by simp -dsimp [valT, toDs, hk] <;> with_reducible rfl))⟩, ?_⟩
          refine ⟨.inr ⟨_, rfl, effN_self (eff_v rfl rfl (by simp -dsimp [valT, toDs, hk] <;> with_reducible rfl))⟩, ?_⟩
          refine ⟨.inr ⟨_, rfl, effN_self (eff_v rfl rfl (by simp -dsimp [valT, toDs, hk] <;> with_reducible rfl))⟩, ?_⟩
          refine ⟨.inr ⟨_, rfl, effN_self (eff_v rfl rfl (by simp -dsimp [valT, toDs, hk] <;> with_reducible rfl))⟩, ?_⟩
          refine ⟨.inr ⟨_, rfl, effN_self (eff_v rfl rfl (by simp -dsimp [valT, toDs, hk] <;> with_reducible rfl))⟩, ?_⟩
          refine ⟨.inr ⟨_, rfl, effN_self (eff_v rfl rfl (by simp -dsimp [valT, toDs, hk] <;> with_reducible rfl))⟩, ?_⟩
          refine ⟨.inr ⟨_, rfl, effN_self (eff_v rfl rfl (by simp -dsimp [valT, toDs, hk] <;> with_reducible rfl))⟩, ?_⟩
          refine ⟨.inr ⟨_, rfl, effN_self (eff_v rfl rfl (by simp -dsimp [valT, toDs, hk] <;> with_reducible rfl))⟩, ?_⟩
          refine ⟨.inr ⟨_, rfl, effN_self (eff_v rfl rfl (by simp -dsimp [valT, toDs, hk] <;> with_reducible rfl))⟩, ?_⟩
          refine ⟨.inl (by kernel_rfl), ?_⟩
          refine ⟨.inl (by kernel_rfl), ?_⟩
          refine ⟨.inl (by kernel_rfl), ?_⟩
          refine ⟨.inl (by kernel_rfl), ?_⟩
          refine ⟨.inl (by kernel_rfl), ?_⟩
          exact True.intro
        case s0u3 =>
          refine ⟨.inr ⟨_, _, rfl, rfl, effN_of (eff_w (hdk := rfl) (hW := rfl) (hq := by simp -dsimp [valT, toDs, hk] <;> (first | done | rfl | exact ⟨rfl, rfl⟩ | exact ⟨rfl, rfl, rfl⟩)) (hoo := rfl) (hv := by simp -dsimp [valT, toDs, hk] <;> with_reducible rfl)) (by simp -dsimp [valT, canonO, insO, toDs, hk] <;> with_reducible rfl)⟩, ?_⟩
          refine ⟨.inl (by kernel_rfl), ?_⟩
          refine ⟨.inl (by kernel_rfl), ?_⟩
          exact True.intro
        case v1u3 =>
          refine ⟨.inl (by kernel_rfl), ?_⟩
          refine ⟨.inl (by kernel_rfl), ?_⟩
          refine ⟨.inl (by kernel_rfl), ?_⟩
          refine ⟨.inl (by kernel_rfl), ?_⟩
          refine ⟨.inl (by kernel_rfl), ?_⟩
          refine ⟨.inl (by kernel_rfl), ?_⟩
          refine ⟨.inr ⟨_, rfl, effN_self (eff_v rfl rfl (by simp -dsimp [valT, toDs, hk] <;> with_reducible rfl))⟩, ?_⟩
          refine ⟨.inr ⟨_, rfl, effN_self (eff_v rfl rfl (by simp -dsimp [valT, toDs, hk] <;> with_reducible rfl))⟩, ?_⟩
          refine ⟨.inr ⟨_, rfl, effN_self (eff_v rfl rfl (by simp -dsimp [valT, toDs, hk] <;> with_reducible rfl))⟩, ?_⟩
          refine ⟨.inr ⟨_, rfl, effN_self (eff_v rfl rfl (by simp -dsimp [valT, toDs, hk] <;> with_reducible rfl))⟩, ?_⟩
          refine ⟨.inr ⟨_, rfl, effN_self (eff_v rfl rfl (by simp -dsimp [valT, toDs, hk] <;> with_reducible rfl))⟩, ?_⟩
          refine ⟨.inl (by kernel_rfl), ?_⟩
          refine ⟨.inl (by kernel_rfl), ?_⟩
          refine ⟨.inl (by kernel_rfl), ?_⟩
          refine ⟨.inl (by kernel_rfl), ?_⟩
          refine ⟨.inl (by kernel_rfl), ?_⟩
          refine ⟨.inl (by kernel_rfl), ?_⟩
          refine ⟨.inr ⟨_, rfl, effN_self (eff_v rfl rfl (by simp -dsimp [valT, toDs, hk] <;> with_reducible rfl))⟩, ?_⟩
          refine ⟨.inl (by kernel_rfl), ?_⟩
          refine ⟨.inl (by kernel_rfl), ?_⟩
          refine ⟨.inl (by kernel_rfl), ?_⟩
          exact True.intro
        case' s1u3 =>
          refine ⟨.inl (by kernel_rfl), ?_⟩
          refine ⟨.inr ⟨_, _, rfl, rfl, effN_frz [32] [32, 33] ⟨(by simp -dsimp [valT, toDs, hk] <;> with_reducible rfl), (by simp -dsimp [valT, toDs, hk] <;> with_reducible rfl), True.intro⟩ (by simp) rfl rfl (by simp -dsimp [valT, toDs, hk]) ?hf18k1u3 (by simp -dsimp [valT, toDs, hk] <;> with_reducible rfl) (by simp -dsimp [valT, toDs, hk] <;> with_reducible rfl) (by simp -dsimp [valT, toDs, hk] <;> (first | done | rfl | exact ⟨rfl, rfl⟩ | exact ⟨rfl, rfl, rfl⟩)) (by simp -dsimp [valT, canonO, insO, toDs, hk] <;> with_reducible rfl) (by simp -dsimp [valT, toDs, hk] <;> with_reducible rfl)⟩, ?_⟩
          rotate_left
          refine ⟨.inl (by kernel_rfl), ?_⟩
          exact True.intro
        case v2u3 =>
          refine ⟨.inl (by kernel_rfl), ?_⟩
          refine ⟨.inl (by kernel_rfl), ?_⟩
          refine ⟨.inl (by kernel_rfl), ?_⟩
          refine ⟨.inl (by kernel_rfl), ?_⟩
          refine ⟨.inl (by kernel_rfl), ?_⟩
          refine ⟨.inl (by kernel_rfl), ?_⟩
          refine ⟨.inl (by kernel_rfl), ?_⟩
          refine ⟨.inl (by kernel_rfl), ?_⟩
          refine ⟨.inl (by kernel_rfl), ?_⟩
          refine ⟨.inl (by kernel_rfl), ?_⟩
          refine ⟨.inl (by kernel_rfl), ?_⟩
          refine ⟨.inl (by kernel_rfl), ?_⟩
          refine ⟨.inl (by kernel_rfl), ?_⟩
          refine ⟨.inl (by kernel_rfl), ?_⟩
          refine ⟨.inl (by kernel_rfl), ?_⟩
          refine ⟨.inl (by kernel_rfl), ?_⟩
          refine ⟨.inl (by kernel_rfl), ?_⟩
          refine ⟨.inl (by kernel_rfl), ?_⟩
          refine ⟨.inl (by kernel_rfl), ?_⟩
          refine ⟨.inr ⟨_, rfl, effN_self (eff_v rfl rfl (by simp -dsimp [valT, toDs, hk] <;> with_reducible rfl))⟩, ?_⟩
          refine ⟨.inl (by kernel_rfl), ?_⟩
          exact True.intro
        case s2u3 =>
          refine ⟨.inl (by kernel_rfl), ?_⟩
          refine ⟨.inl (by kernel_rfl), ?_⟩
          refine ⟨.inr ⟨_, _, rfl, rfl, effN_of (eff_w (hdk := rfl) (hW := rfl) (hq := by simp -dsimp [valT, toDs, hk] <;> (first | done | rfl | exact ⟨rfl, rfl⟩ | exact ⟨rfl, rfl, rfl⟩)) (hoo := rfl) (hv := by simp -dsimp [valT, toDs, hk] <;> with_reducible rfl)) (by simp -dsimp [valT, canonO, insO, toDs, hk] <;> with_reducible rfl)⟩, ?_⟩
          exact True.intro
        case v3u3 =>
          refine ⟨.inl (by kernel_rfl), ?_⟩
          refine ⟨.inl (by kernel_rfl), ?_⟩
          refine ⟨.inl (by kernel_rfl), ?_⟩
          refine ⟨.inl (by kernel_rfl), ?_⟩
          refine ⟨.inl (by kernel_rfl), ?_⟩
          refine ⟨.inl (by kernel_rfl), ?_⟩
          refine ⟨.inl (by kernel_rfl), ?_⟩
          refine ⟨.inl (by kernel_rfl), ?_⟩
          refine ⟨.inl (by kernel_rfl), ?_⟩
          refine ⟨.inl (by kernel_rfl), ?_⟩
          refine ⟨.inl (by kernel_rfl), ?_⟩
          refine ⟨.inl (by kernel_rfl), ?_⟩
          refine ⟨.inl (by kernel_rfl), ?_⟩
          refine ⟨.inl (by kernel_rfl), ?_⟩
          refine ⟨.inl (by kernel_rfl), ?_⟩
          refine ⟨.inl (by kernel_rfl), ?_⟩
          refine ⟨.inl (by kernel_rfl), ?_⟩
          refine ⟨.inl (by kernel_rfl), ?_⟩
          refine ⟨.inl (by kernel_rfl), ?_⟩
          refine ⟨.inl (by kernel_rfl), ?_⟩
          refine ⟨.inl (by kernel_rfl), ?_⟩
          exact True.intro
        case s3u3 =>
          refine ⟨.inl (by kernel_rfl), ?_⟩
          refine ⟨.inl (by kernel_rfl), ?_⟩
          refine ⟨.inl (by kernel_rfl), ?_⟩
          exact True.intro
        case s1u3 => simp -dsimp [valT, toDs, hk]
        case hoku3 => kernel_rfl
        refine ⟨rfl, ?_⟩
        (repeat' (first
                                                            | (with_reducible refine br_d (fun _ => ?_) (fun _ => ?_))
                                                            | (with_reducible refine br_i (fun _ => ?_) (fun _ => ?_))
                                                            | (with_reducible refine nd_v (h2) (by first | rfl | (simp -dsimp [toDs, hk]; done)) ?_)
                                                            | (with_reducible refine nw_v (h2) rfl (by first | rfl | (simp -dsimp [toDs, hk]; done)) (by first | rfl | (simp -dsimp [toDs, hk]; done)) ?_)
                                                            | ((with_reducible apply nd_next); (case hx => simp -dsimp [toDs, hk]; first | done | with_reducible rfl); (case hid => simp -dsimp [toDs, hk]; first | done | with_reducible rfl | exact ⟨rfl, rfl, rfl⟩ | exact ⟨rfl, rfl⟩); (case' h1 => intro _ _ _); (case' h0 => intro _))
                                                            | ((with_reducible apply nd_entry); (case hx => simp -dsimp [toDs, hk]; first | done | with_reducible rfl); (case hid => simp -dsimp [toDs, hk]; first | done | with_reducible rfl | exact ⟨rfl, rfl, rfl⟩ | exact ⟨rfl, rfl⟩))
                                                            | ((with_reducible apply nd_range); (case hx => simp -dsimp [toDs, hk]; with_reducible rfl); (case hT => simp -dsimp [toDs, hk]); (case hnd => assumption); (case hz => simp -dsimp [toDs, hk]))
                                                            | (with_reducible refine dn_i follows_any (by kernel_rfl) ?_)
                                                            | (with_reducible exact done_eq rfl)
                                                            | (simp -dsimp [toDs, hk]))); (all_goals try with_reducible refine done_eq ?_)
        all_goals first | rfl | (simp only [dLTs, dMTs, List.map_cons, List.map_nil, ltD_x, mtD_x]; first | done | rfl)
      · rw [er]
        try simp only [cls_cons, cls_nil] at *
        refine acalls_ex [] Try.func101 (by kernel_rfl) rfl Try.ntmps101 Try.results101 (Nat.le_of_ble_eq_true (by kernel_rfl)) ?_; intro hok w0 S0
        clear hok
        (repeat' (first
                                                            | (with_reducible refine br_d (fun _ => ?_) (fun _ => ?_))
                                                            | (with_reducible refine br_i (fun _ => ?_) (fun _ => ?_))
                                                            | ((with_reducible apply nd_next); (case hx => simp -dsimp [toDs, hk]; first | done | with_reducible rfl); (case hid => simp -dsimp [toDs, hk]; first | done | with_reducible rfl | exact ⟨rfl, rfl, rfl⟩ | exact ⟨rfl, rfl⟩); (case' h1 => intro _ _ _); (case' h0 => intro _))
                                                            | ((with_reducible apply nd_entry); (case hx => simp -dsimp [toDs, hk]; first | done | with_reducible rfl); (case hid => simp -dsimp [toDs, hk]; first | done | with_reducible rfl | exact ⟨rfl, rfl, rfl⟩ | exact ⟨rfl, rfl⟩))
                                                            | ((with_reducible apply nd_range); (case hx => simp -dsimp [toDs, hk]; with_reducible rfl); (case hT => simp -dsimp [toDs, hk]); (case hnd => assumption); (case hz => simp -dsimp [toDs, hk]))
                                                            | (with_reducible refine dn_i follows_any (by kernel_rfl) ?_)
                                                            | (with_reducible exact done_eq rfl)
                                                            | (simp -dsimp [toDs, hk]))); (all_goals try with_reducible refine done_eq ?_)
        refine exD_p ?_
        refine aw_drawn_n follows_any [[], [0], [0, 1], [0, 1, 2], [0, 1, 2, 3], [0, 1, 2, 3, 4], [], [6], [6, 7], [6, 7, 8], [6, 7, 8, 9], [], [11], [11, 12], [11, 12, 13], [11, 12, 13, 14], [0, 1, 2, 3, 4, 5, 11, 12, 13, 14, 15], [0, 1, 2, 3, 4, 5, 6, 7, 8, 9, 10, 11, 12, 13, 14, 15, 16], [0, 1, 2, 3, 4, 5, 6, 7, 8, 9, 10, 11, 12, 13, 14, 15, 16, 17], [0, 1, 2, 3, 4, 5, 6, 7, 8, 9, 10, 11, 12, 13, 14, 15, 16, 17, 18], [0, 1, 2, 3, 4, 5, 6, 7, 8, 9, 10, 11, 12, 13, 14, 15, 16, 17, 18, 19]] [0, 1, 2, 3, 4, 5, 6, 7, 8, 9, 10, 11, 12, 13, 14, 15, 16, 17, 18, 19, 20] [16, 18, 20] [([], ⟨[(16, ?m16u4), (17, ?m17u4), (18, ?m18u4), (19, ?m19u4), (20, ?m20u4), (21, ?m21u4), (22, ?m22u4), (23, ?m23u4), (24, ?m24u4), (25, ?m25u4), (26, ?m26u4), (27, ?m27u4), (28, ?m28u4), (29, ?m29u4), (30, ?m30u4), (31, ?m31u4), (32, ?m32u4), (33, ?m33u4), (34, ?m34u4), (35, ?m35u4)], ?bu4, ?o0u4⟩), ([16], ⟨[(16, ?m16u4), (17, ?m17u4), (18, ?m18u4), (19, ?m19u4), (20, ?m20u4), (21, ?m21u4), (22, ?m22u4), (23, ?m23u4), (24, ?m24u4), (25, ?m25u4), (26, ?m26u4), (27, ?m27u4), (28, ?m28u4), (29, ?m29u4), (30, ?m30u4), (31, ?m31u4), (32, ?m32u4), (33, ?m33u4), (34, ?m34u4), (35, ?m35u4)], ?bu4, ?o1u4⟩), ([16, 18], ⟨[(16, ?m16u4), (17, ?m17u4), (18, ?m18u4), (19, ?m19u4), (20, ?m20u4), (21, ?m21u4), (22, ?m22u4), (23, ?m23u4), (24, ?m24u4), (25, ?m25u4), (26, ?m26u4), (27, ?m27u4), (28, ?m28u4), (29, ?m29u4), (30, ?m30u4), (31, ?m31u4), (32, ?m32f18u4), (33, ?m33f18u4), (34, ?m34u4), (35, ?m35u4)], ?bf18u4, ?o2u4⟩), ([16, 18, 20], ⟨[(16, ?m16u4), (17, ?m17u4), (18, ?m18u4), (19, ?m19u4), (20, ?m20u4), (21, ?m21u4), (22, ?m22u4), (23, ?m23u4), (24, ?m24u4), (25, ?m25u4), (26, ?m26u4), (27, ?m27u4), (28, ?m28u4), (29, ?m29u4), (30, ?m30u4), (31, ?m31u4), (32, ?m32f18u4), (33, ?m33f18u4), (34, ?m34u4), (35, ?m35u4)], ?bf18u4, ?o3u4⟩)] ?hoku4 rfl rfl ?hbu4 ?hou4 ?hstu4 ?hku4
        case' hbu4 => rfl
        case' hou4 => rfl
        case' hstu4 => refine ⟨⟨?v0u4, ?s0u4⟩, ⟨⟨?v1u4, ?s1u4⟩, ⟨⟨?v2u4, ?s2u4⟩, ⟨⟨?v3u4, ?s3u4⟩, True.intro⟩⟩⟩⟩
        case v0u4 =>
          refine ⟨.inr ⟨_, rfl, effN_self (eff_v rfl rfl (by simp -dsimp [valT, toDs, hk] <;> with_reducible rfl))⟩, ?_⟩
          refine ⟨.inr ⟨_, rfl, effN_self (eff_v rfl rfl (by simp -dsimp [valT, toDs, hk] <;> with_reducible rfl))⟩, ?_⟩
          refine ⟨.inr ⟨_, rfl, effN_self (eff_v rfl rfl (by simp -dsimp [valT, toDs, hk] <;> with_reducible rfl))⟩, ?_⟩
          refine ⟨.inr ⟨_, rfl, effN_self (eff_v rfl rfl (by simp -dsimp [valT, toDs, hk] <;> with_reducible rfl))⟩, ?_⟩
          refine ⟨.inr ⟨_, rfl, effN_self (eff_v rfl rfl (by simp -dsimp [valT, toDs, hk] <;> with_reducible rfl))⟩, ?_⟩
          refine ⟨.inr ⟨_, rfl, effN_self (eff_c (d := 21) (h1) rfl rfl rfl (by simp -dsimp [valT, toDs, hk] <;> (first | done | rfl | exact ⟨rfl, rfl⟩ | exact ⟨rfl, rfl, rfl⟩)) (by simp -dsimp [valT, toDs, hk]) (by simp -dsimp [valT, toDs, hk] <;> with_reducible rfl))⟩, ?_⟩
          refine ⟨.inr ⟨_, rfl, effN_self (eff_v rfl rfl (by simp -dsimp [valT, toDs, hk] <;> with_reducible rfl))⟩, ?_⟩
          refine ⟨.inr ⟨_, rfl, effN_self (eff_v rfl rfl (by simp -dsimp [valT, toDs, hk] <;> with_reducible rfl))⟩, ?_⟩
          refine ⟨.inr ⟨_, rfl, effN_self (eff_v rfl rfl (by simp -dsimp [valT, toDs, hk] <;> with_reducible rfl))⟩, ?_⟩
          refine ⟨.inr ⟨_, rfl, effN_self (eff_v rfl rfl (by simp -dsimp [valT, toDs, hk] <;> with_reducible rfl))⟩, ?_⟩
          refine ⟨.inr ⟨_, rfl, effN_self (eff_v rfl rfl (by simp -dsimp [valT, toDs, hk] <;> with_reducible rfl))⟩, ?_⟩
          refine ⟨.inr ⟨_, rfl, effN_self (eff_v rfl rfl (by simp -dsimp [valT, toDs, hk] <;> with_reducible rfl))⟩, ?_⟩
          refine ⟨.inr ⟨_, rfl, effN_self (eff_v rfl rfl (by simp -dsimp [valT, toDs, hk] <;> with_reducible rfl))⟩, ?_⟩
          refine ⟨.inr ⟨_, rfl, effN_self (eff_v rfl rfl (by simp -dsimp [valT, toDs, hk] <;> with_reducible rfl))⟩, ?_⟩
          refine ⟨.inr ⟨_, rfl, effN_self (eff_v rfl rfl (by simp -dsimp [valT, toDs, hk] <;> with_reducible rfl))⟩, ?_⟩
          refine ⟨.inr ⟨_, rfl, effN_self (eff_v rfl rfl (by simp -dsimp [valT, toDs, hk] <;> with_reducible rfl))⟩, ?_⟩
          refine ⟨.inl (by kernel_rfl), ?_⟩
          refine ⟨.inl (by kernel_rfl), ?_⟩
          refine ⟨.inl (by kernel_rfl), ?_⟩
          refine ⟨.inl (by kernel_rfl), ?_⟩
          refine ⟨.inl (by kernel_rfl), ?_⟩
          exact True.intro
        case s0u4 =>
          refine ⟨.inr ⟨_, _, rfl, rfl, effN_of (eff_w (hdk := rfl) (hW := rfl) (hq := by simp -dsimp [valT, toDs, hk] <;> (first | done | rfl | exact ⟨rfl, rfl⟩ | exact ⟨rfl, rfl, rfl⟩)) (hoo := rfl) (hv := by simp -dsimp [valT, toDs, hk] <;> with_reducible rfl)) (by simp -dsimp [valT, canonO, insO, toDs, hk] <;> with_reducible rfl)⟩, ?_⟩
          refine ⟨.inl (by kernel_rfl), ?_⟩
          refine ⟨.inl (by kernel_rfl), ?_⟩
          exact True.intro
        case v1u4 =>
          refine ⟨.inl (by kernel_rfl), ?_⟩
          refine ⟨.inl (by kernel_rfl), ?_⟩
          refine ⟨.inl (by kernel_rfl), ?_⟩
          refine ⟨.inl (by kernel_rfl), ?_⟩
          refine ⟨.inl (by kernel_rfl), ?_⟩
          refine ⟨.inl (by kernel_rfl), ?_⟩
          refine ⟨.inr ⟨_, rfl, effN_self (eff_v rfl rfl (by simp -dsimp [valT, toDs, hk] <;> with_reducible rfl))⟩, ?_⟩
          refine ⟨.inr ⟨_, rfl, effN_self (eff_v rfl rfl (by simp -dsimp [valT, toDs, hk] <;> with_reducible rfl))⟩, ?_⟩
          refine ⟨.inr ⟨_, rfl, effN_self (eff_v rfl rfl (by simp -dsimp [valT, toDs, hk] <;> with_reducible rfl))⟩, ?_⟩
          refine ⟨.inr ⟨_, rfl, effN_self (eff_v rfl rfl (by simp -dsimp [valT, toDs, hk] <;> with_reducible rfl))⟩, ?_⟩
          refine ⟨.inr ⟨_, rfl, effN_self (eff_v rfl rfl (by simp -dsimp [valT, toDs, hk] <;> with_reducible rfl))⟩, ?_⟩
          refine ⟨.inl (by kernel_rfl), ?_⟩
          refine ⟨.inl (by kernel_rfl), ?_⟩
          refine ⟨.inl (by kernel_rfl), ?_⟩
          refine ⟨.inl (by kernel_rfl), ?_⟩
          refine ⟨.inl (by kernel_rfl), ?_⟩
          refine ⟨.inl (by kernel_rfl), ?_⟩
          refine ⟨.inr ⟨_, rfl, effN_self (eff_v rfl rfl (by simp -dsimp [valT, toDs, hk] <;> with_reducible rfl))⟩, ?_⟩
          refine ⟨.inl (by kernel_rfl), ?_⟩
          refine ⟨.inl (by kernel_rfl), ?_⟩
          refine ⟨.inl (by kernel_rfl), ?_⟩
          exact True.intro
        case' s1u4 =>
          refine ⟨.inl (by kernel_rfl), ?_⟩
          refine ⟨.inr ⟨_, _, rfl, rfl, effN_frz [32] [32, 33] ⟨(by simp -dsimp [valT, toDs, hk] <;> with_reducible rfl), (by simp -dsimp [valT, toDs, hk] <;> with_reducible rfl), True.intro⟩ (by simp) rfl rfl (by simp -dsimp [valT, toDs, hk]) ?hf18k1u4 (by simp -dsimp [valT, toDs, hk] <;> with_reducible rfl) (by simp -dsimp [valT, toDs, hk] <;> with_reducible rfl) (by simp -dsimp [valT, toDs, hk] <;> (first | done | rfl | exact ⟨rfl, rfl⟩ | exact ⟨rfl, rfl, rfl⟩)) (by simp -dsimp [valT, canonO, insO, toDs, hk] <;> with_reducible rfl) (by simp -dsimp [valT, toDs, hk] <;> with_reducible rfl)⟩, ?_⟩
          rotate_left
          refine ⟨.inl (by kernel_rfl), ?_⟩
          exact True.intro
        case v2u4 =>
          refine ⟨.inl (by kernel_rfl), ?_⟩
          refine ⟨.inl (by kernel_rfl), ?_⟩
          refine ⟨.inl (by kernel_rfl), ?_⟩
          refine ⟨.inl (by kernel_rfl), ?_⟩
          refine ⟨.inl (by kernel_rfl), ?_⟩
          refine ⟨.inl (by kernel_rfl), ?_⟩
          refine ⟨.inl (by kernel_rfl), ?_⟩
          refine ⟨.inl (by kernel_rfl), ?_⟩
          refine ⟨.inl (by kernel_rfl), ?_⟩
          refine ⟨.inl (by kernel_rfl), ?_⟩
          refine ⟨.inl (by kernel_rfl), ?_⟩
          refine ⟨.inl (by kernel_rfl), ?_⟩
          refine ⟨.inl (by kernel_rfl), ?_⟩
          refine ⟨.inl (by kernel_rfl), ?_⟩
          refine ⟨.inl (by kernel_rfl), ?_⟩
          refine ⟨.inl (by kernel_rfl), ?_⟩
          refine ⟨.inl (by kernel_rfl), ?_⟩
          refine ⟨.inl (by kernel_rfl), ?_⟩
          refine ⟨.inl (by kernel_rfl), ?_⟩
          refine ⟨.inr ⟨_, rfl, effN_self (eff_v rfl rfl (by simp -dsimp [valT, toDs, hk] <;> with_reducible rfl))⟩, ?_⟩
          refine ⟨.inl (by kernel_rfl), ?_⟩
          exact True.intro
        case s2u4 =>
          refine ⟨.inl (by kernel_rfl), ?_⟩
          refine ⟨.inl (by kernel_rfl), ?_⟩
          refine ⟨.inr ⟨_, _, rfl, rfl, effN_of (eff_w (hdk := rfl) (hW := rfl) (hq := by simp -dsimp [valT, toDs, hk] <;> (first | done | rfl | exact ⟨rfl, rfl⟩ | exact ⟨rfl, rfl, rfl⟩)) (hoo := rfl) (hv := by simp -dsimp [valT, toDs, hk] <;> with_reducible rfl)) (by simp -dsimp [valT, canonO, insO, toDs, hk] <;> with_reducible rfl)⟩, ?_⟩
          exact True.intro
        case v3u4 =>
          refine ⟨.inl (by kernel_rfl), ?_⟩
          refine ⟨.inl (by kernel_rfl), ?_⟩
          refine ⟨.inl (by kernel_rfl), ?_⟩
          refine ⟨.inl (by kernel_rfl), ?_⟩
          refine ⟨.inl (by kernel_rfl), ?_⟩
          refine ⟨.inl (by kernel_rfl), ?_⟩
          refine ⟨.inl (by kernel_rfl), ?_⟩
          refine ⟨.inl (by kernel_rfl), ?_⟩
          refine ⟨.inl (by kernel_rfl), ?_⟩
          refine ⟨.inl (by kernel_rfl), ?_⟩
          refine ⟨.inl (by kernel_rfl), ?_⟩
          refine ⟨.inl (by kernel_rfl), ?_⟩
          refine ⟨.inl (by kernel_rfl), ?_⟩
          refine ⟨.inl (by kernel_rfl), ?_⟩
          refine ⟨.inl (by kernel_rfl), ?_⟩
          refine ⟨.inl (by kernel_rfl), ?_⟩
          refine ⟨.inl (by kernel_rfl), ?_⟩
          refine ⟨.inl (by kernel_rfl), ?_⟩
          refine ⟨.inl (by kernel_rfl), ?_⟩
          refine ⟨.inl (by kernel_rfl), ?_⟩
          refine ⟨.inl (by kernel_rfl), ?_⟩
          exact True.intro
        case s3u4 =>
          refine ⟨.inl (by kernel_rfl), ?_⟩
          refine ⟨.inl (by kernel_rfl), ?_⟩
          refine ⟨.inl (by kernel_rfl), ?_⟩
          exact True.intro
        case s1u4 => simp -dsimp [valT, toDs, hk]
        case hoku4 => kernel_rfl
        refine ⟨rfl, ?_⟩
        (repeat' (first
                                                            | (with_reducible refine br_d (fun _ => ?_) (fun _ => ?_))
                                                            | (with_reducible refine br_i (fun _ => ?_) (fun _ => ?_))
                                                            | (with_reducible refine nd_v (h2) (by first | rfl | (simp -dsimp [toDs, hk]; done)) ?_)
                                                            | (with_reducible refine nw_v (h2) rfl (by first | rfl | (simp -dsimp [toDs, hk]; done)) (by first | rfl | (simp -dsimp [toDs, hk]; done)) ?_)
                                                            | ((with_reducible apply nd_next); (case hx => simp -dsimp [toDs, hk]; first | done | with_reducible rfl); (case hid => simp -dsimp [toDs, hk]; first | done | with_reducible rfl | exact ⟨rfl, rfl, rfl⟩ | exact ⟨rfl, rfl⟩); (case' h1 => intro _ _ _); (case' h0 => intro _))
                                                            | ((with_reducible apply nd_entry); (case hx => simp -dsimp [toDs, hk]; first | done | with_reducible rfl); (case hid => simp -dsimp [toDs, hk]; first | done | with_reducible rfl | exact ⟨rfl, rfl, rfl⟩ | exact ⟨rfl, rfl⟩))
                                                            | ((with_reducible apply nd_range); (case hx => simp -dsimp [toDs, hk]; with_reducible rfl); (case hT => simp -dsimp [toDs, hk]); (case hnd => assumption); (case hz => simp -dsimp [toDs, hk]))
                                                            | (with_reducible refine dn_i follows_any (by kernel_rfl) ?_)
                                                            | (with_reducible exact done_eq rfl)
                                                            | (simp -dsimp [toDs, hk]))); (all_goals try with_reducible refine done_eq ?_)
        all_goals first | rfl | (simp only [dLTs, dMTs, List.map_cons, List.map_nil, ltD_x, mtD_x]; first | done | rfl)
theorem fromField_s (nm : ByteArray) (r : RF) (dflt : List GV) (h : FRef r) (hd : ∀ d, dflt.head? = some d → Fits (treeOf d)) : FField (.mk nm r dflt) := by
  obtain ⟨p0, p1, p2, p3, p4, p5, he⟩ := srD_six r
  obtain ⟨named1, name1, sc1, ls1, ms1, rel1, en1⟩ : ∃ named name sc2 ls2 ms2 rel, nR r = .mk named name (.mk sc2 ls2 ms2) rel := by
    obtain ⟨named, name, ⟨sc2, ls2, ms2⟩, rel⟩ := nR r
    exact ⟨_, _, _, _, _, _, rfl⟩
  unfold FField
  unfold FRef at h
  rw [he, en1, rfD_x] at h
  simp only [sfD, nF, he, en1, ftD_x, List.cons_append, List.nil_append]
  cases dflt with
  | nil =>
    simp only [dfD, nD]
    try simp only [cls_cons, cls_nil] at *
    refine acalls_ex [(1, ([], [(0, []), (1, []), (2, []), (3, []), (4, [6]), (5, []), (6, []), (7, [])]))] Try.func65 (by kernel_rfl) rfl Try.ntmps65 Try.results65 (Nat.le_of_ble_eq_true (by kernel_rfl)) ?_; intro hok w0 S0
    clear hok
    (repeat' (first
                                                            | (with_reducible refine br_d (fun _ => ?_) (fun _ => ?_))
                                                            | (with_reducible refine br_i (fun _ => ?_) (fun _ => ?_))
                                                            | (with_reducible refine nd_v (h) (by first | rfl | (simp -dsimp; done)) ?_)
                                                            | (with_reducible refine nw_v (h) rfl (by first | rfl | (simp -dsimp; done)) (by first | rfl | (simp -dsimp; done)) ?_)
                                                            | ((with_reducible apply nd_next); (case hx => simp -dsimp; first | done | with_reducible rfl); (case hid => simp -dsimp; first | done | with_reducible rfl | exact ⟨rfl, rfl, rfl⟩ | exact ⟨rfl, rfl⟩); (case' h1 => intro _ _ _); (case' h0 => intro _))
                                                            | ((with_reducible apply nd_entry); (case hx => simp -dsimp; first | done | with_reducible rfl); (case hid => simp -dsimp; first | done | with_reducible rfl | exact ⟨rfl, rfl, rfl⟩ | exact ⟨rfl, rfl⟩))
                                                            | ((with_reducible apply nd_range); (case hx => simp -dsimp; with_reducible rfl); (case hT => simp -dsimp); (case hnd => assumption); (case hz => simp -dsimp))
                                                            | (with_reducible refine dn_i follows_any (by kernel_rfl) ?_)
                                                            | (with_reducible exact done_eq rfl)
                                                            | (simp -dsimp))); (all_goals try with_reducible refine done_eq ?_)
  | cons d dflt =>
    have ht := fromTree_a (treeOf d) (hd d rfl)
    rw [from_tree] at ht
    simp only [dfD, nD]
    cases htd : treeOf d
    case nil =>
      simp only [isNilT, if_true]
      try simp only [cls_cons, cls_nil] at *
      refine acalls_ex [(1, ([], [(0, []), (1, []), (2, []), (3, []), (4, [6]), (5, []), (6, []), (7, [])]))] Try.func65 (by kernel_rfl) rfl Try.ntmps65 Try.results65 (Nat.le_of_ble_eq_true (by kernel_rfl)) ?_; intro hok w0 S0
      clear hok
      (repeat' (first
                                                            | (with_reducible refine br_d (fun _ => ?_) (fun _ => ?_))
                                                            | (with_reducible refine br_i (fun _ => ?_) (fun _ => ?_))
                                                            | (with_reducible refine nd_v (h) (by first | rfl | (simp -dsimp; done)) ?_)
                                                            | (with_reducible refine nw_v (h) rfl (by first | rfl | (simp -dsimp; done)) (by first | rfl | (simp -dsimp; done)) ?_)
                                                            | ((with_reducible apply nd_next); (case hx => simp -dsimp; first | done | with_reducible rfl); (case hid => simp -dsimp; first | done | with_reducible rfl | exact ⟨rfl, rfl, rfl⟩ | exact ⟨rfl, rfl⟩); (case' h1 => intro _ _ _); (case' h0 => intro _))
                                                            | ((with_reducible apply nd_entry); (case hx => simp -dsimp; first | done | with_reducible rfl); (case hid => simp -dsimp; first | done | with_reducible rfl | exact ⟨rfl, rfl, rfl⟩ | exact ⟨rfl, rfl⟩))
                                                            | ((with_reducible apply nd_range); (case hx => simp -dsimp; with_reducible rfl); (case hT => simp -dsimp); (case hnd => assumption); (case hz => simp -dsimp))
                                                            | (with_reducible refine dn_i follows_any (by kernel_rfl) ?_)
                                                            | (with_reducible exact done_eq rfl)
                                                            | (simp -dsimp))); (all_goals try with_reducible refine done_eq ?_)
    all_goals
      rw [htd] at ht
      simp only [isNilT, Bool.false_eq_true, if_false, dGVs, List.map_cons, List.map_nil]
      try simp only [cls_cons, cls_nil] at *
      refine acalls_ex [(1, ([], [(0, []), (1, []), (2, []), (3, []), (4, [6]), (5, []), (6, []), (7, [])]))] Try.func65 (by kernel_rfl) rfl Try.ntmps65 Try.results65 (Nat.le_of_ble_eq_true (by kernel_rfl)) ?_; intro hok w0 S0
      clear hok
      (repeat' (first
                                                            | (with_reducible refine br_d (fun _ => ?_) (fun _ => ?_))
                                                            | (with_reducible refine br_i (fun _ => ?_) (fun _ => ?_))
                                                            | (with_reducible refine nd_v (h) (by first | rfl | (simp -dsimp [toDs]; done)) ?_)
                                                            | (with_reducible refine nw_v (h) rfl (by first | rfl | (simp -dsimp [toDs]; done)) (by first | rfl | (simp -dsimp [toDs]; done)) ?_)
                                                            | (with_reducible refine nd_v (ht) (by first | rfl | (simp -dsimp [toDs]; done)) ?_)
                                                            | (with_reducible refine nw_v (ht) rfl (by first | rfl | (simp -dsimp [toDs]; done)) (by first | rfl | (simp -dsimp [toDs]; done)) ?_)
                                                            | ((with_reducible apply nd_next); (case hx => simp -dsimp [toDs]; first | done | with_reducible rfl); (case hid => simp -dsimp [toDs]; first | done | with_reducible rfl | exact ⟨rfl, rfl, rfl⟩ | exact ⟨rfl, rfl⟩); (case' h1 => intro _ _ _); (case' h0 => intro _))
                                                            | ((with_reducible apply nd_entry); (case hx => simp -dsimp [toDs]; first | done | with_reducible rfl); (case hid => simp -dsimp [toDs]; first | done | with_reducible rfl | exact ⟨rfl, rfl, rfl⟩ | exact ⟨rfl, rfl⟩))
                                                            | ((with_reducible apply nd_range); (case hx => simp -dsimp [toDs]; with_reducible rfl); (case hT => simp -dsimp [toDs]); (case hnd => assumption); (case hz => simp -dsimp [toDs]))
                                                            | (with_reducible refine dn_i follows_any (by kernel_rfl) ?_)
                                                            | (with_reducible exact done_eq rfl)
                                                            | (simp -dsimp [toDs]))); (all_goals try with_reducible refine done_eq ?_)
theorem fromMap_s (fs : List FT) (e : RF) (rel : ByteArray) (h : FRef e) (hf : ∀ f ∈ fs, FField f) (hl : fs.length * 144 ≤ 140737488351232) : FMap (.mk fs e rel) := by
  obtain ⟨p0, p1, p2, p3, p4, p5, he⟩ := srD_six e
  obtain ⟨named1, name1, sc1, ls1, ms1, rel1, en1⟩ : ∃ named name sc2 ls2 ms2 rel, nR e = .mk named name (.mk sc2 ls2 ms2) rel := by
    obtain ⟨named, name, ⟨sc2, ls2, ms2⟩, rel⟩ := nR e
    exact ⟨_, _, _, _, _, _, rfl⟩
  unfold FMap
  unfold FRef at h
  rw [he, en1, rfD_x] at h
  have e1 : smD (.mk fs e rel) = [dSFs fs, .sl 235 [], p0, p1, p2, p3, p4, p5, dS rel] := by simp only [smD, he, sfDs_eq, List.cons_append, List.nil_append]
  have e2 : mtD (nM (.mk fs e rel)) = [.sl 44 (fs.map (ftD ∘ nF)), dB named1, dS name1, dS sc1, dLTs ls1, dMTs ms1, dS rel1, dS rel] := by
    simp only [nM, en1, mtD_x, mtX, dFTs, nFs_eq, List.map_map]
  rw [e1, e2]
  try simp only [cls_cons, cls_nil] at *
  refine acalls_ex [(1, ([], [(0, []), (1, []), (2, []), (3, []), (5, []), (6, []), (7, []), (8, []), (4, [10]), (9, []), (10, []), (11, [])])), (5, ([], [(0, []), (1, []), (2, []), (3, []), (4, []), (5, []), (6, []), (7, [])]))] Try.func117 (by kernel_rfl) rfl Try.ntmps117 Try.results117 (Nat.le_of_ble_eq_true (by kernel_rfl)) ?_; intro hok w0 S0
  clear hok
  have b1 : fs.length ≤ 9223372036854775807 := by omega
  have w1 := w1
  (repeat' (first
                                                            | (with_reducible refine br_d (fun _ => ?_) (fun _ => ?_))
                                                            | (with_reducible refine br_i (fun _ => ?_) (fun _ => ?_))
                                                            | (with_reducible refine nd_v (h) (by first | rfl | (simp -dsimp [b1]; done)) ?_)
                                                            | (with_reducible refine nw_v (h) rfl (by first | rfl | (simp -dsimp [b1]; done)) (by first | rfl | (simp -dsimp [b1]; done)) ?_)
                                                            | ((with_reducible apply nd_next); (case hx => simp -dsimp [b1]; first | done | with_reducible rfl); (case hid => simp -dsimp [b1]; first | done | with_reducible rfl | exact ⟨rfl, rfl, rfl⟩ | exact ⟨rfl, rfl⟩); (case' h1 => intro _ _ _); (case' h0 => intro _))
                                                            | ((with_reducible apply nd_entry); (case hx => simp -dsimp [b1]; first | done | with_reducible rfl); (case hid => simp -dsimp [b1]; first | done | with_reducible rfl | exact ⟨rfl, rfl, rfl⟩ | exact ⟨rfl, rfl⟩))
                                                            | ((with_reducible apply nd_range); (case hx => simp -dsimp [b1]; with_reducible rfl); (case hT => simp -dsimp [b1]); (case hnd => assumption); (case hz => simp -dsimp [b1]))
                                                            | (with_reducible refine dn_i follows_any (by kernel_rfl) ?_)
                                                            | (with_reducible exact done_eq rfl)
                                                            | (simp -dsimp [b1]))); (all_goals try with_reducible refine done_eq ?_)
  refine ex_loop (fun i : Nat => match i with
      | 0 => ⟨[(2, .c (.own 2 0)), (3, .c (.own 3 0)), (19, .c (.d (dSFs fs))), (20, aI fs.length), (21, aI 0)], [(2, .cells [.d (.v (.slice none 0 0)), .d (dB false), .d (dS ⟨#[]⟩), .d (dS ⟨#[]⟩), .d (.v (.slice none 0 0)), .d (.v (.slice none 0 0)), .d (dS ⟨#[]⟩), .d (dS ⟨#[]⟩)] 40), (3, .cells [.d (.v (.slice none 0 0)), .d (dB named1), .d (dS name1), .d (dS sc1), .d (dLTs ls1), .d (dMTs ms1), .d (dS rel1), .d (dS rel)] 40)]⟩
      | i + 1 => ⟨[(2, .c (.own 2 0)), (3, .c (.own 3 0)), (19, .c (.d (dSFs fs))), (20, aI fs.length), (21, aI ((i + 1 : Nat) : Int))], [(30, .arr (i + 1) 44 ((fs.map (ftD ∘ nF)).take (i + 1))), (2, .cells [.d (.v (.slice none 0 0)), .d (dB false), .d (dS ⟨#[]⟩), .d (dS ⟨#[]⟩), .d (.v (.slice none 0 0)), .d (.v (.slice none 0 0)), .d (dS ⟨#[]⟩), .d (dS ⟨#[]⟩)] 40), (3, .cells [.gs 30 (i + 1), .d (dB named1), .d (dS name1), .d (dS sc1), .d (dLTs ls1), .d (dMTs ms1), .d (dS rel1), .d (dS rel)] 40)]⟩)
      (fun i => i ≤ fs.length) (fun i => fs.length - i) 0 ?_ (Nat.zero_le _) ?_
  · exact Weak.same (by simp -dsimp) (by simp -dsimp) (by first | rfl | (simp [closedSt, Av.ids, Ow.ids, Cl.ids, Go.Smd.keys]; done))
  · rintro i hi K hK
    have kT : ∀ (j : Nat) (h : j < fs.length), (fs.map (ftD ∘ nF)).take (j + 1) = (fs.map (ftD ∘ nF)).take j ++ [ftD (nF fs[j])] := fun j h => by
      rw [List.take_succ_eq_append_getElem (by simpa using h)]; simp
    cases i with
    | zero =>
      dsimp only
      by_cases hlt : 0 < fs.length
      · have h0 := hf _ (List.getElem_mem hlt)
        (repeat' (first
                                                            | (with_reducible refine br_d (fun _ => ?_) (fun _ => ?_))
                                                            | (with_reducible refine br_i (fun _ => ?_) (fun _ => ?_))
                                                            | (with_reducible refine nd_v (h0) (by first | rfl | (simp -dsimp [hlt, toDs]; done)) ?_)
                                                            | (with_reducible refine nw_v (h0) rfl (by first | rfl | (simp -dsimp [hlt, toDs]; done)) (by first | rfl | (simp -dsimp [hlt, toDs]; done)) ?_)
                                                            | ((with_reducible apply nd_next); (case hx => simp -dsimp [hlt, toDs]; first | done | with_reducible rfl); (case hid => simp -dsimp [hlt, toDs]; first | done | with_reducible rfl | exact ⟨rfl, rfl, rfl⟩ | exact ⟨rfl, rfl⟩); (case' h1 => intro _ _ _); (case' h0 => intro _))
                                                            | ((with_reducible apply nd_entry); (case hx => simp -dsimp [hlt, toDs]; first | done | with_reducible rfl); (case hid => simp -dsimp [hlt, toDs]; first | done | with_reducible rfl | exact ⟨rfl, rfl, rfl⟩ | exact ⟨rfl, rfl⟩))
                                                            | ((with_reducible apply nd_range); (case hx => simp -dsimp [hlt, toDs]; with_reducible rfl); (case hT => simp -dsimp [hlt, toDs]); (case hnd => assumption); (case hz => simp -dsimp [hlt, toDs]))
                                                            | (with_reducible refine dn_i follows_any (by kernel_rfl) ?_)
                                                            | (with_reducible exact done_eq rfl)
                                                            | (simp -dsimp [hlt, toDs]))); (all_goals try with_reducible refine done_eq ?_)
        refine hK _ 1 ?_ (by omega) (by omega)
        dsimp only
        rw [kT 0 hlt]
        exact Weak.same (by simp -dsimp [w1]) (by simp -dsimp [w1]) (by first | rfl | (simp [closedSt, Av.ids, Ow.ids, Cl.ids, Go.Smd.keys]; done))
      · have e : fs = [] := List.eq_nil_of_length_eq_zero (by omega)
        subst e
        (repeat' (first
                                                            | (with_reducible refine br_d (fun _ => ?_) (fun _ => ?_))
                                                            | (with_reducible refine br_i (fun _ => ?_) (fun _ => ?_))
                                                            | ((with_reducible apply nd_next); (case hx => simp -dsimp; first | done | with_reducible rfl); (case hid => simp -dsimp; first | done | with_reducible rfl | exact ⟨rfl, rfl, rfl⟩ | exact ⟨rfl, rfl⟩); (case' h1 => intro _ _ _); (case' h0 => intro _))
                                                            | ((with_reducible apply nd_entry); (case hx => simp -dsimp; first | done | with_reducible rfl); (case hid => simp -dsimp; first | done | with_reducible rfl | exact ⟨rfl, rfl, rfl⟩ | exact ⟨rfl, rfl⟩))
                                                            | ((with_reducible apply nd_range); (case hx => simp -dsimp; with_reducible rfl); (case hT => simp -dsimp); (case hnd => assumption); (case hz => simp -dsimp))
                                                            | (with_reducible refine dn_i follows_any (by kernel_rfl) ?_)
                                                            | (with_reducible exact done_eq rfl)
                                                            | (simp -dsimp))); (all_goals try with_reducible refine done_eq ?_)
    | succ i =>
      dsimp only
      have hrl : ((fs.map (ftD ∘ nF)).take (i + 1)).length = i + 1 := by simp; omega
      obtain ⟨R, hR⟩ : ∃ R, R = (fs.map (ftD ∘ nF)).take (i + 1) := ⟨_, rfl⟩
      rw [← hR] at hrl ⊢
      by_cases hlt : i + 1 < fs.length
      · have h0 := hf _ (List.getElem_mem hlt)
        have hw : IntKind.wrap .i64 (((i + 1 : Nat) : Int) + 1) = ((i + 1 + 1 : Nat) : Int) := by rw [wrap_i64] <;> omega
        have hw2 : IntKind.wrap .i64 ((i : Int) + 1 + 1) = ((i + 1 + 1 : Nat) : Int) := by rw [wrap_i64] <;> omega
        have hb : (i + 1 + 1) * 144 ≤ 140737488351232 := by omega
        have h1 : (i : Int) + 1 < fs.length := by omega
        have h2 : (0 : Int) ≤ (i : Int) + 1 := by omega
        have h3 : ((i : Int) + 1).toNat = i + 1 := by omega
        (repeat' (first
                                                            | (with_reducible refine br_d (fun _ => ?_) (fun _ => ?_))
                                                            | (with_reducible refine br_i (fun _ => ?_) (fun _ => ?_))
                                                            | (with_reducible refine nd_v (h0) (by first | rfl | (simp -dsimp [hlt, hrl, hw, hw2, hb, h1, h2, h3, toDs]; done)) ?_)
                                                            | (with_reducible refine nw_v (h0) rfl (by first | rfl | (simp -dsimp [hlt, hrl, hw, hw2, hb, h1, h2, h3, toDs]; done)) (by first | rfl | (simp -dsimp [hlt, hrl, hw, hw2, hb, h1, h2, h3, toDs]; done)) ?_)
                                                            | ((with_reducible apply nd_next); (case hx => simp -dsimp [hlt, hrl, hw, hw2, hb, h1, h2, h3, toDs]; first | done | with_reducible rfl); (case hid => simp -dsimp [hlt, hrl, hw, hw2, hb, h1, h2, h3, toDs]; first | done | with_reducible rfl | exact ⟨rfl, rfl, rfl⟩ | exact ⟨rfl, rfl⟩); (case' h1 => intro _ _ _); (case' h0 => intro _))
                                                            | ((with_reducible apply nd_entry); (case hx => simp -dsimp [hlt, hrl, hw, hw2, hb, h1, h2, h3, toDs]; first | done | with_reducible rfl); (case hid => simp -dsimp [hlt, hrl, hw, hw2, hb, h1, h2, h3, toDs]; first | done | with_reducible rfl | exact ⟨rfl, rfl, rfl⟩ | exact ⟨rfl, rfl⟩))
                                                            | ((with_reducible apply nd_range); (case hx => simp -dsimp [hlt, hrl, hw, hw2, hb, h1, h2, h3, toDs]; with_reducible rfl); (case hT => simp -dsimp [hlt, hrl, hw, hw2, hb, h1, h2, h3, toDs]); (case hnd => assumption); (case hz => simp -dsimp [hlt, hrl, hw, hw2, hb, h1, h2, h3, toDs]))
                                                            | (with_reducible refine dn_i follows_any (by kernel_rfl) ?_)
                                                            | (with_reducible exact done_eq rfl)
                                                            | (simp -dsimp [hlt, hrl, hw, hw2, hb, h1, h2, h3, toDs]))); (all_goals try with_reducible refine done_eq ?_)
        refine hK _ (i + 1 + 1) ?_ (by omega) (by omega)
        dsimp only
        rw [kT (i + 1) hlt, ← hR]
        exact Weak.same (by simp -dsimp) (by simp -dsimp) (by first | rfl | (simp [closedSt, Av.ids, Ow.ids, Cl.ids, Go.Smd.keys]; done))
      · have h1 : ¬ (i : Int) + 1 < fs.length := by omega
        have e : R = fs.map (ftD ∘ nF) := by rw [hR, List.take_of_length_le (by simp; omega)]
        (repeat' (first
                                                            | (with_reducible refine br_d (fun _ => ?_) (fun _ => ?_))
                                                            | (with_reducible refine br_i (fun _ => ?_) (fun _ => ?_))
                                                            | ((with_reducible apply nd_next); (case hx => simp -dsimp [h1]; first | done | with_reducible rfl); (case hid => simp -dsimp [h1]; first | done | with_reducible rfl | exact ⟨rfl, rfl, rfl⟩ | exact ⟨rfl, rfl⟩); (case' h1 => intro _ _ _); (case' h0 => intro _))
                                                            | ((with_reducible apply nd_entry); (case hx => simp -dsimp [h1]; first | done | with_reducible rfl); (case hid => simp -dsimp [h1]; first | done | with_reducible rfl | exact ⟨rfl, rfl, rfl⟩ | exact ⟨rfl, rfl⟩))
                                                            | ((with_reducible apply nd_range); (case hx => simp -dsimp [h1]; with_reducible rfl); (case hT => simp -dsimp [h1]); (case hnd => assumption); (case hz => simp -dsimp [h1]))
                                                            | (with_reducible refine dn_i follows_any (by kernel_rfl) ?_)
                                                            | (with_reducible exact done_eq rfl)
                                                            | (simp -dsimp [h1]))); (all_goals try with_reducible refine done_eq ?_)
        rw [e]
mutual
def gR : RF → Prop
  | .mk _ _ a _ => gA a
def gA : AT → Prop
  | .mk _ ls ms => ls.length ≤ 9223372036854775807 ∧ ms.length ≤ 9223372036854775807 ∧ gLs ls ∧ gMs ms
def gL : LT → Prop
  | .mk e _ keys => gR e ∧ keys.length * 16 ≤ 140737488351232
def gM : MT → Prop
  | .mk fs e _ => gR e ∧ fs.length * 144 ≤ 140737488351232 ∧ gFs fs
def gF : FT → Prop
  | .mk _ r dflt => gR r ∧ dflt.length ≤ 9223372036854775807 ∧ ∀ d ∈ dflt, Fits (treeOf d)
def gLs : List LT → Prop
  | [] => True
  | l :: r => gL l ∧ gLs r
def gMs : List MT → Prop
  | [] => True
  | l :: r => gM l ∧ gMs r
def gFs : List FT → Prop
  | [] => True
  | l :: r => gF l ∧ gFs r
end
theorem gLs_mem : ∀ {ls : List LT}, gLs ls → ∀ l ∈ ls, gL l
  | [], _, _, h => by cases h
  | x :: ls, hg, l, h => by
    simp only [gLs] at hg
    rcases List.mem_cons.1 h with rfl | h
    · exact hg.1
    · exact gLs_mem hg.2 l h
theorem gMs_mem : ∀ {ls : List MT}, gMs ls → ∀ l ∈ ls, gM l
  | [], _, _, h => by cases h
  | x :: ls, hg, l, h => by
    simp only [gMs] at hg
    rcases List.mem_cons.1 h with rfl | h
    · exact hg.1
    · exact gMs_mem hg.2 l h
theorem gFs_mem : ∀ {ls : List FT}, gFs ls → ∀ l ∈ ls, gF l
  | [], _, _, h => by cases h
  | x :: ls, hg, l, h => by
    simp only [gFs] at hg
    rcases List.mem_cons.1 h with rfl | h
    · exact hg.1
    · exact gFs_mem hg.2 l h
theorem gLs_of : ∀ {ls : List LT}, (∀ l ∈ ls, gL l) → gLs ls
  | [], _ => by simp [gLs]
  | x :: ls, h => by simp only [gLs]; exact ⟨h x (List.mem_cons_self ..), gLs_of fun l hl => h l (List.mem_cons_of_mem _ hl)⟩
theorem gMs_of : ∀ {ls : List MT}, (∀ l ∈ ls, gM l) → gMs ls
  | [], _ => by simp [gMs]
  | x :: ls, h => by simp only [gMs]; exact ⟨h x (List.mem_cons_self ..), gMs_of fun l hl => h l (List.mem_cons_of_mem _ hl)⟩
theorem gFs_of : ∀ {ls : List FT}, (∀ l ∈ ls, gF l) → gFs ls
  | [], _ => by simp [gFs]
  | x :: ls, h => by simp only [gFs]; exact ⟨h x (List.mem_cons_self ..), gFs_of fun l hl => h l (List.mem_cons_of_mem _ hl)⟩
theorem sch_ind {PR : RF → Prop} {PA : AT → Prop} {PL : LT → Prop} {PM : MT → Prop} {PF : FT → Prop}
    (hR : ∀ named name a rel, PA a → PR (.mk named name a rel)) (hA : ∀ sc ls ms, (∀ l ∈ ls, PL l) → (∀ m ∈ ms, PM m) → PA (.mk sc ls ms)) (hL : ∀ e rel keys, PR e → PL (.mk e rel keys))
    (hM : ∀ fs e rel, (∀ f ∈ fs, PF f) → PR e → PM (.mk fs e rel)) (hF : ∀ nm r dflt, PR r → PF (.mk nm r dflt)) :
    ∀ n : Nat, (∀ r : RF, SizeOf.sizeOf r < n → PR r) ∧ (∀ a : AT, SizeOf.sizeOf a < n → PA a) ∧ (∀ l : LT, SizeOf.sizeOf l < n → PL l) ∧ (∀ m : MT, SizeOf.sizeOf m < n → PM m) ∧ (∀ f : FT, SizeOf.sizeOf f < n → PF f)
  | 0 => ⟨fun _ h => by omega, fun _ h => by omega, fun _ h => by omega, fun _ h => by omega, fun _ h => by omega⟩
  | n + 1 => by
    obtain ⟨iR, iA, iL, iM, iF⟩ := sch_ind hR hA hL hM hF n
    refine ⟨fun r h => ?_, fun a h => ?_, fun l h => ?_, fun m h => ?_, fun f h => ?_⟩
    · obtain ⟨named, name, a, rel⟩ := r
      simp only [RF.mk.sizeOf_spec] at h
      exact hR _ _ _ _ (iA a (by omega))
    · obtain ⟨sc, ls, ms⟩ := a
      simp only [AT.mk.sizeOf_spec] at h
      exact hA _ _ _ (fun l hl => iL l (by have := List.sizeOf_lt_of_mem hl; omega)) fun m hm => iM m (by have := List.sizeOf_lt_of_mem hm; omega)
    · obtain ⟨e, rel, keys⟩ := l
      simp only [LT.mk.sizeOf_spec] at h
      exact hL _ _ _ (iR e (by omega))
    · obtain ⟨fs, e, rel⟩ := m
      simp only [MT.mk.sizeOf_spec] at h
      exact hM _ _ _ (fun f hf => iF f (by have := List.sizeOf_lt_of_mem hf; omega)) (iR e (by omega))
    · obtain ⟨nm, r, dflt⟩ := f
      simp only [FT.mk.sizeOf_spec] at h
      exact hF _ _ _ (iR r (by omega))
theorem fromAtom_0 : FAtom (.mk ⟨#[]⟩ [] []) := fromAtom_s _ _ _ (fun _ _ _ h => by cases h) fun _ h => by cases h
theorem sch_all (n : Nat) : (∀ r : RF, SizeOf.sizeOf r < n → gR r → CRef r ∧ FRef r) ∧ (∀ a : AT, SizeOf.sizeOf a < n → gA a → CAtom a ∧ FAtom a) ∧ (∀ l : LT, SizeOf.sizeOf l < n → gL l → CList l ∧ ∀ e rel keys, l = .mk e rel keys → FRef e) ∧ (∀ m : MT, SizeOf.sizeOf m < n → gM m → CMap m ∧ FMap m) ∧ (∀ f : FT, SizeOf.sizeOf f < n → gF f → CField f ∧ FField f) := by
  refine sch_ind (fun named name a rel h g => ?_) (fun sc ls ms hl hm g => ?_) (fun e rel keys h g => ?_) (fun fs e rel hf h g => ?_) (fun nm r dflt h g => ?_) n
  · simp only [gR] at g
    exact ⟨toRef_s _ _ _ _ (h g).1, fromRef_s _ _ _ _ fromAtom_0 (h g).2⟩
  · simp only [gA] at g
    obtain ⟨g1, g2, g3, g4⟩ := g
    have m1 : ∀ {α : Type} {l : List α} {x : α}, l.head? = some x → x ∈ l := fun h => List.mem_of_mem_head? h
    refine ⟨toAtom_s _ _ _ (fun l h => (hl l (m1 h) (gLs_mem g3 l (m1 h))).1) (fun m h => (hm m (m1 h) (gMs_mem g4 m (m1 h))).1) g1 g2, fromAtom_s _ _ _ (fun e rel keys h => ?_) fun m h => (hm m (m1 h) (gMs_mem g4 m (m1 h))).2⟩
    have gl := gLs_mem g3 _ (m1 h)
    refine ⟨(hl _ (m1 h) gl).2 e rel keys rfl, ?_⟩
    simp only [gL] at gl
    exact gl.2
  · simp only [gL] at g
    exact ⟨toList_s _ _ _ (h g.1).1 g.2, fun e' rel' keys' he => by cases he; exact (h g.1).2⟩
  · simp only [gM] at g
    exact ⟨toMap_s _ _ _ (h g.1).1 (fun f hm => (hf f hm (gFs_mem g.2.2 f hm)).1) g.2.1, fromMap_s _ _ _ (h g.1).2 (fun f hm => (hf f hm (gFs_mem g.2.2 f hm)).2) g.2.1⟩
  · simp only [gF] at g
    exact ⟨toField_s _ _ _ (h g.1).1 g.2.1, fromField_s _ _ _ (h g.1).2 fun d hd => g.2.2 d (List.mem_of_mem_head? hd)⟩
theorem atom_a (a : AT) (g : gA a) : CAtom a ∧ FAtom a := (sch_all (SizeOf.sizeOf a + 1)).2.1 a (by omega) g
theorem g_ok (n : Nat) : (∀ r : RF, SizeOf.sizeOf r < n → (∀ d ∈ rfD r, okD Try.prog d) → gR r) ∧ (∀ a : AT, SizeOf.sizeOf a < n → (∀ d ∈ atD a, okD Try.prog d) → gA a) ∧ (∀ l : LT, SizeOf.sizeOf l < n → (∀ d ∈ ltD l, okD Try.prog d) → gL l) ∧ (∀ m : MT, SizeOf.sizeOf m < n → (∀ d ∈ mtD m, okD Try.prog d) → gM m) ∧ (∀ f : FT, SizeOf.sizeOf f < n → (∀ d ∈ ftD f, okD Try.prog d) → gF f) := by
  refine sch_ind (fun named name a rel h g => ?_) (fun sc ls ms hl hm g => ?_) (fun e rel keys h g => ?_) (fun fs e rel hf h g => ?_) (fun nm r dflt h g => ?_) n
  · simp only [gR]
    exact h fun d hd => g d (by simp only [rfD, List.mem_append]; exact .inl (.inr hd))
  · simp only [gA]
    rw [atD_x] at g
    obtain ⟨a1, a2⟩ := okD_sl (g (dLTs ls) (by simp))
    obtain ⟨b1, b2⟩ := okD_sl (g (dMTs ms) (by simp))
    simp at a1 b1
    exact ⟨by omega, by omega, gLs_of fun l hm' => hl l hm' fun d hd => (a2 _ (List.mem_map_of_mem hm')).2 d hd, gMs_of fun m hm' => hm m hm' fun d hd => (b2 _ (List.mem_map_of_mem hm')).2 d hd⟩
  · simp only [gL]
    exact ⟨h fun d hd => g d (by simp only [ltD, List.mem_append]; exact .inl hd), (strs_ok (g (dStrs keys) (by simp [ltD]))).1⟩
  · simp only [gM]
    obtain ⟨a1, a2⟩ := okD_sl (g (dFTs fs) (by simp [mtD, ftDs_eq]))
    simp at a1
    exact ⟨h fun d hd => g d (by simp only [mtD, List.mem_append]; exact .inl (.inr hd)), a1, gFs_of fun f hm => hf f hm fun d hd => (a2 _ (List.mem_map_of_mem hm)).2 d hd⟩
  · simp only [gF]
    have a1 := gvs_ok (g (dGVs dflt) (by simp [ftD]))
    exact ⟨h fun d hd => g d (by simp only [ftD, List.mem_append]; exact .inl (.inr hd)), by omega, fun d hd => gv_fits (a1.2 d hd)⟩
end Go.Smd
end
