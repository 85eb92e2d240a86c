/- Part 17 of the proof: Sa Eq El Az. -/
import Derived.Test.YtphldfnnjoehpaaQC16
import Derived.Test.YtphldfnnjoehpaaQC04
import Derived.Test.YtphldfnnjoehpaaQC15
set_option linter.unusedVariables false
section
set_option linter.unusedSimpArgs false
set_option maxRecDepth 100000
set_option maxHeartbeats 8000000
namespace Go.Smd
open Go.RowKit Go.Proofs
mutual
inductive RF where
  | mk (named : Bool) (name : ByteArray) (a : AT) (rel : ByteArray)
inductive AT where
  | mk (sc : ByteArray) (ls : List LT) (ms : List MT)
inductive LT where
  | mk (e : RF) (rel : ByteArray) (keys : List ByteArray)
inductive MT where
  | mk (fs : List FT) (e : RF) (rel : ByteArray)
inductive FT where
  | mk (name : ByteArray) (r : RF) (dflt : List GV)
end
mutual
def rfD : RF → List D
  | .mk named name a rel => [dB named, dS name] ++ atD a ++ [dS rel]
def atD : AT → List D
  | .mk sc ls ms => [dS sc, .sl 99 (ltDs ls), .sl 40 (mtDs ms)]
def ltD : LT → List D
  | .mk e rel keys => rfD e ++ [dS rel, dStrs keys]
def mtD : MT → List D
  | .mk fs e rel => [.sl 44 (ftDs fs)] ++ rfD e ++ [dS rel]
def ftD : FT → List D
  | .mk name r dflt => [dS name] ++ rfD r ++ [dGVs dflt]
def ltDs : List LT → List (List D)
  | [] => []
  | x :: l => ltD x :: ltDs l
def mtDs : List MT → List (List D)
  | [] => []
  | x :: l => mtD x :: mtDs l
def ftDs : List FT → List (List D)
  | [] => []
  | x :: l => ftD x :: ftDs l
end
theorem ltDs_eq : ∀ l, ltDs l = l.map ltD
  | [] => by simp [ltDs]
  | x :: l => by simp [ltDs, ltDs_eq l]
theorem mtDs_eq : ∀ l, mtDs l = l.map mtD
  | [] => by simp [mtDs]
  | x :: l => by simp [mtDs, mtDs_eq l]
theorem ftDs_eq : ∀ l, ftDs l = l.map ftD
  | [] => by simp [ftDs]
  | x :: l => by simp [ftDs, ftDs_eq l]
abbrev dLTs (l : List LT) : D := .sl 99 (l.map ltD)
abbrev dMTs (l : List MT) : D := .sl 40 (l.map mtD)
abbrev dFTs (l : List FT) : D := .sl 44 (l.map ftD)
abbrev atX (sc : ByteArray) (ls : List LT) (ms : List MT) : List D := [dS sc, dLTs ls, dMTs ms]
abbrev rfX (named : Bool) (name sc : ByteArray) (ls : List LT) (ms : List MT) (rel : ByteArray) : List D := [dB named, dS name, dS sc, dLTs ls, dMTs ms, dS rel]
abbrev ltX (named : Bool) (name sc : ByteArray) (ls : List LT) (ms : List MT) (rel : ByteArray) (rel2 : ByteArray) (keys : List ByteArray) : List D := [dB named, dS name, dS sc, dLTs ls, dMTs ms, dS rel, dS rel2, dStrs keys]
abbrev mtX (fs : List FT) (named : Bool) (name sc : ByteArray) (ls : List LT) (ms : List MT) (rel : ByteArray) (rel2 : ByteArray) : List D := [dFTs fs, dB named, dS name, dS sc, dLTs ls, dMTs ms, dS rel, dS rel2]
abbrev ftX (nm : ByteArray) (named : Bool) (name sc : ByteArray) (ls : List LT) (ms : List MT) (rel : ByteArray) (dflt : List GV) : List D := [dS nm, dB named, dS name, dS sc, dLTs ls, dMTs ms, dS rel, dGVs dflt]
theorem atD_x (sc : ByteArray) (ls : List LT) (ms : List MT) : atD (.mk sc ls ms) = atX sc ls ms := by simp only [atD, ltDs_eq, mtDs_eq]
theorem rfD_x (named : Bool) (name sc : ByteArray) (ls : List LT) (ms : List MT) (rel : ByteArray) : rfD (.mk named name (.mk sc ls ms) rel) = rfX named name sc ls ms rel := by simp only [rfD, atD_x, List.cons_append, List.nil_append]
theorem ltD_x (named : Bool) (name sc : ByteArray) (ls : List LT) (ms : List MT) (rel : ByteArray) (rel2 : ByteArray) (keys : List ByteArray) : ltD (.mk (.mk named name (.mk sc ls ms) rel) rel2 keys) = ltX named name sc ls ms rel rel2 keys := by simp only [ltD, rfD_x, List.cons_append, List.nil_append]
theorem mtD_x (fs : List FT) (named : Bool) (name sc : ByteArray) (ls : List LT) (ms : List MT) (rel : ByteArray) (rel2 : ByteArray) : mtD (.mk fs (.mk named name (.mk sc ls ms) rel) rel2) = mtX fs named name sc ls ms rel rel2 := by simp only [mtD, ftDs_eq, rfD_x, List.cons_append, List.nil_append]
theorem ftD_x (nm : ByteArray) (named : Bool) (name sc : ByteArray) (ls : List LT) (ms : List MT) (rel : ByteArray) (dflt : List GV) : ftD (.mk nm (.mk named name (.mk sc ls ms) rel) dflt) = ftX nm named name sc ls ms rel dflt := by simp only [ftD, rfD_x, List.cons_append, List.nil_append]
@[simp] theorem atD_length (a : AT) : (atD a).length = 3 := by cases a; rw [atD_x]; rfl
@[simp] theorem rfD_length (r : RF) : (rfD r).length = 6 := by obtain ⟨_, _, ⟨⟩, _⟩ := r; rw [rfD_x]; rfl
@[simp] theorem ltD_length (r : LT) : (ltD r).length = 8 := by obtain ⟨⟨_, _, ⟨⟩, _⟩, _, _⟩ := r; rw [ltD_x]; rfl
@[simp] theorem mtD_length (r : MT) : (mtD r).length = 8 := by obtain ⟨_, ⟨_, _, ⟨⟩, _⟩, _⟩ := r; rw [mtD_x]; rfl
@[simp] theorem ftD_length (r : FT) : (ftD r).length = 8 := by obtain ⟨_, ⟨_, _, ⟨⟩, _⟩, _⟩ := r; rw [ftD_x]; rfl
@[simp] theorem ltD_take (r : LT) : (ltD r).take 8 = ltD r := List.take_of_length_le (by simp)
@[simp] theorem mtD_take (r : MT) : (mtD r).take 8 = mtD r := List.take_of_length_le (by simp)
@[simp] theorem ftD_take (r : FT) : (ftD r).take 8 = ftD r := List.take_of_length_le (by simp)
@[simp] theorem clsLt_take (r : LT) : (cls (ltD r)).take 8 = cls (ltD r) := List.take_of_length_le (by simp)
@[simp] theorem clsMt_take (r : MT) : (cls (mtD r)).take 8 = cls (mtD r) := List.take_of_length_le (by simp)
@[simp] theorem clsFt_take (r : FT) : (cls (ftD r)).take 8 = cls (ftD r) := List.take_of_length_le (by simp)
@[simp] theorem coL_lt (r : LT) : coL [none, none, none, some 99, some 40, none, none, some 9] (cls (ltD r)) = cls (ltD r) := by obtain ⟨⟨_, _, ⟨⟩, _⟩, _, _⟩ := r; rw [ltD_x]; rfl
@[simp] theorem coL_mt (r : MT) : coL [some 44, none, none, none, some 99, some 40, none, none] (cls (mtD r)) = cls (mtD r) := by obtain ⟨_, ⟨_, _, ⟨⟩, _⟩, _⟩ := r; rw [mtD_x]; rfl
@[simp] theorem coL_ft (r : FT) : coL [none, none, none, none, some 99, some 40, none, some 26] (cls (ftD r)) = cls (ftD r) := by obtain ⟨_, ⟨_, _, ⟨⟩, _⟩, _⟩ := r; rw [ftD_x]; rfl
def relD (rel : ByteArray) : D := if rel = ⟨#[]⟩ then .v (.pointer none) else .pt [dS rel]
def dfD : List GV → D
  | [] => .v .nilIface
  | d :: _ => .tr (treeOf d)
mutual
def srD : RF → List D
  | .mk named name a rel => (if named = true then [.pt [dS name], .v (.pointer none), .v (.pointer none), .v (.pointer none)] else .v (.pointer none) :: saD a) ++ [relD rel, dB false]
def saD : AT → List D
  | .mk sc ls ms => [relD sc, slP ls, smP ms]
def slP : List LT → D
  | [] => .v (.pointer none)
  | l :: _ => .pt (slD l)
def smP : List MT → D
  | [] => .v (.pointer none)
  | m :: _ => .pt (smD m)
def slD : LT → List D
  | .mk e rel keys => srD e ++ [dS rel, dStrs keys]
def smD : MT → List D
  | .mk fs e rel => [.sl 118 (sfDs fs), .sl 235 []] ++ srD e ++ [dS rel]
def sfD : FT → List D
  | .mk name r dflt => [dS name] ++ srD r ++ [dfD dflt]
def sfDs : List FT → List (List D)
  | [] => []
  | f :: l => sfD f :: sfDs l
end
theorem sfDs_eq : ∀ l, sfDs l = l.map sfD
  | [] => by simp [sfDs]
  | x :: l => by simp [sfDs, sfDs_eq l]
abbrev dSFs (l : List FT) : D := .sl 118 (l.map sfD)
theorem saD_three (a : AT) : ∃ p q r, saD a = [p, q, r] := by cases a; simp only [saD]; exact ⟨_, _, _, rfl⟩
theorem srD_six (r : RF) : ∃ p0 p1 p2 p3 p4 p5, srD r = [p0, p1, p2, p3, p4, p5] := by
  obtain ⟨named, name, a, rel⟩ := r
  obtain ⟨p, q, r, h⟩ := saD_three a
  simp only [srD, h]
  cases named <;> exact ⟨_, _, _, _, _, _, rfl⟩
@[simp] theorem bsz_nil : (ByteArray.mk #[]).size = 0 := _root_.id rfl
theorem slD_eight (l : LT) : ∃ p0 p1 p2 p3 p4 p5 p6 p7, slD l = [p0, p1, p2, p3, p4, p5, p6, .sl 9 p7] := by
  obtain ⟨r, rel, keys⟩ := l
  obtain ⟨p0, p1, p2, p3, p4, p5, he⟩ := srD_six r
  simp only [slD, he, List.cons_append, List.nil_append]
  exact ⟨_, _, _, _, _, _, _, _, rfl⟩
theorem smD_nine (m : MT) : ∃ p0 p1 p2 p3 p4 p5 p6 p7 p8, smD m = [.sl 118 p0, .sl 235 p1, p2, p3, p4, p5, p6, p7, p8] := by
  obtain ⟨fs, r, rel⟩ := m
  obtain ⟨p0, p1, p2, p3, p4, p5, he⟩ := srD_six r
  simp only [smD, he, List.cons_append, List.nil_append]
  exact ⟨_, _, _, _, _, _, _, _, _, rfl⟩
abbrev CRef (r : RF) : Prop := ACalls Try.prog 76 [.agg (cls (rfD r))] (fun x => x = .agg (cls (srD r)))
abbrev CAtom (a : AT) : Prop := ACalls Try.prog 100 [.agg (cls (atD a))] (fun x => x = .agg (cls (saD a)))
abbrev CList (l : LT) : Prop := ACalls Try.prog 116 [.agg (cls (ltD l))] (fun x => x = .agg (cls (slD l)))
abbrev CMap (m : MT) : Prop := ACalls Try.prog 63 [.agg (cls (mtD m))] (fun x => x = .agg (cls (smD m)))
abbrev CField (f : FT) : Prop := ACalls Try.prog 97 [.agg (cls (ftD f))] (fun x => x = .agg (cls (sfD f)))
theorem toRef_s (named : Bool) (name : ByteArray) (a : AT) (rel : ByteArray) (h : CAtom a) : CRef (.mk named name a rel) := by
  obtain ⟨sc, ls, ms⟩ := a
  unfold CRef
  unfold CAtom at h
  obtain ⟨p, q, r, e⟩ := saD_three (.mk sc ls ms)
  rw [atD_x] at h
  rw [rfD_x]
  simp only [srD, e] at h ⊢
  simp only [cls_cons, cls_nil] at h
  by_cases hr : rel = ⟨#[]⟩
  · cases named
    all_goals
      simp only [relD, hr, if_true, Bool.false_eq_true, if_false, List.cons_append, List.nil_append, cls_cons, cls_nil]
      try simp only [cls_cons, cls_nil] at *
      refine acalls_ex [] Try.func76 (by kernel_rfl) rfl Try.ntmps76 Try.results76 (Nat.le_of_ble_eq_true (by kernel_rfl)) ?_; intro hok w0 S0
      clear hok
      (repeat' (first
                                                            | (with_reducible refine br_d (fun _ => ?_) (fun _ => ?_))
                                                            | (with_reducible refine br_i (fun _ => ?_) (fun _ => ?_))
                                                            | (with_reducible refine nd_v (h) (by first | rfl | (simp -dsimp; done)) ?_)
                                                            | (with_reducible refine nw_v (h) rfl (by first | rfl | (simp -dsimp; done)) (by first | rfl | (simp -dsimp; done)) ?_)
                                                            | ((with_reducible apply nd_next); (case hx => simp -dsimp; first | done | with_reducible rfl); (case hid => simp -dsimp; first | done | with_reducible rfl | exact ⟨rfl, rfl, rfl⟩ | exact ⟨rfl, rfl⟩); (case' h1 => intro _ _ _); (case' h0 => intro _))
                                                            | ((with_reducible apply nd_entry); (case hx => simp -dsimp; first | done | with_reducible rfl); (case hid => simp -dsimp; first | done | with_reducible rfl | exact ⟨rfl, rfl, rfl⟩ | exact ⟨rfl, rfl⟩))
                                                            | ((with_reducible apply nd_range); (case hx => simp -dsimp; with_reducible rfl); (case hT => simp -dsimp); (case hnd => assumption); (case hz => simp -dsimp))
                                                            | (with_reducible refine dn_i follows_any (by kernel_rfl) ?_)
                                                            | (with_reducible exact done_eq rfl)
                                                            | (simp -dsimp))); (all_goals try with_reducible refine done_eq ?_)
  · cases named
    all_goals
      simp only [relD, hr, if_true, Bool.false_eq_true, if_false, List.cons_append, List.nil_append, cls_cons, cls_nil]
      try simp only [cls_cons, cls_nil] at *
      refine acalls_ex [] Try.func76 (by kernel_rfl) rfl Try.ntmps76 Try.results76 (Nat.le_of_ble_eq_true (by kernel_rfl)) ?_; intro hok w0 S0
      clear hok
      (repeat' (first
                                                            | (with_reducible refine br_d (fun _ => ?_) (fun _ => ?_))
                                                            | (with_reducible refine br_i (fun _ => ?_) (fun _ => ?_))
                                                            | (with_reducible refine nd_v (h) (by first | rfl | (simp -dsimp [hr]; done)) ?_)
                                                            | (with_reducible refine nw_v (h) rfl (by first | rfl | (simp -dsimp [hr]; done)) (by first | rfl | (simp -dsimp [hr]; done)) ?_)
                                                            | ((with_reducible apply nd_next); (case hx => simp -dsimp [hr]; first | done | with_reducible rfl); (case hid => simp -dsimp [hr]; first | done | with_reducible rfl | exact ⟨rfl, rfl, rfl⟩ | exact ⟨rfl, rfl⟩); (case' h1 => intro _ _ _); (case' h0 => intro _))
                                                            | ((with_reducible apply nd_entry); (case hx => simp -dsimp [hr]; first | done | with_reducible rfl); (case hid => simp -dsimp [hr]; first | done | with_reducible rfl | exact ⟨rfl, rfl, rfl⟩ | exact ⟨rfl, rfl⟩))
                                                            | ((with_reducible apply nd_range); (case hx => simp -dsimp [hr]; with_reducible rfl); (case hT => simp -dsimp [hr]); (case hnd => assumption); (case hz => simp -dsimp [hr]))
                                                            | (with_reducible refine dn_i follows_any (by kernel_rfl) ?_)
                                                            | (with_reducible exact done_eq rfl)
                                                            | (simp -dsimp [hr]))); (all_goals try with_reducible refine done_eq ?_)
theorem toAtom_s (sc : ByteArray) (ls : List LT) (ms : List MT) (hl : ∀ l, ls.head? = some l → CList l) (hm : ∀ m, ms.head? = some m → CMap m) (b1 : ls.length ≤ 9223372036854775807) (b2 : ms.length ≤ 9223372036854775807) : CAtom (.mk sc ls ms) := by
  unfold CAtom
  rw [atD_x]
  simp only [saD]
  cases ls with
  | nil => cases ms with
    | nil =>
      by_cases hs : sc = ⟨#[]⟩
      all_goals
        simp only [relD, hs, if_true, if_false, slP, smP, cls_cons, cls_nil]
        try simp only [cls_cons, cls_nil] at *
        refine acalls_ex [] Try.func100 (by kernel_rfl) rfl Try.ntmps100 Try.results100 (Nat.le_of_ble_eq_true (by kernel_rfl)) ?_; intro hok w0 S0
        clear hok
        (repeat' (first
                                                            | (with_reducible refine br_d (fun _ => ?_) (fun _ => ?_))
                                                            | (with_reducible refine br_i (fun _ => ?_) (fun _ => ?_))
                                                            | ((with_reducible apply nd_next); (case hx => simp -dsimp [hs]; first | done | with_reducible rfl); (case hid => simp -dsimp [hs]; first | done | with_reducible rfl | exact ⟨rfl, rfl, rfl⟩ | exact ⟨rfl, rfl⟩); (case' h1 => intro _ _ _); (case' h0 => intro _))
                                                            | ((with_reducible apply nd_entry); (case hx => simp -dsimp [hs]; first | done | with_reducible rfl); (case hid => simp -dsimp [hs]; first | done | with_reducible rfl | exact ⟨rfl, rfl, rfl⟩ | exact ⟨rfl, rfl⟩))
                                                            | ((with_reducible apply nd_range); (case hx => simp -dsimp [hs]; with_reducible rfl); (case hT => simp -dsimp [hs]); (case hnd => assumption); (case hz => simp -dsimp [hs]))
                                                            | (with_reducible refine dn_i follows_any (by kernel_rfl) ?_)
                                                            | (with_reducible exact done_eq rfl)
                                                            | (simp -dsimp [hs]))); (all_goals try with_reducible refine done_eq ?_)
    | cons m ms =>
      have h2 := hm m rfl
      obtain ⟨q0, q1, q2, q3, q4, q5, q6, q7, q8, hq⟩ := smD_nine m
      unfold CMap at h2
      simp only [hq] at h2
      have b2' : ms.length ≤ 9223372036854775806 := by simpa using b2
      have p2 : (0 : Int) < ms.length + 1 := by omega
      by_cases hs : sc = ⟨#[]⟩
      all_goals
        simp only [relD, hs, if_true, if_false, slP, smP, hq, cls_cons, cls_nil] at h2 ⊢
        try simp only [cls_cons, cls_nil] at *
        refine acalls_ex [] Try.func100 (by kernel_rfl) rfl Try.ntmps100 Try.results100 (Nat.le_of_ble_eq_true (by kernel_rfl)) ?_; intro hok w0 S0
        clear hok
        (repeat' (first
                                                            | (with_reducible refine br_d (fun _ => ?_) (fun _ => ?_))
                                                            | (with_reducible refine br_i (fun _ => ?_) (fun _ => ?_))
                                                            | (with_reducible refine nd_v (h2) (by first | rfl | (simp -dsimp [hs, b2', p2]; done)) ?_)
                                                            | (with_reducible refine nw_v (h2) rfl (by first | rfl | (simp -dsimp [hs, b2', p2]; done)) (by first | rfl | (simp -dsimp [hs, b2', p2]; done)) ?_)
                                                            | ((with_reducible apply nd_next); (case hx => simp -dsimp [hs, b2', p2]; first | done | with_reducible rfl); (case hid => simp -dsimp [hs, b2', p2]; first | done | with_reducible rfl | exact ⟨rfl, rfl, rfl⟩ | exact ⟨rfl, rfl⟩); (case' h1 => intro _ _ _); (case' h0 => intro _))
                                                            | ((with_reducible apply nd_entry); (case hx => simp -dsimp [hs, b2', p2]; first | done | with_reducible rfl); (case hid => simp -dsimp [hs, b2', p2]; first | done | with_reducible rfl | exact ⟨rfl, rfl, rfl⟩ | exact ⟨rfl, rfl⟩))
                                                            | ((with_reducible apply nd_range); (case hx => simp -dsimp [hs, b2', p2]; with_reducible rfl); (case hT => simp -dsimp [hs, b2', p2]); (case hnd => assumption); (case hz => simp -dsimp [hs, b2', p2]))
                                                            | (with_reducible refine dn_i follows_any (by kernel_rfl) ?_)
                                                            | (with_reducible exact done_eq rfl)
                                                            | (simp -dsimp [hs, b2', p2]))); (all_goals try with_reducible refine done_eq ?_)
  | cons l ls =>
    have h1 := hl l rfl
    obtain ⟨k0, k1, k2, k3, k4, k5, k6, k7, hk⟩ := slD_eight l
    unfold CList at h1
    simp only [hk] at h1
    have b1' : ls.length ≤ 9223372036854775806 := by simpa using b1
    have p1 : (0 : Int) < ls.length + 1 := by omega
    cases ms with
    | nil =>
      by_cases hs : sc = ⟨#[]⟩
      all_goals
        simp only [relD, hs, if_true, if_false, slP, smP, hk, cls_cons, cls_nil] at h1 ⊢
        try simp only [cls_cons, cls_nil] at *
        refine acalls_ex [] Try.func100 (by kernel_rfl) rfl Try.ntmps100 Try.results100 (Nat.le_of_ble_eq_true (by kernel_rfl)) ?_; intro hok w0 S0
        clear hok
        (repeat' (first
                                                            | (with_reducible refine br_d (fun _ => ?_) (fun _ => ?_))
                                                            | (with_reducible refine br_i (fun _ => ?_) (fun _ => ?_))
                                                            | (with_reducible refine nd_v (h1) (by first | rfl | (simp -dsimp [hs, b1', p1]; done)) ?_)
                                                            | (with_reducible refine nw_v (h1) rfl (by first | rfl | (simp -dsimp [hs, b1', p1]; done)) (by first | rfl | (simp -dsimp [hs, b1', p1]; done)) ?_)
                                                            | ((with_reducible apply nd_next); (case hx => simp -dsimp [hs, b1', p1]; first | done | with_reducible rfl); (case hid => simp -dsimp [hs, b1', p1]; first | done | with_reducible rfl | exact ⟨rfl, rfl, rfl⟩ | exact ⟨rfl, rfl⟩); (case' h1 => intro _ _ _); (case' h0 => intro _))
                                                            | ((with_reducible apply nd_entry); (case hx => simp -dsimp [hs, b1', p1]; first | done | with_reducible rfl); (case hid => simp -dsimp [hs, b1', p1]; first | done | with_reducible rfl | exact ⟨rfl, rfl, rfl⟩ | exact ⟨rfl, rfl⟩))
                                                            | ((with_reducible apply nd_range); (case hx => simp -dsimp [hs, b1', p1]; with_reducible rfl); (case hT => simp -dsimp [hs, b1', p1]); (case hnd => assumption); (case hz => simp -dsimp [hs, b1', p1]))
                                                            | (with_reducible refine dn_i follows_any (by kernel_rfl) ?_)
                                                            | (with_reducible exact done_eq rfl)
                                                            | (simp -dsimp [hs, b1', p1]))); (all_goals try with_reducible refine done_eq ?_)
    | cons m ms =>
      have h2 := hm m rfl
      obtain ⟨q0, q1, q2, q3, q4, q5, q6, q7, q8, hq⟩ := smD_nine m
      unfold CMap at h2
      simp only [hq] at h2
      have b2' : ms.length ≤ 9223372036854775806 := by simpa using b2
      have p2 : (0 : Int) < ms.length + 1 := by omega
      by_cases hs : sc = ⟨#[]⟩
      all_goals
        simp only [relD, hs, if_true, if_false, slP, smP, hk, hq, cls_cons, cls_nil] at h1 h2 ⊢
        try simp only [cls_cons, cls_nil] at *
        refine acalls_ex [] Try.func100 (by kernel_rfl) rfl Try.ntmps100 Try.results100 (Nat.le_of_ble_eq_true (by kernel_rfl)) ?_; intro hok w0 S0
        clear hok
        (repeat' (first
                                                            | (with_reducible refine br_d (fun _ => ?_) (fun _ => ?_))
                                                            | (with_reducible refine br_i (fun _ => ?_) (fun _ => ?_))
                                                            | (with_reducible refine nd_v (h1) (by first | rfl | (simp -dsimp [hs, b1', p1, b2', p2]; done)) ?_)
                                                            | (with_reducible refine nw_v (h1) rfl (by first | rfl | (simp -dsimp [hs, b1', p1, b2', p2]; done)) (by first | rfl | (simp -dsimp [hs, b1', p1, b2', p2]; done)) ?_)
                                                            | (with_reducible refine nd_v (h2) (by first | rfl | (simp -dsimp [hs, b1', p1, b2', p2]; done)) ?_)
                                                            | (with_reducible refine nw_v (h2) rfl (by first | rfl | (simp -dsimp [hs, b1', p1, b2', p2]; done)) (by first | rfl | (simp -dsimp [hs, b1', p1, b2', p2]; done)) ?_)
                                                            | ((with_reducible apply nd_next); (case hx => simp -dsimp [hs, b1', p1, b2', p2]; first | done | with_reducible rfl); (case hid => simp -dsimp [hs, b1', p1, b2', p2]; first | done | with_reducible rfl | exact ⟨rfl, rfl, rfl⟩ | exact ⟨rfl, rfl⟩); (case' h1 => intro _ _ _); (case' h0 => intro _))
                                                            | ((with_reducible apply nd_entry); (case hx => simp -dsimp [hs, b1', p1, b2', p2]; first | done | with_reducible rfl); (case hid => simp -dsimp [hs, b1', p1, b2', p2]; first | done | with_reducible rfl | exact ⟨rfl, rfl, rfl⟩ | exact ⟨rfl, rfl⟩))
                                                            | ((with_reducible apply nd_range); (case hx => simp -dsimp [hs, b1', p1, b2', p2]; with_reducible rfl); (case hT => simp -dsimp [hs, b1', p1, b2', p2]); (case hnd => assumption); (case hz => simp -dsimp [hs, b1', p1, b2', p2]))
                                                            | (with_reducible refine dn_i follows_any (by kernel_rfl) ?_)
                                                            | (with_reducible exact done_eq rfl)
                                                            | (simp -dsimp [hs, b1', p1, b2', p2]))); (all_goals try with_reducible refine done_eq ?_)
theorem toList_s (e : RF) (rel : ByteArray) (keys : List ByteArray) (h : CRef e) (hk : keys.length * 16 ≤ 140737488351232) : CList (.mk e rel keys) := by
  obtain ⟨p0, p1, p2, p3, p4, p5, he⟩ := srD_six e
  obtain ⟨named, name, ⟨sc, ls, ms⟩, rel'⟩ := e
  unfold CList
  unfold CRef at h
  rw [ltD_x]
  rw [rfD_x] at h
  simp only [slD, he, List.cons_append, List.nil_append] at h ⊢
  try simp only [cls_cons, cls_nil] at *
  refine acalls_ex [(1, ([], [(0, []), (1, []), (3, []), (4, []), (5, []), (6, []), (2, []), (7, []), (8, []), (9, [])]))] Try.func116 (by kernel_rfl) rfl Try.ntmps116 Try.results116 (Nat.le_of_ble_eq_true (by kernel_rfl)) ?_; intro hok w0 S0
  clear hok
  (repeat' (first
                                                            | (with_reducible refine br_d (fun _ => ?_) (fun _ => ?_))
                                                            | (with_reducible refine br_i (fun _ => ?_) (fun _ => ?_))
                                                            | (with_reducible refine nd_v (h) (by first | rfl | (simp -dsimp [hk]; done)) ?_)
                                                            | (with_reducible refine nw_v (h) rfl (by first | rfl | (simp -dsimp [hk]; done)) (by first | rfl | (simp -dsimp [hk]; done)) ?_)
                                                            | ((with_reducible apply nd_next); (case hx => simp -dsimp [hk]; first | done | with_reducible rfl); (case hid => simp -dsimp [hk]; first | done | with_reducible rfl | exact ⟨rfl, rfl, rfl⟩ | exact ⟨rfl, rfl⟩); (case' h1 => intro _ _ _); (case' h0 => intro _))
                                                            | ((with_reducible apply nd_entry); (case hx => simp -dsimp [hk]; first | done | with_reducible rfl); (case hid => simp -dsimp [hk]; first | done | with_reducible rfl | exact ⟨rfl, rfl, rfl⟩ | exact ⟨rfl, rfl⟩))
                                                            | ((with_reducible apply nd_range); (case hx => simp -dsimp [hk]; with_reducible rfl); (case hT => simp -dsimp [hk]); (case hnd => assumption); (case hz => simp -dsimp [hk]))
                                                            | (with_reducible refine dn_i follows_any (by kernel_rfl) ?_)
                                                            | (with_reducible exact done_eq rfl)
                                                            | (simp -dsimp [hk]))); (all_goals try with_reducible refine done_eq ?_)
theorem toField_s (nm : ByteArray) (r : RF) (dflt : List GV) (h : CRef r) (b1 : dflt.length ≤ 9223372036854775807) : CField (.mk nm r dflt) := by
  obtain ⟨p0, p1, p2, p3, p4, p5, he⟩ := srD_six r
  obtain ⟨named, name, ⟨sc, ls, ms⟩, rel'⟩ := r
  unfold CField
  unfold CRef at h
  rw [ftD_x]
  rw [rfD_x] at h
  simp only [sfD, he, List.cons_append, List.nil_append] at h ⊢
  cases dflt with
  | nil =>
    simp only [dfD]
    try simp only [cls_cons, cls_nil] at *
    refine acalls_ex [(1, ([], [(0, []), (1, []), (2, []), (3, []), (4, [6]), (5, []), (6, []), (7, [])]))] Try.func97 (by kernel_rfl) rfl Try.ntmps97 Try.results97 (Nat.le_of_ble_eq_true (by kernel_rfl)) ?_; intro hok w0 S0
    clear hok
    (repeat' (first
                                                            | (with_reducible refine br_d (fun _ => ?_) (fun _ => ?_))
                                                            | (with_reducible refine br_i (fun _ => ?_) (fun _ => ?_))
                                                            | (with_reducible refine nd_v (h) (by first | rfl | (simp -dsimp; done)) ?_)
                                                            | (with_reducible refine nw_v (h) rfl (by first | rfl | (simp -dsimp; done)) (by first | rfl | (simp -dsimp; done)) ?_)
                                                            | ((with_reducible apply nd_next); (case hx => simp -dsimp; first | done | with_reducible rfl); (case hid => simp -dsimp; first | done | with_reducible rfl | exact ⟨rfl, rfl, rfl⟩ | exact ⟨rfl, rfl⟩); (case' h1 => intro _ _ _); (case' h0 => intro _))
                                                            | ((with_reducible apply nd_entry); (case hx => simp -dsimp; first | done | with_reducible rfl); (case hid => simp -dsimp; first | done | with_reducible rfl | exact ⟨rfl, rfl, rfl⟩ | exact ⟨rfl, rfl⟩))
                                                            | ((with_reducible apply nd_range); (case hx => simp -dsimp; with_reducible rfl); (case hT => simp -dsimp); (case hnd => assumption); (case hz => simp -dsimp))
                                                            | (with_reducible refine dn_i follows_any (by kernel_rfl) ?_)
                                                            | (with_reducible exact done_eq rfl)
                                                            | (simp -dsimp))); (all_goals try with_reducible refine done_eq ?_)
  | cons d dflt =>
    have b1' : dflt.length ≤ 9223372036854775806 := by simpa using b1
    have p1 : (0 : Int) < dflt.length + 1 := by omega
    have hp := plain_a d
    simp only [dfD]
    try simp only [cls_cons, cls_nil] at *
    refine acalls_ex [(1, ([], [(0, []), (1, []), (2, []), (3, []), (4, [6]), (5, []), (6, []), (7, [])]))] Try.func97 (by kernel_rfl) rfl Try.ntmps97 Try.results97 (Nat.le_of_ble_eq_true (by kernel_rfl)) ?_; intro hok w0 S0
    clear hok
    (repeat' (first
                                                            | (with_reducible refine br_d (fun _ => ?_) (fun _ => ?_))
                                                            | (with_reducible refine br_i (fun _ => ?_) (fun _ => ?_))
                                                            | (with_reducible refine nd_v (h) (by first | rfl | (simp -dsimp [b1', p1]; done)) ?_)
                                                            | (with_reducible refine nw_v (h) rfl (by first | rfl | (simp -dsimp [b1', p1]; done)) (by first | rfl | (simp -dsimp [b1', p1]; done)) ?_)
                                                            | (with_reducible refine nd_v (hp) (by first | rfl | (simp -dsimp [b1', p1]; done)) ?_)
                                                            | (with_reducible refine nw_v (hp) rfl (by first | rfl | (simp -dsimp [b1', p1]; done)) (by first | rfl | (simp -dsimp [b1', p1]; done)) ?_)
                                                            | ((with_reducible apply nd_next); (case hx => simp -dsimp [b1', p1]; first | done | with_reducible rfl); (case hid => simp -dsimp [b1', p1]; first | done | with_reducible rfl | exact ⟨rfl, rfl, rfl⟩ | exact ⟨rfl, rfl⟩); (case' h1 => intro _ _ _); (case' h0 => intro _))
                                                            | ((with_reducible apply nd_entry); (case hx => simp -dsimp [b1', p1]; first | done | with_reducible rfl); (case hid => simp -dsimp [b1', p1]; first | done | with_reducible rfl | exact ⟨rfl, rfl, rfl⟩ | exact ⟨rfl, rfl⟩))
                                                            | ((with_reducible apply nd_range); (case hx => simp -dsimp [b1', p1]; with_reducible rfl); (case hT => simp -dsimp [b1', p1]); (case hnd => assumption); (case hz => simp -dsimp [b1', p1]))
                                                            | (with_reducible refine dn_i follows_any (by kernel_rfl) ?_)
                                                            | (with_reducible exact done_eq rfl)
                                                            | (simp -dsimp [b1', p1]))); (all_goals try with_reducible refine done_eq ?_)
theorem sfD_eight (f : FT) : ∃ p0 p1 p2 p3 p4 p5 p6 p7, sfD f = [p0, p1, p2, p3, p4, p5, p6, p7] := by
  obtain ⟨nm, r, dflt⟩ := f
  obtain ⟨p0, p1, p2, p3, p4, p5, he⟩ := srD_six r
  simp only [sfD, he, List.cons_append, List.nil_append]
  exact ⟨_, _, _, _, _, _, _, _, rfl⟩
@[simp] theorem sfD_length (f : FT) : (sfD f).length = 8 := by obtain ⟨p0, p1, p2, p3, p4, p5, p6, p7, h⟩ := sfD_eight f; rw [h]; rfl
@[simp] theorem sfD_take (f : FT) : (sfD f).take 8 = sfD f := List.take_of_length_le (by simp)
@[simp] theorem clsSf_take (f : FT) : (cls (sfD f)).take 8 = cls (sfD f) := List.take_of_length_le (by simp)
@[simp] theorem coL_sf (f : FT) : coL [none, none, none, none, none, none, none, none] (cls (sfD f)) = cls (sfD f) := by obtain ⟨p0, p1, p2, p3, p4, p5, p6, p7, h⟩ := sfD_eight f; rw [h]; rfl
@[simp] theorem toDs_sf (f : FT) : toDs (cls (sfD f)) = some (sfD f) := by obtain ⟨p0, p1, p2, p3, p4, p5, p6, p7, h⟩ := sfD_eight f; rw [h]; rfl
theorem toMap_s (fs : List FT) (e : RF) (rel : ByteArray) (h : CRef e) (hf : ∀ f ∈ fs, CField f) (hl : fs.length * 144 ≤ 140737488351232) : CMap (.mk fs e rel) := by
  obtain ⟨p0, p1, p2, p3, p4, p5, he⟩ := srD_six e
  obtain ⟨named, name, ⟨sc, ls, ms⟩, rel'⟩ := e
  unfold CMap
  unfold CRef at h
  rw [mtD_x]
  rw [rfD_x] at h
  simp only [smD, he, sfDs_eq, List.cons_append, List.nil_append] at h ⊢
  try simp only [cls_cons, cls_nil] at *
  refine acalls_ex [(1, ([], [(0, []), (1, []), (3, []), (4, []), (2, [6]), (5, []), (6, []), (7, [])])), (5, ([], [(0, []), (1, []), (2, []), (3, []), (4, []), (5, []), (6, []), (7, [])]))] Try.func63 (by kernel_rfl) rfl Try.ntmps63 Try.results63 (Nat.le_of_ble_eq_true (by kernel_rfl)) ?_; intro hok w0 S0
  clear hok
  have b1 : fs.length ≤ 9223372036854775807 := by omega
  have w1 := w1
  (repeat' (first
                                                            | (with_reducible refine br_d (fun _ => ?_) (fun _ => ?_))
                                                            | (with_reducible refine br_i (fun _ => ?_) (fun _ => ?_))
                                                            | (with_reducible refine nd_v (h) (by first | rfl | (simp -dsimp [b1]; done)) ?_)
                                                            | (with_reducible refine nw_v (h) rfl (by first | rfl | (simp -dsimp [b1]; done)) (by first | rfl | (simp -dsimp [b1]; done)) ?_)
                                                            | ((with_reducible apply nd_next); (case hx => simp -dsimp [b1]; first | done | with_reducible rfl); (case hid => simp -dsimp [b1]; first | done | with_reducible rfl | exact ⟨rfl, rfl, rfl⟩ | exact ⟨rfl, rfl⟩); (case' h1 => intro _ _ _); (case' h0 => intro _))
                                                            | ((with_reducible apply nd_entry); (case hx => simp -dsimp [b1]; first | done | with_reducible rfl); (case hid => simp -dsimp [b1]; first | done | with_reducible rfl | exact ⟨rfl, rfl, rfl⟩ | exact ⟨rfl, rfl⟩))
                                                            | ((with_reducible apply nd_range); (case hx => simp -dsimp [b1]; with_reducible rfl); (case hT => simp -dsimp [b1]); (case hnd => assumption); (case hz => simp -dsimp [b1]))
                                                            | (with_reducible refine dn_i follows_any (by kernel_rfl) ?_)
                                                            | (with_reducible exact done_eq rfl)
                                                            | (simp -dsimp [b1]))); (all_goals try with_reducible refine done_eq ?_)
  refine ex_loop (fun i : Nat => match i with
      | 0 => ⟨[(2, .c (.own 2 0)), (3, .c (.own 3 0)), (13, .c (.d (dFTs fs))), (14, aI fs.length), (15, aI 0)], [(2, .cells [.d (.v (.slice none 0 0)), .d (.v (.slice none 0 0)), .d (.v (.pointer none)), .d (.v (.pointer none)), .d (.v (.pointer none)), .d (.v (.pointer none)), .d (.v (.pointer none)), .d (dB false), .d (dS ⟨#[]⟩)] 115), (3, .cells [.d (.v (.slice none 0 0)), .d (.v (.slice none 0 0)), .d p0, .d p1, .d p2, .d p3, .d p4, .d p5, .d (dS rel)] 115)]⟩
      | i + 1 => ⟨[(2, .c (.own 2 0)), (3, .c (.own 3 0)), (13, .c (.d (dFTs fs))), (14, aI fs.length), (15, aI ((i + 1 : Nat) : Int))], [(24, .arr (i + 1) 118 ((fs.map sfD).take (i + 1))), (2, .cells [.d (.v (.slice none 0 0)), .d (.v (.slice none 0 0)), .d (.v (.pointer none)), .d (.v (.pointer none)), .d (.v (.pointer none)), .d (.v (.pointer none)), .d (.v (.pointer none)), .d (dB false), .d (dS ⟨#[]⟩)] 115), (3, .cells [.gs 24 (i + 1), .d (.v (.slice none 0 0)), .d p0, .d p1, .d p2, .d p3, .d p4, .d p5, .d (dS rel)] 115)]⟩)
      (fun i => i ≤ fs.length) (fun i => fs.length - i) 0 ?_ (Nat.zero_le _) ?_
  · exact Weak.same (by simp -dsimp) (by simp -dsimp) (by first | rfl | (simp [closedSt, Av.ids, Ow.ids, Cl.ids, Go.Smd.keys]; done))
  · rintro i hi K hK
    have kT : ∀ (j : Nat) (h : j < fs.length), (fs.map sfD).take (j + 1) = (fs.map sfD).take j ++ [sfD fs[j]] := fun j h => by
      rw [List.take_succ_eq_append_getElem (by simpa using h)]; simp
    cases i with
    | zero =>
      dsimp only
      by_cases hlt : 0 < fs.length
      · have h0 := hf _ (List.getElem_mem hlt)
        (repeat' (first
                                                            | (with_reducible refine br_d (fun _ => ?_) (fun _ => ?_))
                                                            | (with_reducible refine br_i (fun _ => ?_) (fun _ => ?_))
                                                            | (with_reducible refine nd_v (h0) (by first | rfl | (simp -dsimp [hlt, toDs]; done)) ?_)
                                                            | (with_reducible refine nw_v (h0) rfl (by first | rfl | (simp -dsimp [hlt, toDs]; done)) (by first | rfl | (simp -dsimp [hlt, toDs]; done)) ?_)
                                                            | ((with_reducible apply nd_next); (case hx => simp -dsimp [hlt, toDs]; first | done | with_reducible rfl); (case hid => simp -dsimp [hlt, toDs]; first | done | with_reducible rfl | exact ⟨rfl, rfl, rfl⟩ | exact ⟨rfl, rfl⟩); (case' h1 => intro _ _ _); (case' h0 => intro _))
                                                            | ((with_reducible apply nd_entry); (case hx => simp -dsimp [hlt, toDs]; first | done | with_reducible rfl); (case hid => simp -dsimp [hlt, toDs]; first | done | with_reducible rfl | exact ⟨rfl, rfl, rfl⟩ | exact ⟨rfl, rfl⟩))
                                                            | ((with_reducible apply nd_range); (case hx => simp -dsimp [hlt, toDs]; with_reducible rfl); (case hT => simp -dsimp [hlt, toDs]); (case hnd => assumption); (case hz => simp -dsimp [hlt, toDs]))
                                                            | (with_reducible refine dn_i follows_any (by kernel_rfl) ?_)
                                                            | (with_reducible exact done_eq rfl)
                                                            | (simp -dsimp [hlt, toDs]))); (all_goals try with_reducible refine done_eq ?_)
        refine hK _ 1 ?_ (by omega) (by omega)
        dsimp only
        rw [kT 0 hlt]
        exact Weak.same (by simp -dsimp [w1]) (by simp -dsimp [w1]) (by first | rfl | (simp [closedSt, Av.ids, Ow.ids, Cl.ids, Go.Smd.keys]; done))
      · have e : fs = [] := List.eq_nil_of_length_eq_zero (by omega)
        subst e
        (repeat' (first
                                                            | (with_reducible refine br_d (fun _ => ?_) (fun _ => ?_))
                                                            | (with_reducible refine br_i (fun _ => ?_) (fun _ => ?_))
                                                            | ((with_reducible apply nd_next); (case hx => simp -dsimp; first | done | with_reducible rfl); (case hid => simp -dsimp; first | done | with_reducible rfl | exact ⟨rfl, rfl, rfl⟩ | exact ⟨rfl, rfl⟩); (case' h1 => intro _ _ _); (case' h0 => intro _))
                                                            | ((with_reducible apply nd_entry); (case hx => simp -dsimp; first | done | with_reducible rfl); (case hid => simp -dsimp; first | done | with_reducible rfl | exact ⟨rfl, rfl, rfl⟩ | exact ⟨rfl, rfl⟩))
                                                            | ((with_reducible apply nd_range); (case hx => simp -dsimp; with_reducible rfl); (case hT => simp -dsimp); (case hnd => assumption); (case hz => simp -dsimp))
                                                            | (with_reducible refine dn_i follows_any (by kernel_rfl) ?_)
                                                            | (with_reducible exact done_eq rfl)
                                                            | (simp -dsimp))); (all_goals try with_reducible refine done_eq ?_)
    | succ i =>
      dsimp only
      have hrl : ((fs.map sfD).take (i + 1)).length = i + 1 := by simp; omega
      obtain ⟨R, hR⟩ : ∃ R, R = (fs.map sfD).take (i + 1) := ⟨_, rfl⟩
      rw [← hR] at hrl ⊢
      by_cases hlt : i + 1 < fs.length
      · have h0 := hf _ (List.getElem_mem hlt)
        have hw : IntKind.wrap .i64 (((i + 1 : Nat) : Int) + 1) = ((i + 1 + 1 : Nat) : Int) := by rw [wrap_i64] <;> omega
        have hw2 : IntKind.wrap .i64 ((i : Int) + 1 + 1) = ((i + 1 + 1 : Nat) : Int) := by rw [wrap_i64] <;> omega
        have hb : (i + 1 + 1) * 80 ≤ 140737488351232 := by omega
        have h1 : (i : Int) + 1 < fs.length := by omega
        have h2 : (0 : Int) ≤ (i : Int) + 1 := by omega
        have h3 : ((i : Int) + 1).toNat = i + 1 := by omega
        (repeat' (first
                                                            | (with_reducible refine br_d (fun _ => ?_) (fun _ => ?_))
                                                            | (with_reducible refine br_i (fun _ => ?_) (fun _ => ?_))
                                                            | (with_reducible refine nd_v (h0) (by first | rfl | (simp -dsimp [hlt, hrl, hw, hw2, hb, h1, h2, h3, toDs]; done)) ?_)
                                                            | (with_reducible refine nw_v (h0) rfl (by first | rfl | (simp -dsimp [hlt, hrl, hw, hw2, hb, h1, h2, h3, toDs]; done)) (by first | rfl | (simp -dsimp [hlt, hrl, hw, hw2, hb, h1, h2, h3, toDs]; done)) ?_)
                                                            | ((with_reducible apply nd_next); (case hx => simp -dsimp [hlt, hrl, hw, hw2, hb, h1, h2, h3, toDs]; first | done | with_reducible rfl); (case hid => simp -dsimp [hlt, hrl, hw, hw2, hb, h1, h2, h3, toDs]; first | done | with_reducible rfl | exact ⟨rfl, rfl, rfl⟩ | exact ⟨rfl, rfl⟩); (case' h1 => intro _ _ _); (case' h0 => intro _))
                                                            | ((with_reducible apply nd_entry); (case hx => simp -dsimp [hlt, hrl, hw, hw2, hb, h1, h2, h3, toDs]; first | done | with_reducible rfl); (case hid => simp -dsimp [hlt, hrl, hw, hw2, hb, h1, h2, h3, toDs]; first | done | with_reducible rfl | exact ⟨rfl, rfl, rfl⟩ | exact ⟨rfl, rfl⟩))
                                                            | ((with_reducible apply nd_range); (case hx => simp -dsimp [hlt, hrl, hw, hw2, hb, h1, h2, h3, toDs]; with_reducible rfl); (case hT => simp -dsimp [hlt, hrl, hw, hw2, hb, h1, h2, h3, toDs]); (case hnd => assumption); (case hz => simp -dsimp [hlt, hrl, hw, hw2, hb, h1, h2, h3, toDs]))
                                                            | (with_reducible refine dn_i follows_any (by kernel_rfl) ?_)
                                                            | (with_reducible exact done_eq rfl)
                                                            | (simp -dsimp [hlt, hrl, hw, hw2, hb, h1, h2, h3, toDs]))); (all_goals try with_reducible refine done_eq ?_)
        refine hK _ (i + 1 + 1) ?_ (by omega) (by omega)
        dsimp only
        rw [kT (i + 1) hlt, ← hR]
        exact Weak.same (by simp -dsimp) (by simp -dsimp) (by first | rfl | (simp [closedSt, Av.ids, Ow.ids, Cl.ids, Go.Smd.keys]; done))
      · have h1 : ¬ (i : Int) + 1 < fs.length := by omega
        have e : R = fs.map sfD := by rw [hR, List.take_of_length_le (by simp; omega)]
        (repeat' (first
                                                            | (with_reducible refine br_d (fun _ => ?_) (fun _ => ?_))
                                                            | (with_reducible refine br_i (fun _ => ?_) (fun _ => ?_))
                                                            | ((with_reducible apply nd_next); (case hx => simp -dsimp [h1]; first | done | with_reducible rfl); (case hid => simp -dsimp [h1]; first | done | with_reducible rfl | exact ⟨rfl, rfl, rfl⟩ | exact ⟨rfl, rfl⟩); (case' h1 => intro _ _ _); (case' h0 => intro _))
                                                            | ((with_reducible apply nd_entry); (case hx => simp -dsimp [h1]; first | done | with_reducible rfl); (case hid => simp -dsimp [h1]; first | done | with_reducible rfl | exact ⟨rfl, rfl, rfl⟩ | exact ⟨rfl, rfl⟩))
                                                            | ((with_reducible apply nd_range); (case hx => simp -dsimp [h1]; with_reducible rfl); (case hT => simp -dsimp [h1]); (case hnd => assumption); (case hz => simp -dsimp [h1]))
                                                            | (with_reducible refine dn_i follows_any (by kernel_rfl) ?_)
                                                            | (with_reducible exact done_eq rfl)
                                                            | (simp -dsimp [h1]))); (all_goals try with_reducible refine done_eq ?_)
        rw [e]
end Go.Smd
end
section
set_option linter.unusedSimpArgs false
set_option maxRecDepth 100000
set_option maxHeartbeats 8000000
namespace Go.Smd
open Go.RowKit Go.Proofs
abbrev gvX (k n : Int) (f : Nat) (s : ByteArray) (ks : List ByteArray) (l : List GV) : Av := .agg [.d (dI k), .d (dI n), .d (dF f), .d (dS s), .d (dStrs ks), .d (dGVs l)]
theorem gvA_x (k n : Int) (f : Nat) (s : ByteArray) (ks : List ByteArray) (l : List GV) : gvA (.mk k n f s ks l) = gvX k n f s ks l := by simp only [gvA, gvD_mk, cls_cons, cls_nil]
end Go.Smd
end
section
set_option linter.unusedSimpArgs false
set_option maxRecDepth 100000
set_option maxHeartbeats 8000000
namespace Go.Smd
open Go.RowKit Go.Proofs
structure EV where
  k : Int
  s : ByteArray
  keys : List ByteArray
  l : List GV
  v : GV
  n : Int
structure EVk (e : EV) : Prop where
  hk : -9223372036854775808 ≤ e.k ∧ e.k ≤ 9223372036854775807
  hkeys : e.keys.length * 16 ≤ 140737488351232
  hl : e.l.length * 88 ≤ 140737488351232
  hitem : ∀ x ∈ e.l, okA Try.prog (gvA x)
  hv : okA Try.prog (gvA e.v)
abbrev Fds := List (ByteArray × Tree)
def ptnA (op : BinOp) (q : Option (Option TypeId)) : Option Av :=
  match op, q with
  | .eql, some (some _) => some (.c (.d (.v (.bool false))))
  | .neq, some (some _) => some (.c (.d (.v (.bool true))))
  | _, _ => none
@[simp ↓] theorem binA_ptn {P : Program} {op : BinOp} {T : TypeId} {ox oy : Operand} {xs : List D} : binA P op T ox oy (.c (.d (.pt xs))) (.c (.d (.v (.pointer none)))) = ptnA op (P.ptrT T) := by
  simp only [binA, ptnA, Go.Program.ptrT]
  cases h : P.underlying T with
  | none => cases op <;> rfl
  | some d => cases d <;> cases op <;> rfl
def _root_.Go.Program.isPtrT (P : Program) (T : TypeId) : Bool := match P.ptrT T with | some (some _) => true | _ => false
theorem equal_nil {P : Program} {T : TypeId} (h : P.isPtrT T = true) : evalPure P (Op.equal T (.pointer none) (.pointer none)) = some true := by
  obtain ⟨E, hu⟩ : ∃ E, P.underlying T = some (.pointer E) := by
    unfold Go.Program.isPtrT Go.Program.ptrT at h
    cases hu : P.underlying T with
    | none => rw [hu] at h; cases h
    | some d => rw [hu] at h; cases d <;> first | exact ⟨_, rfl⟩ | cases h
  show evalPure P (Op.equalIn (9999 + 1) T (.pointer none) (.pointer none)) = _
  unfold Op.equalIn
  simp [underlying, program, bind, Sem.bind, evalPure, hu, pure]
theorem evalPure_b {P : Program} {g : Bool → Value} : ∀ {m : Sem Bool} {x : Bool}, evalPure P m = some x → evalPure P (m.bind fun a => Sem.pure (g a)) = some (g x) := by
  intro m
  induction m with
  | pure a => intro x h; simp [evalPure] at h; subst h; rfl
  | program k ih => intro x h; exact ih P h
  | mark m k ih => intro x h; exact ih h
  | _ => intro x h; simp [evalPure] at h
@[simp ↓] theorem binA_pne {P : Program} {T : TypeId} {ox oy : Operand} (h : P.isPtrT T = true) : binA P .eql T ox oy (.c (.d (.v (.pointer none)))) (.c (.d (.v (.pointer none)))) = some (.c (.d (.v (.bool true)))) := by
  have := equal_nil h
  simp [binA, valPure, eqGuard, binOp, pure, Sem.bind, bind, evalPure, okVb]
  rw [evalPure_b (g := fun b => .bool b) this]
  rfl
@[simp ↓] theorem binA_pnn {P : Program} {T : TypeId} {ox oy : Operand} (h : P.isPtrT T = true) : binA P .neq T ox oy (.c (.d (.v (.pointer none)))) (.c (.d (.v (.pointer none)))) = some (.c (.d (.v (.bool false)))) := by
  have := equal_nil h
  simp [binA, valPure, eqGuard, binOp, pure, Sem.bind, bind, evalPure, okVb]
  rw [evalPure_b (g := fun b => .bool (!b)) this]
  rfl
attribute [simp] Go.Program.isPtrT
attribute [simp] ptnA
inductive LE where
  | name (s : ByteArray)
  | key (l : Fds)
  | val (t : Tree)
  | idx (n : Int)
@[simp] theorem isStr_s : Try.prog.isStr 9 = true := by kernel_rfl
theorem orderlyValues_a (l : List GV) (hl : l.length * 88 ≤ 140737488351232) : ACalls Try.prog 62 [.c (.d (dGVs l))] (fun r => ∃ b, r = aV (.bool b)) := by
  refine acalls_ex [] Try.func62 (by kernel_rfl) rfl Try.ntmps62 Try.results62 (Nat.le_of_ble_eq_true (by kernel_rfl)) ?_; intro hok w0 S0
  clear hok
  have b1 : l.length ≤ 9223372036854775807 := by omega
  (repeat' (first
                                                            | (with_reducible refine br_d (fun _ => ?_) (fun _ => ?_))
                                                            | (with_reducible refine br_i (fun _ => ?_) (fun _ => ?_))
                                                            | ((with_reducible apply nd_next); (case hx => simp -dsimp [b1]; first | done | with_reducible rfl); (case hid => simp -dsimp [b1]; first | done | with_reducible rfl | exact ⟨rfl, rfl, rfl⟩ | exact ⟨rfl, rfl⟩); (case' h1 => intro _ _ _); (case' h0 => intro _))
                                                            | ((with_reducible apply nd_entry); (case hx => simp -dsimp [b1]; first | done | with_reducible rfl); (case hid => simp -dsimp [b1]; first | done | with_reducible rfl | exact ⟨rfl, rfl, rfl⟩ | exact ⟨rfl, rfl⟩))
                                                            | ((with_reducible apply nd_range); (case hx => simp -dsimp [b1]; with_reducible rfl); (case hT => simp -dsimp [b1]); (case hnd => assumption); (case hz => simp -dsimp [b1]))
                                                            | (with_reducible refine dn_i follows_any (by kernel_rfl) ?_)
                                                            | (with_reducible exact done_eq rfl)
                                                            | (simp -dsimp [b1]))); (all_goals try with_reducible refine done_eq ?_)
  refine ex_loop (fun i : Nat => ⟨[(5, .c (.d (dGVs l))), (6, aI l.length), (7, aI i)], []⟩) (fun i => i ≤ l.length) (fun i => l.length - i) 0 ?_ (Nat.zero_le _) ?_
  · exact Weak.same (by simp -dsimp) (by simp -dsimp) (by first | rfl | (simp [closedSt, Av.ids, Ow.ids, Cl.ids, Go.Smd.keys]; done))
  · rintro i hi K hK
    by_cases hlt : i < l.length
    · have hw : IntKind.wrap .i64 ((i : Int) + 1) = ((i + 1 : Nat) : Int) := by rw [wrap_i64] <;> omega
      (repeat' (first
                                                            | (with_reducible refine br_d (fun _ => ?_) (fun _ => ?_))
                                                            | (with_reducible refine br_i (fun _ => ?_) (fun _ => ?_))
                                                            | (with_reducible refine nd_v (orderly_a _) (by first | rfl | (simp -dsimp [b1, hlt, hw]; done)) ?_)
                                                            | (with_reducible refine nw_v (orderly_a _) rfl (by first | rfl | (simp -dsimp [b1, hlt, hw]; done)) (by first | rfl | (simp -dsimp [b1, hlt, hw]; done)) ?_)
                                                            | ((with_reducible apply nd_next); (case hx => simp -dsimp [b1, hlt, hw]; first | done | with_reducible rfl); (case hid => simp -dsimp [b1, hlt, hw]; first | done | with_reducible rfl | exact ⟨rfl, rfl, rfl⟩ | exact ⟨rfl, rfl⟩); (case' h1 => intro _ _ _); (case' h0 => intro _))
                                                            | ((with_reducible apply nd_entry); (case hx => simp -dsimp [b1, hlt, hw]; first | done | with_reducible rfl); (case hid => simp -dsimp [b1, hlt, hw]; first | done | with_reducible rfl | exact ⟨rfl, rfl, rfl⟩ | exact ⟨rfl, rfl⟩))
                                                            | ((with_reducible apply nd_range); (case hx => simp -dsimp [b1, hlt, hw]; with_reducible rfl); (case hT => simp -dsimp [b1, hlt, hw]); (case hnd => assumption); (case hz => simp -dsimp [b1, hlt, hw]))
                                                            | (with_reducible refine dn_i follows_any (by kernel_rfl) ?_)
                                                            | (with_reducible exact done_eq rfl)
                                                            | (simp -dsimp [b1, hlt, hw]))); (all_goals try with_reducible refine done_eq ?_)
      · exact ⟨_, rfl⟩
      · refine hK _ (i + 1) ?_ (by omega) (by omega)
        exact Weak.same (by simp -dsimp) (by simp -dsimp) (by first | rfl | (simp [closedSt, Av.ids, Ow.ids, Cl.ids, Go.Smd.keys]; done))
    · (repeat' (first
                                                            | (with_reducible refine br_d (fun _ => ?_) (fun _ => ?_))
                                                            | (with_reducible refine br_i (fun _ => ?_) (fun _ => ?_))
                                                            | ((with_reducible apply nd_next); (case hx => simp -dsimp [hlt]; first | done | with_reducible rfl); (case hid => simp -dsimp [hlt]; first | done | with_reducible rfl | exact ⟨rfl, rfl, rfl⟩ | exact ⟨rfl, rfl⟩); (case' h1 => intro _ _ _); (case' h0 => intro _))
                                                            | ((with_reducible apply nd_entry); (case hx => simp -dsimp [hlt]; first | done | with_reducible rfl); (case hid => simp -dsimp [hlt]; first | done | with_reducible rfl | exact ⟨rfl, rfl, rfl⟩ | exact ⟨rfl, rfl⟩))
                                                            | ((with_reducible apply nd_range); (case hx => simp -dsimp [hlt]; with_reducible rfl); (case hT => simp -dsimp [hlt]); (case hnd => assumption); (case hz => simp -dsimp [hlt]))
                                                            | (with_reducible refine dn_i follows_any (by kernel_rfl) ?_)
                                                            | (with_reducible exact done_eq rfl)
                                                            | (simp -dsimp [hlt]))); (all_goals try with_reducible refine done_eq ?_)
      exact ⟨_, rfl⟩
structure FitsE (e : EV) : Prop where
  items : ∀ x ∈ e.l, Fits (treeOf x)
  val : Fits (treeOf e.v)
end Go.Smd
end
section
set_option linter.unusedSimpArgs false
namespace Go.Smd
open Go.RowKit
section
variable {P : Program} {N : Nat} {w0 : World} {S0 : Env} {ops : Array Oper}
theorem eff_v {full base : List (Nat × Av)} {own : List (Nat × Ow)} {o : Oper} {d : Tmp} (hd : o.dst = some d) (hdk : dstOk N o = true) (hv : vval P ⟨full ++ base, own⟩ o = some (valT full base d)) : Eff P N full base o own own := fun σ e0 e1 e2 K hK => by
  refine ⟨hdk, ?_⟩
  have : vval P σ o = some (valT full base d) := by rw [← hv]; exact vval_congr e1 e0
  rw [this]
  refine hK _ (by rw [put_h]; exact e0) fun t => ?_
  rw [put_tmp, hd]
  by_cases e : some d = some t
  · rw [if_pos e, if_pos e]; cases e; rfl
  · rw [if_neg e, if_neg e]
theorem eff_c {full base : List (Nat × Av)} {own : List (Nat × Ow)} {o : Oper} {f : FuncId} {args : List Av} {r : Av} {d : Tmp} (hR : ACalls P f args fun x => x = r) (hp : plainCall o.op = true) (hd : o.dst = some d) (hdk : dstOk N o = true)
    (hc : callOf P ⟨full ++ base, own⟩ o = some (f, args, [])) (ha : args.all Av.isD = true) (hv : r = valT full base d) : Eff P N full base o own own := fun σ e0 e1 e2 K hK => by
  refine ⟨hdk, ?_⟩
  rw [vval_plain hp, wstep_none (plain_notW hp)]
  refine .inl ?_
  unfold callK
  rw [callOf_congr e1 (τ := ⟨full ++ base, own⟩) e0, hc]
  refine ⟨ha, _, hR, fun x hx _ => ?_⟩
  subst hx
  refine hK _ (by rw [put_h]; exact e0) fun t => ?_
  show (St.put σ o.dst x).tmp t = _
  rw [put_tmp, hd]
  by_cases e : some d = some t
  · rw [if_pos e, if_pos e]; cases e; exact hv
  · rw [if_neg e, if_neg e]
end
end Go.Smd
end
